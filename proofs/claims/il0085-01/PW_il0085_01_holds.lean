import PyProof.Rows.All
import Wide.All
import OpenK.AllK
import Wide.FinOn
import Lean
import PySem.Challenge.RW_il0085_01
set_option autoImplicit false
set_option Elab.async false
set_option maxRecDepth 100000
set_option maxHeartbeats 4000000
set_option genSizeOf false
set_option genInjectivity false
set_option linter.all false
open List renaming length_append→aa,mem_of_getElem?→ac,length_map→ae,getElem?_eq_some_iff→ag,getElem?_eq_getElem→ak,append_nil→al,take_succ_eq_append_getElem→av,append_assoc→aw,all_eq_true→ax,mem_singleton→ay,mem_cons→az,eq_nil_of_length_eq_zero→aG,getElem?_map→aN,mem_append→aU,getElem?_append_right→aV,map_cons→aZ,map_append→bh,take_length→bj,mem_append_right→bm,pairwise_cons→bn,getElem?_eq_none_iff→bq,drop_eq_getElem_cons→bz,drop_eq_nil_of_le→bA,replicate→bB,length_take→bC,mem_map→bE,filter_cons_of_pos→bH,getElem?_of_mem→bJ,getD_eq_getElem?_getD→bK,length_drop→bU,filter_cons_of_neg→bV,take_of_length_le→bX,range→bZ,nodup_cons→b0,getElem?_append_left→cb,take_append_drop→cc,mem_append_left→cm,getElem_mem→cy,length_filter_le→cz,size_toArray→cH,map_congr_left→cO,flatMap_append→cP,mem_range→cQ,length_cons→cR,map_map→c6,mem_map_of_mem→dw,forIn_cons→dD,flatMap_cons→dN,drop_zero→dP,cons_lt_cons_iff→d8,concat_eq_append→d9,map_fst_zip→eo,isEmpty_nil→et,length→eE,dropLast_concat→eF,reverse_append→fj,getElem?_concat_length→fw,filter_append→fJ,pairwise_iff_getElem→fR,getLast?_eq_none_iff→fS,getElem?_inj→gg,lookup_cons→gR,length_zip→ip,getElem?_eq_none→iK,mem_of_mem_take→iY,length_dropLast→iZ,drop_eq_nil_iff→i3,findIdx?_cons→jS,toArray→kD,reverse_cons→kE,pairwise_map→kF,length_range→kG,dropLast_append_of_ne_nil→lh,length_nil→mJ,foldl_cons→mK,isSuffixOf_iff_suffix→ow,getElem?_zip_eq_some→pM,map_take→pQ,filterMap_cons_some→pR,getElem_cons_drop→rL,getElem?_set_self→rM,getElem?_toArray→tB,eq_nil_or_concat→tC,dropLast_eq_take→tD,append_inj_right→tE,reverse_reverse→ur,map_id→ut,getElem_reverse→uu,getElem?_set_ne→uv,takeWhile_cons→wb,replicate_succ→wc,length_reverse→wd,append_toArray→we,getElem?_drop→wj,nodup_append→yS,mem_reverse→yY,filter_cons→yZ,drop_length→y0,append_inj'→y8
open PySem.Heap renaming get?_push_of_some→af,get?_push_size→ao,lt_size→au,size_push→aH,get?_update_other→aI,size_after_update→aO,SameBut→bk,get?_update_self→bD,ExtBut→mI,get?_push_ne→yU
open Nat renaming le_trans→aj,le_refl→am,le_of_ble_eq_true→aq,lt_of_le_of_lt→aC,zero_le→aD,lt_of_lt_of_le→aE,lt_succ_self→aL,ne_of_lt→aP,le_of_lt→aW,le_add_right→aX,not_lt→bf,succ_pos→bo,le_succ→bv,lt_trans→bw,lt_irrefl→bx,add_le_add_left→bP,ne_of_gt→bR,le_of_eq→bS,lt_add_of_pos_right→cn,le_succ_of_le→cq,add_sub_cancel_left→cr,not_lt_zero→cF,le_add_left→cG,zero_add→cJ,lt_succ_of_lt→cK,le_of_lt_succ→cL,le_antisymm→db,le_of_not_lt→dq,succ_add_eq_add_succ→dC,sub_le→dJ,lt_or_ge→dW,succ_le_succ→ez,min_le_right→eA,min_eq_left→fg,add_sub_cancel'→fu,sub_self→fA,lt_or_gt_of_ne→fP,one_pos→gi,add_assoc→gO,succ_ne_self→gT,min_eq_right→gU,sub_lt→im,min_self→io,le_sub_one_of_lt→jl,not_le→kh,mod_lt→ki,eq_or_lt_of_le→kj,add_right_comm→km,lt_trichotomy→kL,sub_lt_sub_iff_right→rK,add_right_cancel→vZ
open Bool renaming false_ne_true→aA,and_eq_true→aS,false_eq_true→be,and_eq_true_iff→cI,not_eq_true'→dQ,or_eq_true→eK,and_true→gj,eq_iff_iff→iw,or_eq_false_iff→i4,or_eq_true_iff→jn,or_true→kH,not_true→pS
open Option renaming map_eq_some_iff→aF,bind_eq_some_iff→aY,map→cX,isNone_iff_eq_none→nh
open PySem.Obj renaming mapSeq→aR,isFreed_of_fields→eh,mapFields→eC,cls_mapFields→kK,data_mapFields→yR
open Array renaming getElem?_toList→ba,length_toList→cu,getElem?_eq_none→c5,toList_push→dc,mem_toList_iff→eB,getElem?_eq_some_iff→fB,getElem?_eq_getElem→fQ,size_setIfInBounds→gh,toList_append→jm,getElem?_setIfInBounds_self→jT,getD_eq_getD_getElem?→mM,getElem?_eq_none_iff→ni,getD→wh,forIn_toList→wi,any_toList→yV,size_push→y9
open Int renaming natCast_nonneg→bg,ofNat_le→c7,ofNat_lt→ds,eq_ofNat_of_zero_le→dK,lt_trans→iq,le_of_lt→ir,not_lt→pN,not_le→pO,fmod_eq_emod_of_nonneg→pP
open PySem.Str renaming ofString→bF
open PySem.Env renaming kindOf→c8
open Prod renaming ext→ou
section
namespace Mine
section
inductive V where
 | none | bool (b:Bool) | int (i:Int) | str (s:List Nat) | tup (l:List V) | flist (l:List V)
 | loc (n:Nat) | tstr | app (n:Nat)
noncomputable abbrev Hp:=List (List V)
structure St where
 fv:List (Option V)
 hp:Hp
inductive Res (α:Type) where
 | ok (a:α) (s:St) | ex (s:St) | bad
noncomputable def Res.bind {α β:Type}:Res α→(α→St→Res β)→Res β
 | .ok a s,f=>f a s
 | .ex s,_=>.ex s
 | .bad,_=>.bad
noncomputable def lift {α:Type} (o:Option α) (st:St):Res α:=match o with
 | some a=>.ok a st
 | .none=>.bad
inductive Bop where | add | sub | mod | mul
inductive Cop where | eq | ne | lt | le | gt | ge | isin | notin
inductive B1 where | len | chr | ord | sorted | min | max | typ
inductive M0 where | splitlines | rstrip
inductive M1 where | join | translate | rstrip | endswith | startswith | rfind | split
set_option genCtorIdx false in
mutual
inductive E where
 | lit (v:V)
 | var (i:Nat)
 | cv
 | glob (k:Nat)
 | list (es:Es)
 | tup (es:Es)
 | bin (op:Bop) (a b:E)
 | cmp (op:Cop) (a b:E)
 | chain (o1 o2:Cop) (a b c:E)
 | and (a b:E)
 | or (a b:E)
 | neg (a:E)
 | ife (t:T) (a b:E)
 | idx (a i:E)
 | sliceHi (a hi:E)
 | sliceLo (a lo:E)
 | sliceLH (a lo hi:E)
 | b1 (f:B1) (a:E)
 | isbytes (a:E)
 | issub (a:E)
 | int16 (a:E)
 | divmod (a b:E)
 | m0 (f:M0) (a:E)
 | m1 (f:M1) (a b:E)
 | replace (a:E) (x:Nat) (t:List Nat)
 | append (a b:E)
 | extend (a b:E)
 | insert0 (a b:E)
 | bapp (a:E)
 | callv (i:Nat) (b:E)
 | call (f:Nat) (es:Es)
 | comp (elt it:E)
 | compIf (elt it:E) (c:T)
 | sortK (f:Nat) (a:E)
 | tmap (f:Nat) (a:E)
inductive Es where
 | nil
 | cons (e:E) (es:Es)
inductive T where
 | val (e:E)
 | cmp (op:Cop) (a b:E)
 | not (t:T)
 | and (ts:Ts)
 | or (ts:Ts)
inductive Ts where
 | nil
 | cons (t:T) (ts:Ts)
end
set_option genCtorIdx false in
mutual
inductive S where
 | assign (i:Nat) (e:E)
 | asgC (i:Nat) (elt it:E)
 | asgCI (i:Nat) (elt it:E) (c:T)
 | assign2 (i j:Nat) (e:E)
 | unpack (is:List Nat) (e:E)
 | unpack2 (i j:Nat) (a b:E)
 | aug (i:Nat) (op:Bop) (e:E)
 | expr (e:E)
 | ret (e:E)
 | ifS (t:T) (b o:Ss)
 | whileS (t:T) (b:Ss)
 | forL (i:Nat) (e:E) (b:Ss)
 | forT (is:List Nat) (e:E) (b:Ss)
 | forR (i:Nat) (hi:E) (b:Ss)
 | forR2 (i:Nat) (lo hi:E) (b:Ss)
 | forE (i j:Nat) (e:E) (b:Ss)
 | brk
 | cont
 | tryP (b:Ss)
 | tryX (b h:Ss)
 | tryF (b f:Ss)
 | setc (i:Nat) (elt it:E)
inductive Ss where
 | nil
 | stop
 | cons (s:S) (ss:Ss)
end
noncomputable def LIM:Nat:=1000000
section
noncomputable def onInt {α:Type} (v:V) (k:Int→Res α):Res α:=match v with
 | .int i=>k i
 | _=>.bad
noncomputable def onStr {α:Type} (v:V) (k:List Nat→Res α):Res α:=match v with
 | .str s=>k s
 | _=>.bad
noncomputable def onLoc {α:Type} (v:V) (k:Nat→Res α):Res α:=match v with
 | .loc n=>k n
 | _=>.bad
noncomputable def onTup {α:Type} (v:V) (k:List V→Res α):Res α:=match v with
 | .tup l=>k l
 | _=>.bad
noncomputable def onFl {α:Type} (v:V) (k:List V→Res α):Res α:=match v with
 | .flist l=>k l
 | _=>.bad
noncomputable def onApp {α:Type} (v:V) (k:Nat→Res α):Res α:=match v with
 | .app n=>k n
 | _=>.bad
noncomputable def lst {α:Type} (st:St) (n:Nat) (k:List V→Res α):Res α:=match st.hp[n]? with
 | some l=>k l
 | .none=>.bad
noncomputable def onList {α:Type} (v:V) (st:St) (k:Nat→List V→Res α):Res α:=onLoc v fun n=>lst st n fun l=>k n l
noncomputable def guard {α:Type} (b:Bool) (k:Res α):Res α:=match b with
 | true=>k
 | false=>.bad
noncomputable def some1 {α:Type} (s:List Nat) (k:Nat→Res α):Res α:=match s with
 | [c]=>k c
 | _=>.bad
noncomputable def two {α β:Type} (s:List β) (k:β→β→Res α):Res α:=match s with
 | [c,d]=>k c d
 | _=>.bad
noncomputable def onSome {α β:Type} (o:Option β) (k:β→Res α):Res α:=match o with
 | some b=>k b
 | .none=>.bad
noncomputable def leq {α β:Type} (f:α→β→Option Bool):List α→List β→Option Bool
 | [],[]=>some true
 | x::xs,y::ys=>(f x y).bind fun a=>(leq f xs ys).bind fun b=>some (a&&b)
 | _,_=>.none
noncomputable def same2 (σ:Hp) (a b:V) (fi:Int→Int→Bool) (fs:List Nat→List Nat→Bool) (fb:Bool→Bool→Option Bool) (k:Bool→List V→List V→Option Bool):Option Bool:=match a with
 | .int i=>(match b with | .int j=>some (fi i j) | _=>.none)
 | .str s=>(match b with | .str t=>some (fs s t) | _=>.none)
 | .bool i=>(match b with | .bool j=>fb i j | _=>.none)
 | .tup l=>(match b with | .tup l'=>k true l l' | _=>.none)
 | .loc i=>(match b with | .loc j=>(σ[i]?).bind fun l=>(σ[j]?).bind fun l'=>k false l l' | _=>.none)
 | _=>.none
noncomputable def veq (σ:Hp):Nat→V→V→Option Bool
 | 0,_,_=>.none
 | n+1,a,b=>same2 σ a b (fun i j=>decide (i=j)) (fun s t=>decide (s=t)) (fun i j=>some (i == j)) fun t l l'=>if l.length=l'.length then leq (veq σ n) l l' else if t then .none else some false
noncomputable def llt {α:Type} (eq lt:α→α→Option Bool):List α→List α→Option Bool
 | _,[]=>some false
 | [],_::_=>some true
 | x::xs,y::ys=>(eq x y).bind fun e=>if e then llt eq lt xs ys else lt x y
noncomputable def vlt (σ:Hp):Nat→V→V→Option Bool
 | 0,_,_=>.none
 | n+1,a,b=>same2 σ a b (fun i j=>decide (i < j)) (fun s t=>decide (s < t)) (fun _ _=>.none) fun _ l l'=>llt (veq σ n) (vlt σ n) l l'
noncomputable def DEPTH:Nat:=4
noncomputable def truth (σ:Hp):V→Option Bool
 | .bool b=>some b
 | .str s=>some (!s.isEmpty)
 | .loc n=>(σ[n]?).map fun l=>!l.isEmpty
 | .tup l=>some (!l.isEmpty)
 | _=>.none
noncomputable def mkStr (s:List Nat) (st:St):Res V:=if s.length≤LIM then .ok (.str s) st else .bad
noncomputable def alloc (l:List V) (st:St):Res V:=if l.length≤LIM then .ok (.loc st.hp.length) { st with hp:=st.hp++[l] } else .bad
noncomputable def mkTup (l:List V) (st:St):Res V:=if l.length≤LIM then .ok (.tup l) st else .bad
noncomputable def addV (a b:V) (st:St):Res V:=match a with
 | .int i=>onInt b fun j=>.ok (.int (i+j)) st
 | .str s=>onStr b fun t=>mkStr (s++t) st
 | a=>onList a st fun _ l=>onList b st fun _ l'=>alloc (l++l') st
noncomputable def binop (op:Bop) (a b:V) (st:St):Res V:=match op with
 | .add=>addV a b st
 | .sub=>onInt a fun i=>onInt b fun j=>.ok (.int (i - j)) st
 | .mod=>onInt a fun i=>onInt b fun j=>guard (decide (0 < j)) (.ok (.int (i % j)) st)
 | .mul=>onStr a fun s=>onInt b fun n=>guard (decide (0≤n)&&decide (n≤1000)&&decide (s.length≤1000)) (.ok (.str (bB n.toNat s).flatten) st)
noncomputable def augV (op:Bop) (a b:V) (st:St):Res V:=match op with
 | .add=>(match a with
  | .int i=>onInt b fun j=>.ok (.int (i+j)) st
  | a=>onStr a fun s=>onStr b fun t=>mkStr (s++t) st)
 | _=>.bad
noncomputable def memV (σ:Hp) (x:V):List V→Option Bool
 | []=>some false
 | y::ys=>(veq σ DEPTH y x).bind fun a=>(memV σ x ys).bind fun b=>some (a||b)
noncomputable def ordV (a b:V) (f:Int→Int→Bool) (g:List Nat→List Nat→Bool):Option Bool:=same2 [] a b f g (fun _ _=>.none) fun _ _ _=>.none
noncomputable def inV (σ:Hp) (a b:V):Option Bool:=match b with
 | .str t=>(match a with | .str [c]=>some (decide (c∈t)) | _=>.none)
 | .loc n=>(σ[n]?).bind fun l=>memV σ a l
 | .tup l=>memV σ a l
 | _=>.none
noncomputable def cmpop (op:Cop) (a b:V) (σ:Hp):Option Bool:=match op with
 | .eq=>veq σ DEPTH a b
 | .ne=>(veq σ DEPTH a b).map (!·)
 | .lt=>vlt σ DEPTH a b
 | .gt=>ordV a b (fun i j=>decide (j < i)) fun s t=>decide (t < s)
 | .le=>ordV a b (fun i j=>decide (i≤j)) fun s t=>!decide (t < s)
 | .ge=>ordV a b (fun i j=>decide (j≤i)) fun s t=>!decide (s < t)
 | .isin=>inV σ a b
 | .notin=>(inV σ a b).map (!·)
noncomputable def normIdx (i:Int) (n:Nat):Option Nat:=
 if 0≤i∧i < (n:Int) then some i.toNat else if -(n:Int)≤i∧i < 0 then some (i+n).toNat else .none
noncomputable def itemAt {α:Type} (l:List α) (k:Int):Option α:=(normIdx k l.length).bind fun j=>l[j]?
noncomputable def idxV (a i:V) (st:St):Res V:=onInt i fun k=>match a with
 | .flist l=>lift (itemAt l k) st
 | .tup l=>lift (itemAt l k) st
 | .str s=>lift ((itemAt s k).map fun c=>.str [c]) st
 | a=>onList a st fun _ l=>match itemAt l k with
  | some v=>.ok v st
  | .none=>if (l.length:Int)≤k∧k < 2 ^ 62 then .ex st else .bad
noncomputable def clamp (i:Int) (n:Nat):Nat:=if i < 0 then (i+n).toNat else min i.toNat n
noncomputable def cut {α:Type} (l:List α) (lo hi:Option Int):List α:=
 let a:=match lo with | some i=>clamp i l.length | .none=>0
 let b:=match hi with | some i=>clamp i l.length | .none=>l.length
 (l.take b).drop a
noncomputable def BIG:Int:=2 ^ 62
noncomputable def okBound:Option Int→Bool
 | some i=>decide (-BIG < i∧i < BIG)
 | .none=>true
noncomputable def sliceV (a:V) (lo hi:Option Int) (st:St):Res V:=guard (okBound lo&&okBound hi) (match a with
  | .str s=>.ok (.str (cut s lo hi)) st
  | .flist l=>alloc (cut l lo hi) st
  | a=>onList a st fun _ l=>alloc (cut l lo hi) st)
noncomputable def hexVal (c:Nat):Option Nat:=
 if 48≤c∧c≤57 then some (c - 48) else if 65≤c∧c≤70 then some (c - 55) else if 97≤c∧c≤102 then some (c - 87) else .none
noncomputable def insOne (lt:V→V→Bool) (k:V×V):List (V×V)→List (V×V)
 | []=>[k]
 | y::ys=>if lt k.1 y.1 then k::y::ys else y::insOne lt k ys
noncomputable def insAll (lt:V→V→Bool):List (V×V)→List (V×V)
 | []=>[]
 | x::xs=>insOne lt x (insAll lt xs)
noncomputable def ltB (σ:Hp) (a b:V):Bool:=(vlt σ DEPTH a b).getD false
noncomputable def strict (σ:Hp) (ks:List V):Bool:=
 (ks.all fun a=>ks.all fun b=>(vlt σ DEPTH a b).isSome)&&(ks.all fun a=>!ltB σ a a) &&
 (ks.all fun a=>ks.all fun b=>ks.all fun c=>!(ltB σ a b&&ltB σ b c)||ltB σ a c)
noncomputable def apart (σ:Hp):List V→Bool
 | []=>true
 | a::r=>(r.all fun b=>ltB σ a b||ltB σ b a)&&apart σ r
noncomputable def kindV:V→Nat
 | .str _=>1
 | .loc _=>2
 | _=>0
noncomputable def sortPairs (σ:Hp) (ps:List (V×V)):Option (List V):=
 let ks:=ps.map (·.1)
 if ps.length < 60∧(ks.all (fun k=>kindV k == 1)||ks.all (fun k=>kindV k == 2))∧strict σ ks∧apart σ ks then some ((insAll (ltB σ) ps).map (·.2)) else .none
noncomputable def ltS:List (List Nat)→List (List Nat)→Bool
 | _,[]=>false
 | [],_::_=>true
 | x::xs,y::ys=>if x=y then ltS xs ys else decide (x < y)
noncomputable def strsOf:List V→Option (List (List Nat))
 | []=>some []
 | v::r=>match v with
  | .str s=>(strsOf r).map (s::·)
  | _=>.none
noncomputable def lenV (a:V) (st:St):Res V:=match a with
 | .str s=>.ok (.int s.length) st
 | a=>onList a st fun _ l=>.ok (.int l.length) st
noncomputable def sortedV (a:V) (st:St):Res V:=onList a st fun _ l=>onSome (sortPairs st.hp (l.map fun v=>(v,v))) fun r=>alloc r st
noncomputable def pickV (f:List (List Nat)→List (List Nat)→Bool) (a:V) (st:St):Res V:=onList a st fun _ l=>two l fun x y=>onLoc x fun i=>onLoc y fun j=>
 lst st i fun x=>lst st j fun y=>onSome (strsOf x) fun p=>onSome (strsOf y) fun q=>.ok (.loc (if f p q then j else i)) st
noncomputable def typV (a:V) (st:St):Res V:=onStr a fun _=>.ok .tstr st
noncomputable def isbytesV (a:V) (st:St):Res V:=onStr a fun _=>.ok (.bool false) st
noncomputable def issubV (a:V) (st:St):Res V:=match a with
 | .tstr=>.ok (.bool true) st
 | _=>.bad
noncomputable def int16V (a:V) (st:St):Res V:=onStr a fun s=>two s fun x y=>onSome (hexVal x) fun h=>onSome (hexVal y) fun l=>.ok (.int ((16 * h+l:Nat):Int)) st
noncomputable def b1V (f:B1) (a:V) (st:St):Res V:=match f with
 | .len=>lenV a st
 | .chr=>onInt a fun i=>guard (decide (0≤i)&&decide (i < 1114112)) (.ok (.str [i.toNat]) st)
 | .ord=>onStr a fun s=>some1 s fun c=>.ok (.int c) st
 | .sorted=>sortedV a st
 | .min=>pickV (fun p q=>ltS q p) a st
 | .max=>pickV (fun p q=>ltS p q) a st
 | .typ=>typV a st
noncomputable def joinL (sep:List Nat):List (List Nat)→List Nat
 | []=>[]
 | [x]=>x
 | x::r=>x++sep++joinL sep r
noncomputable def transL (tab:List V):List Nat→Option (List Nat)
 | []=>some []
 | c::r=>match tab[c]?,transL tab r with
  | some (.str s),some t=>some (s++t)
  | _,_=>.none
noncomputable def rstripL (p:Nat→Bool) (s:List Nat):List Nat:=(s.reverse.dropWhile p).reverse
noncomputable def linesGo (acc:List Nat):List Nat→List (List Nat)
 | []=>if acc.isEmpty then [] else [acc]
 | c::r=>if c=10 then acc::linesGo [] r else linesGo (acc++[c]) r
noncomputable def linesL (s:List Nat):List (List Nat):=linesGo [] s
noncomputable def plainSign (c:Nat):Bool:=c == 9||c == 10||(32≤c&&c≤126)
noncomputable def rfindL (c:Nat) (s:List Nat):Int:=
 match s.reverse.findIdx? (· == c) with
 | some i=>(s.length:Int) - 1 - i
 | .none=>-1
noncomputable def splitL (c:Nat):List Nat→List (List Nat)
 | []=>[[]]
 | d::r=>if d=c then []::splitL c r else match splitL c r with
  | x::xs=>(d::x)::xs
  | []=>[[d]]
noncomputable def m0V (f:M0) (a:V) (st:St):Res V:=onStr a fun s=>match f with
 | .splitlines=>guard (decide (s.length≤LIM)&&s.all plainSign) (alloc ((linesL s).map .str) st)
 | .rstrip=>.ok (.str (rstripL PySem.Unicode.isSpace s)) st
noncomputable def m1V (f:M1) (s:List Nat) (b:V) (st:St):Res V:=match f with
 | .join=>onList b st fun _ l=>onSome (strsOf l) fun ts=>mkStr (joinL s ts) st
 | .translate=>onFl b fun tab=>onSome (transL tab s) fun t=>mkStr t st
 | .rstrip=>onStr b fun t=>.ok (.str (rstripL t.contains s)) st
 | .endswith=>onStr b fun t=>.ok (.bool (t.isSuffixOf s)) st
 | .startswith=>onStr b fun t=>.ok (.bool (t.isPrefixOf s)) st
 | .rfind=>onStr b fun t=>some1 t fun c=>.ok (.int (rfindL c s)) st
 | .split=>onStr b fun t=>some1 t fun c=>guard (decide (s.length≤LIM)) (alloc ((splitL c s).map .str) st)
noncomputable def divmodV (a b:V) (st:St):Res V:=onInt a fun i=>onInt b fun j=>guard (decide (0 < j)&&decide (j < 1000000)&&decide (0≤i)&&decide (i < 10000000000)) (.ok (.tup [.int (i / j),.int (i % j)]) st)
noncomputable def replV (a:V) (x:Nat) (t:List Nat) (st:St):Res V:=onStr a fun s=>guard (decide (t.length=3)) (mkStr (s.flatMap fun y=>if y=x then t else [y]) st)
noncomputable def setList (n:Nat) (f:List V→List V) (st:St):Res V:=lst st n fun l=>if (f l).length≤LIM then .ok .none { st with hp:=st.hp.set n (f l) } else .bad
noncomputable abbrev CallT:=Nat→List V→Hp→Option (V×Hp)
noncomputable def callR (call:CallT) (f:Nat) (vs:List V) (st:St):Res V:=onSome (call f vs st.hp) fun r=>.ok r.1 { st with hp:=r.2 }
noncomputable def noEx {α:Type}:Res α→Res α
 | .ok a st=>.ok a st
 | _=>.bad
noncomputable def mapR (g:V→St→Res V):List V→St→Res (List V)
 | [],st=>.ok [] st
 | x::xs,st=>(g x st).bind fun y st=>(mapR g xs st).bind fun ys st=>.ok (y::ys) st
noncomputable def sortKV (call:CallT) (f:Nat) (x:V) (st:St):Res V:=onList x st fun _ l=>
 (mapR (fun y st=>callR call f [y] st) l st).bind fun ks st=>onSome (sortPairs st.hp (ks.zip l)) fun r=>alloc r st
noncomputable def nextOf (σ:Hp) (i:Nat):V→Option (Option V)
 | .loc n=>(σ[n]?).map fun l=>l[i]?
 | .flist l=>some l[i]?
 | .tup l=>some l[i]?
 | .str s=>some ((s[i]?).map fun c=>.str [c])
 | _=>.none
noncomputable def FUEL:Nat:=100000
noncomputable def compGo (src:V) (g:V→St→Res (List V)):Nat→Nat→St→Res (List V)
 | 0,_,_=>.bad
 | k+1,i,st=>match nextOf st.hp i src with
  | .none=>.bad
  | some o=>(match o with
   | .none=>.ok [] st
   | some x=>(noEx (g x st)).bind fun ys st=>(compGo src g k (i+1) st).bind fun zs st=>.ok (ys++zs) st)
noncomputable def tmapV (call:CallT) (f:Nat) (x:V) (st:St):Res V:=onLoc x fun _=>(compGo x (fun y st=>(callR call f [y] st).bind fun r st=>.ok [r] st) FUEL 0 st).bind fun l st=>mkTup l st
noncomputable def getVar (st:St) (i:Nat):Res V:=match st.fv[i]? with
 | some (some v)=>.ok v st
 | _=>.bad
noncomputable def setVar (st:St) (i:Nat) (v:V):St:={ st with fv:=st.fv.set i (some v) }
noncomputable def compV (src:V) (g:V→St→Res (List V)) (st:St):Res V:=(compGo src g FUEL 0 st).bind fun r st'=>alloc r { st' with fv:=st.fv }
section
variable (call:CallT) (G:Nat→Option V)
mutual
noncomputable def ev (cv:Option V):E→St→Res V
 | .lit v,st=>.ok v st
 | .var i,st=>getVar st i
 | .cv,st=>lift cv st
 | .glob k,st=>lift (G k) st
 | .list es,st=>(evs cv es st).bind alloc
 | .tup es,st=>(evs cv es st).bind mkTup
 | .bin op a b,st=>(ev cv a st).bind fun x st=>(ev cv b st).bind fun y st=>binop op x y st
 | .cmp op a b,st=>(ev cv a st).bind fun x st=>(ev cv b st).bind fun y st=>(lift (cmpop op x y st.hp) st).bind fun r st=>.ok (.bool r) st
 | .chain o1 o2 a b c,st=>(ev cv a st).bind fun x st=>(ev cv b st).bind fun y st=>(lift (cmpop o1 x y st.hp) st).bind fun r st=>
  if r then (ev cv c st).bind fun z st=>(lift (cmpop o2 y z st.hp) st).bind fun r st=>.ok (.bool r) st else .ok (.bool false) st
 | .and a b,st=>(ev cv a st).bind fun x st=>(lift (truth st.hp x) st).bind fun r st=>if r then ev cv b st else .ok x st
 | .or a b,st=>(ev cv a st).bind fun x st=>(lift (truth st.hp x) st).bind fun r st=>if r then .ok x st else ev cv b st
 | .neg a,st=>(ev cv a st).bind fun x st=>onInt x fun i=>.ok (.int (-i)) st
 | .ife t a b,st=>(evT cv t st).bind fun r st=>if r then ev cv a st else ev cv b st
 | .idx a i,st=>(ev cv a st).bind fun x st=>(ev cv i st).bind fun y st=>idxV x y st
 | .sliceHi a hi,st=>(ev cv a st).bind fun x st=>(ev cv hi st).bind fun y st=>onInt y fun j=>sliceV x .none (some j) st
 | .sliceLo a lo,st=>(ev cv a st).bind fun x st=>(ev cv lo st).bind fun y st=>onInt y fun j=>sliceV x (some j) .none st
 | .sliceLH a lo hi,st=>(ev cv a st).bind fun x st=>(ev cv lo st).bind fun y st=>(ev cv hi st).bind fun z st=>onInt y fun j=>onInt z fun k=>sliceV x (some j) (some k) st
 | .b1 f a,st=>(ev cv a st).bind fun x st=>b1V f x st
 | .isbytes a,st=>(ev cv a st).bind fun x st=>isbytesV x st
 | .issub a,st=>(ev cv a st).bind fun x st=>issubV x st
 | .int16 a,st=>(ev cv a st).bind fun x st=>int16V x st
 | .divmod a b,st=>(ev cv a st).bind fun x st=>(ev cv b st).bind fun y st=>divmodV x y st
 | .m0 f a,st=>(ev cv a st).bind fun x st=>m0V f x st
 | .m1 f a b,st=>(ev cv a st).bind fun x st=>onStr x fun s=>(ev cv b st).bind fun y st=>m1V f s y st
 | .replace a x t,st=>(ev cv a st).bind fun v st=>replV v x t st
 | .append a b,st=>(ev cv a st).bind fun x st=>onLoc x fun n=>(ev cv b st).bind fun y st=>setList n (·++[y]) st
 | .extend a b,st=>(ev cv a st).bind fun x st=>onLoc x fun n=>(ev cv b st).bind fun y st=>onList y st fun m l=>guard (decide (n≠m)) (setList n (·++l) st)
 | .insert0 a b,st=>(ev cv a st).bind fun x st=>onLoc x fun n=>(ev cv b st).bind fun y st=>setList n (y::·) st
 | .bapp a,st=>(ev cv a st).bind fun x st=>onLoc x fun n=>.ok (.app n) st
 | .callv i b,st=>(getVar st i).bind fun x st=>onApp x fun n=>(ev cv b st).bind fun y st=>setList n (·++[y]) st
 | .call f es,st=>(evs cv es st).bind fun l st=>callR call f l st
 | .comp elt it,st=>(ev cv it st).bind fun x st=>compV x (fun y st=>(ev (some y) elt st).bind fun r st=>.ok [r] st) st
 | .compIf elt it c,st=>(ev cv it st).bind fun x st=>
  compV x (fun y st=>(evT (some y) c st).bind fun b st=>if b then (ev (some y) elt st).bind fun r st=>.ok [r] st else .ok [] st) st
 | .sortK f a,st=>(ev cv a st).bind fun x st=>sortKV call f x st
 | .tmap f a,st=>(ev cv a st).bind fun x st=>tmapV call f x st
noncomputable def evs (cv:Option V):Es→St→Res (List V)
 | .nil,st=>.ok [] st
 | .cons e es,st=>(ev cv e st).bind fun x st=>(evs cv es st).bind fun xs st=>.ok (x::xs) st
noncomputable def evT (cv:Option V):T→St→Res Bool
 | .val e,st=>(ev cv e st).bind fun x st=>lift (truth st.hp x) st
 | .cmp op a b,st=>(ev cv a st).bind fun x st=>(ev cv b st).bind fun y st=>lift (cmpop op x y st.hp) st
 | .not a,st=>(evT cv a st).bind fun b st=>.ok (!b) st
 | .and ts,st=>evTA cv ts st
 | .or ts,st=>evTO cv ts st
noncomputable def evTA (cv:Option V):Ts→St→Res Bool
 | .nil,st=>.ok true st
 | .cons t ts,st=>(evT cv t st).bind fun b st=>if b then evTA cv ts st else .ok false st
noncomputable def evTO (cv:Option V):Ts→St→Res Bool
 | .nil,st=>.ok false st
 | .cons t ts,st=>(evT cv t st).bind fun b st=>if b then .ok true st else evTO cv ts st
end
inductive Fl where | next | brk | cont | ret (v:V)
noncomputable def setVars (st:St):List Nat→List V→St
 | i::is,v::vs=>setVars (setVar st i v) is vs
 | _,_=>st
noncomputable def unpackV (is:List Nat) (v:V) (st:St):Res Fl:=onTup v fun l=>guard (decide (l.length=is.length)) (.ok .next (setVars st is l))
noncomputable def turn (f:Fl) (st:St) (k:St→Res Fl):Res Fl:=match f with
 | .brk=>.ok .next st
 | .ret v=>.ok (.ret v) st
 | _=>k st
noncomputable def forGo (src:V) (g:V→Nat→St→Res Fl):Nat→Nat→St→Res Fl
 | 0,_,_=>.bad
 | k+1,i,st=>match nextOf st.hp i src with
  | .none=>.bad
  | some o=>(match o with
   | .none=>.ok .next st
   | some x=>(noEx (g x i st)).bind fun f st=>turn f st (forGo src g k (i+1)))
noncomputable def rangeGo (g:V→St→Res Fl) (lo:Int):Nat→St→Res Fl
 | 0,st=>.ok .next st
 | k+1,st=>(noEx (g (.int lo) st)).bind fun f st=>turn f st (rangeGo g (lo+1) k)
noncomputable def rangeV (g:V→St→Res Fl) (x y:V) (st:St):Res Fl:=onInt x fun a=>onInt y fun c=>
 guard (decide (0≤a)&&decide (a≤LIM)&&decide (0≤c)&&decide (c≤LIM)) (rangeGo g a (c - a).toNat st)
noncomputable def whileGo (t:St→Res Bool) (b:St→Res Fl):Nat→St→Res Fl
 | 0,_=>.bad
 | k+1,st=>(t st).bind fun c st=>if c then (b st).bind fun f st=>turn f st (whileGo t b k) else .ok .next st
noncomputable def allT:List V→Bool
 | []=>true
 | v::r=>match v with
  | .bool c=>c&&allT r
  | _=>false
noncomputable def oneTrue {α:Type} (l:List V) (k:Res α):Res α:=guard (!l.isEmpty&&allT l) k
noncomputable def thenNext {α:Type} (r:Res Fl) (k:St→Res α):Res α:=r.bind fun q st=>match q with
 | .next=>k st
 | _=>.bad
mutual
noncomputable def ex:S→St→Res Fl
 | .assign i e,st=>(ev call G .none e st).bind fun v st=>.ok .next (setVar st i v)
 | .asgC i elt it,st=>(ev call G .none (.comp elt it) st).bind fun v st=>.ok .next (setVar st i v)
 | .asgCI i elt it c,st=>(ev call G .none (.compIf elt it c) st).bind fun v st=>.ok .next (setVar st i v)
 | .assign2 i j e,st=>(ev call G .none e st).bind fun v st=>.ok .next (setVar (setVar st i v) j v)
 | .unpack is e,st=>(ev call G .none e st).bind fun v st=>unpackV is v st
 | .unpack2 i j a b,st=>(ev call G .none (.tup (.cons a (.cons b .nil))) st).bind fun v st=>unpackV [i,j] v st
 | .aug i op e,st=>(getVar st i).bind fun x st=>(ev call G .none e st).bind fun y st=>(augV op x y st).bind fun z st=>.ok .next (setVar st i z)
 | .expr e,st=>(ev call G .none e st).bind fun _ st=>.ok .next st
 | .ret e,st=>(ev call G .none e st).bind fun v st=>.ok (.ret v) st
 | .ifS t b o,st=>(evT call G .none t st).bind fun c st=>if c then exs b st else exs o st
 | .whileS t b,st=>whileGo (fun st=>evT call G .none t st) (fun st=>exs b st) FUEL st
 | .forL i e b,st=>(ev call G .none e st).bind fun x st=>forGo x (fun y _ st=>exs b (setVar st i y)) FUEL 0 st
 | .forT is e b,st=>(ev call G .none e st).bind fun x st=>forGo x (fun y _ st=>(unpackV is y st).bind fun _ st=>exs b st) FUEL 0 st
 | .forR i hi b,st=>(ev call G .none hi st).bind fun y st=>rangeV (fun y st=>exs b (setVar st i y)) (.int 0) y st
 | .forR2 i lo hi b,st=>(ev call G .none lo st).bind fun x st=>(ev call G .none hi st).bind fun y st=>rangeV (fun y st=>exs b (setVar st i y)) x y st
 | .forE i j e b,st=>(ev call G .none e st).bind fun x st=>onLoc x fun _=>forGo x (fun y k st=>exs b (setVar (setVar st i (.int k)) j y)) FUEL 0 st
 | .brk,st=>.ok .brk st
 | .cont,st=>.ok .cont st
 | .tryP b,st=>noEx (exs b st)
 | .tryX b h,st=>match exs b st with
  | .ex st=>noEx (exs h st)
  | r=>r
 | .tryF b f,st=>match exs b st with
  | .ok g st=>thenNext (exs f st) fun st=>.ok g st
  | .ex st=>thenNext (exs f st) fun st=>.ex st
  | .bad=>.bad
 | .setc i elt it,st=>(ev call G .none it st).bind fun x st=>
  (compGo x (fun y st=>(ev call G (some y) elt st).bind fun r st=>.ok [r] st) FUEL 0 st).bind fun r st'=>oneTrue r (.ok .next (setVar { st' with fv:=st.fv } i (.bool true)))
noncomputable def exs:Ss→St→Res Fl
 | .nil,st=>.ok .next st
 | .stop,_=>.bad
 | .cons s ss,st=>(ex s st).bind fun f st=>match f with
  | .next=>exs ss st
  | f=>.ok f st
end
end
structure FD where
 npar:Nat
 vararg:Bool
 dflt:List V
 nvars:Nat
 body:Ss
noncomputable def frame (fd:FD) (args:List V):Option (List (Option V)):=
 if fd.vararg then
  if fd.npar≤args.length∧args.length≤LIM then some ((args.take fd.npar).map some++some (.tup (args.drop fd.npar))::bB (fd.nvars - fd.npar - 1) .none) else .none
 else if args.length+fd.dflt.length=fd.npar then some ((args++fd.dflt).map some++bB (fd.nvars - fd.npar) .none)
 else .none
noncomputable def endOf:Res Fl→Option (V×Hp)
 | .ok f st=>match f with
  | .ret v=>some (v,st.hp)
  | .next=>some (.none,st.hp)
  | _=>.none
 | _=>.none
noncomputable def stepN (call:CallT) (G:Nat→Option V) (fd:FD) (vs:List V) (σ:Hp):Option (V×Hp):=(frame fd vs).bind fun fv=>endOf (exs call G fd.body ⟨fv,σ⟩)
noncomputable def callN (F:Nat→Option FD) (G:Nat→Option V):Nat→CallT
 | 0,_,_,_=>.none
 | d+1,f,args,σ=>(F f).bind fun fd=>stepN (callN F G d) G fd args σ
end
end
noncomputable def iD:FD where
 npar:=1
 vararg:=false
 dflt:=[]
 nvars:=1
 body:=
  (.cons (.ret (.b1 .chr (.int16 (.sliceLH (.var 0) (.lit (.int 1)) (.lit (.int 3)))))) .nil)
noncomputable def lg:FD where
 npar:=1
 vararg:=false
 dflt:=[]
 nvars:=1
 body:=
  (.cons (.ret (.idx (.glob 2) (.b1 .ord (.var 0)))) .nil)
noncomputable def dY:FD where
 npar:=3
 vararg:=false
 dflt:=[.int 76,.str [10]]
 nvars:=13
 body:=
  (.cons (.ifS (.cmp .lt (.var 1) (.lit (.int 4))) .stop .nil)
  (.cons (.ifS (.not (.val (.var 0)))
    (.cons (.ret (.var 0)) .nil) .nil)
  (.cons (.assign 0 (.m1 .translate (.var 0) (.glob 3)))
  (.cons (.assign 3 (.bin .add (.lit (.str [61])) (.var 2)))
  (.cons (.assign 4 (.bin .sub (.var 1) (.lit (.int 1))))
  (.cons (.assign 5 (.list .nil))
  (.cons (.assign 6 (.bapp (.var 5)))
  (.cons (.forL 7 (.m0 .splitlines (.var 0))
    (.cons (.assign 8 (.lit (.int 0)))
    (.cons (.assign 9 (.bin .sub (.bin .sub (.b1 .len (.var 7)) (.lit (.int 1))) (.var 1)))
    (.cons (.whileS (.cmp .le (.var 8) (.var 9))
      (.cons (.assign 10 (.bin .add (.var 8) (.var 4)))
      (.cons (.ifS (.cmp .eq (.idx (.var 7) (.bin .sub (.var 10) (.lit (.int 2)))) (.lit (.str [61])))
        (.cons (.expr (.callv 6 (.sliceLH (.var 7) (.var 8) (.bin .sub (.var 10) (.lit (.int 1))))))
        (.cons (.assign 8 (.bin .sub (.var 10) (.lit (.int 2)))) .nil))
        (.cons (.ifS (.cmp .eq (.idx (.var 7) (.bin .sub (.var 10) (.lit (.int 1)))) (.lit (.str [61])))
          (.cons (.expr (.callv 6 (.sliceLH (.var 7) (.var 8) (.var 10))))
          (.cons (.assign 8 (.bin .sub (.var 10) (.lit (.int 1)))) .nil))
          (.cons (.expr (.callv 6 (.bin .add (.sliceLH (.var 7) (.var 8) (.var 10)) (.lit (.str [61])))))
          (.cons (.assign 8 (.var 10)) .nil))) .nil)) .nil)))
    (.cons (.ifS (.and (.cons (.val (.var 7)) (.cons (.cmp .isin (.idx (.var 7) (.neg (.lit (.int 1)))) (.lit (.str [32,9]))) .nil)))
      (.cons (.assign 11 (.bin .sub (.var 8) (.var 9)))
      (.cons (.ifS (.cmp .ge (.var 11) (.lit (.int 3)))
        (.cons (.assign 12 (.call 1 (.cons (.idx (.var 7) (.neg (.lit (.int 1)))) .nil))) .nil)
        (.cons (.ifS (.cmp .eq (.var 11) (.lit (.int 2)))
          (.cons (.assign 12 (.bin .add (.idx (.var 7) (.neg (.lit (.int 1)))) (.var 3))) .nil)
          (.cons (.assign 12 (.bin .add (.var 3) (.call 1 (.cons (.idx (.var 7) (.neg (.lit (.int 1)))) .nil)))) .nil)) .nil))
      (.cons (.expr (.callv 6 (.bin .add (.sliceLH (.var 7) (.var 8) (.neg (.lit (.int 1)))) (.var 12)))) .nil)))
      (.cons (.expr (.callv 6 (.sliceLo (.var 7) (.var 8)))) .nil)) .nil)))))
  (.cons (.ifS (.cmp .isin (.idx (.var 0) (.neg (.lit (.int 1)))) (.glob 0))
    (.cons (.expr (.callv 6 (.lit (.str [])))) .nil) .nil)
  (.cons (.ret (.m1 .join (.var 2) (.var 5))) .nil))))))))))
noncomputable def jM:FD where
 npar:=2
 vararg:=false
 dflt:=[.str [10]]
 nvars:=7
 body:=
  (.cons (.ifS (.not (.val (.var 0)))
    (.cons (.ret (.var 0)) .nil) .nil)
  (.cons (.assign 2 (.lit (.str [])))
  (.cons (.forL 3 (.m0 .splitlines (.var 0))
    (.cons (.assign 3 (.m0 .rstrip (.var 3)))
    (.cons (.ifS (.not (.val (.var 3)))
      (.cons (.aug 2 .add (.var 1))
      (.cons .cont .nil)) .nil)
    (.cons (.assign 4 (.lit (.int 0)))
    (.cons (.assign 5 (.b1 .len (.var 3)))
    (.cons (.whileS (.cmp .lt (.var 4) (.var 5))
      (.cons (.assign 6 (.idx (.var 3) (.var 4)))
      (.cons (.ifS (.cmp .ne (.var 6) (.lit (.str [61])))
        (.cons (.aug 2 .add (.var 6))
        (.cons (.aug 4 .add (.lit (.int 1))) .nil))
        (.cons (.ifS (.cmp .eq (.bin .add (.var 4) (.lit (.int 1))) (.var 5))
          (.cons (.aug 4 .add (.lit (.int 1)))
          (.cons .cont .nil))
          (.cons (.ifS (.and (.cons (.cmp .lt (.bin .add (.var 4) (.lit (.int 2))) (.var 5)) (.cons (.cmp .isin (.idx (.var 3) (.bin .add (.var 4) (.lit (.int 1)))) (.glob 1)) (.cons (.cmp .isin (.idx (.var 3) (.bin .add (.var 4) (.lit (.int 2)))) (.glob 1)) .nil))))
            (.cons (.aug 2 .add (.call 0 (.cons (.sliceLH (.var 3) (.var 4) (.bin .add (.var 4) (.lit (.int 3)))) .nil)))
            (.cons (.aug 4 .add (.lit (.int 3))) .nil))
            (.cons (.aug 2 .add (.var 6))
            (.cons (.aug 4 .add (.lit (.int 1))) .nil))) .nil)) .nil))
      (.cons (.ifS (.cmp .eq (.var 4) (.var 5))
        (.cons (.aug 2 .add (.var 1)) .nil) .nil) .nil)))) .nil))))))
  (.cons (.ifS (.and (.cons (.cmp .notin (.idx (.var 0) (.neg (.lit (.int 1)))) (.lit (.str [13,10]))) (.cons (.val (.m1 .endswith (.var 2) (.var 1))) .nil)))
    (.cons (.assign 2 (.sliceHi (.var 2) (.neg (.b1 .len (.var 1))))) .nil) .nil)
  (.cons (.ret (.var 2)) .nil)))))
noncomputable def jL:FD where
 npar:=1
 vararg:=false
 dflt:=[]
 nvars:=4
 body:=
  (.cons (.assign 1 (.b1 .typ (.var 0)))
  (.cons (.ifS (.val (.issub (.var 1)))
    (.cons (.ret (.var 0)) .nil) .nil) .stop))
noncomputable def iE:FD where
 npar:=1
 vararg:=false
 dflt:=[]
 nvars:=1
 body:=
  (.cons (.ifS (.val (.isbytes (.var 0))) .stop
    (.cons (.ret (.lit (.str [47]))) .nil)) .nil)
noncomputable def jh:FD where
 npar:=1
 vararg:=true
 dflt:=[]
 nvars:=5
 body:=
  (.cons (.assign 0 (.call 4 (.cons (.var 0) .nil)))
  (.cons (.assign 2 (.call 5 (.cons (.var 0) .nil)))
  (.cons (.assign 3 (.var 0))
  (.cons (.tryP
    (.cons (.forL 4 (.var 1)
      (.cons (.assign 4 (.call 4 (.cons (.var 4) .nil)))
      (.cons (.ifS (.or (.cons (.val (.m1 .startswith (.var 4) (.var 2))) (.cons (.not (.val (.var 3))) .nil)))
        (.cons (.assign 3 (.var 4)) .nil)
        (.cons (.ifS (.val (.m1 .endswith (.var 3) (.var 2)))
          (.cons (.aug 3 .add (.var 4)) .nil)
          (.cons (.aug 3 .add (.bin .add (.var 2) (.var 4))) .nil)) .nil)) .nil))) .nil))
  (.cons (.ret (.var 3)) .nil)))))
noncomputable def lc:FD where
 npar:=1
 vararg:=false
 dflt:=[]
 nvars:=5
 body:=
  (.cons (.assign 0 (.call 4 (.cons (.var 0) .nil)))
  (.cons (.assign 1 (.call 5 (.cons (.var 0) .nil)))
  (.cons (.assign 2 (.bin .add (.m1 .rfind (.var 0) (.var 1)) (.lit (.int 1))))
  (.cons (.unpack2 3 4 (.sliceHi (.var 0) (.var 2)) (.sliceLo (.var 0) (.var 2)))
  (.cons (.ifS (.and (.cons (.val (.var 3)) (.cons (.cmp .ne (.var 3) (.bin .mul (.var 1) (.b1 .len (.var 3)))) .nil)))
    (.cons (.assign 3 (.m1 .rstrip (.var 3) (.var 1))) .nil) .nil)
  (.cons (.ret (.tup (.cons (.var 3) (.cons (.var 4) .nil)))) .nil))))))
noncomputable def iG:FD where
 npar:=1
 vararg:=false
 dflt:=[]
 nvars:=4
 body:=
  (.cons (.assign 0 (.call 4 (.cons (.var 0) .nil)))
  (.cons (.assign 1 (.call 5 (.cons (.var 0) .nil)))
  (.cons (.assign 2 (.bin .add (.m1 .rfind (.var 0) (.var 1)) (.lit (.int 1))))
  (.cons (.assign 3 (.sliceHi (.var 0) (.var 2)))
  (.cons (.ifS (.and (.cons (.val (.var 3)) (.cons (.cmp .ne (.var 3) (.bin .mul (.var 1) (.b1 .len (.var 3)))) .nil)))
    (.cons (.assign 3 (.m1 .rstrip (.var 3) (.var 1))) .nil) .nil)
  (.cons (.ret (.var 3)) .nil))))))
noncomputable def eG:FD where
 npar:=1
 vararg:=false
 dflt:=[]
 nvars:=11
 body:=
  (.cons (.assign 0 (.tmap 4 (.var 0)))
  (.cons (.ifS (.not (.val (.var 0))) .stop .nil)
  (.cons (.ifS (.val (.isbytes (.idx (.var 0) (.lit (.int 0))))) .stop
    (.cons (.assign 1 (.lit (.str [47])))
    (.cons (.assign 2 (.lit (.str [46]))) .nil)))
  (.cons (.tryP
    (.cons (.asgC 3 (.m1 .split .cv (.var 1)) (.var 0))
    (.cons (.tryP
      (.cons (.setc 4 (.m1 .startswith .cv (.var 1)) (.var 0)) .nil))
    (.cons (.asgC 3 (.compIf .cv .cv (.and (.cons (.val .cv) (.cons (.cmp .ne .cv (.var 2)) .nil)))) (.var 3))
    (.cons (.assign 6 (.b1 .min (.var 3)))
    (.cons (.assign 7 (.b1 .max (.var 3)))
    (.cons (.assign 8 (.var 6))
    (.cons (.forE 9 5 (.var 6)
      (.cons (.ifS (.cmp .ne (.var 5) (.idx (.var 7) (.var 9)))
        (.cons (.assign 8 (.sliceHi (.var 6) (.var 9)))
        (.cons .brk .nil)) .nil) .nil))
    (.cons (.assign 10 (.ife (.val (.var 4)) (.var 1) (.sliceHi (.var 1) (.lit (.int 0)))))
    (.cons (.ret (.bin .add (.var 10) (.m1 .join (.var 1) (.var 8)))) .nil)))))))))) .nil))))
noncomputable def ce:FD where
 npar:=2
 vararg:=false
 dflt:=[]
 nvars:=8
 body:=
  (.cons (.assign2 2 3 (.lit (.int 0)))
  (.cons (.assign 4 (.list .nil))
  (.cons (.assign 5 (.list .nil))
  (.cons (.whileS (.val (.lit (.bool true)))
    (.cons (.tryX
      (.cons (.assign 6 (.idx (.var 0) (.var 2)))
      (.cons (.assign 7 (.idx (.var 1) (.var 3)))
      (.cons (.ifS (.cmp .lt (.var 6) (.var 7))
        (.cons (.expr (.append (.var 4) (.var 6)))
        (.cons (.aug 2 .add (.lit (.int 1)))
        (.cons (.whileS (.cmp .eq (.idx (.var 0) (.var 2)) (.var 6))
          (.cons (.aug 2 .add (.lit (.int 1))) .nil)) .nil)))
        (.cons (.ifS (.cmp .gt (.var 6) (.var 7))
          (.cons (.expr (.append (.var 5) (.var 7)))
          (.cons (.aug 3 .add (.lit (.int 1)))
          (.cons (.whileS (.cmp .eq (.idx (.var 1) (.var 3)) (.var 7))
            (.cons (.aug 3 .add (.lit (.int 1))) .nil)) .nil)))
          (.cons (.aug 2 .add (.lit (.int 1)))
          (.cons (.tryF
            (.cons (.whileS (.cmp .eq (.idx (.var 0) (.var 2)) (.var 6))
              (.cons (.aug 2 .add (.lit (.int 1))) .nil)) .nil)
            (.cons (.aug 3 .add (.lit (.int 1)))
            (.cons (.whileS (.cmp .eq (.idx (.var 1) (.var 3)) (.var 7))
              (.cons (.aug 3 .add (.lit (.int 1))) .nil)) .nil))) .nil))) .nil)) .nil)))
      (.cons (.expr (.extend (.var 4) (.sliceLo (.var 0) (.var 2))))
      (.cons (.expr (.extend (.var 5) (.sliceLo (.var 1) (.var 3))))
      (.cons .brk .nil)))) .nil))
  (.cons (.ret (.tup (.cons (.var 4) (.cons (.var 5) .nil)))) .nil)))))
noncomputable def fG:FD where
 npar:=1
 vararg:=false
 dflt:=[]
 nvars:=15
 body:=
  (.cons (.assign 1 (.list (.cons (.lit (.int 46)) (.cons (.lit (.int 97)) (.cons (.lit (.int 33)) (.cons (.lit (.int 98)) (.cons (.lit (.int 32)) (.cons (.lit (.int 45)) (.cons (.lit (.int 61)) (.cons (.lit (.int 9)) (.cons (.lit (.int 126)) (.cons (.lit (.int 48)) (.cons (.lit (.int 95)) (.cons (.lit (.int 0)) (.cons (.lit (.int 10)) (.cons (.lit (.int 47)) (.cons (.lit (.int 133)) (.cons (.lit (.int 255)) .nil))))))))))))))))))
  (.cons (.assign 2 (.list (.cons (.list .nil) (.cons (.list (.cons (.lit (.str [97])) .nil)) (.cons (.list (.cons (.lit (.str [97])) (.cons (.lit (.str [98])) .nil))) (.cons (.list (.cons (.lit (.str [98])) .nil)) (.cons (.list (.cons (.lit (.str [98])) (.cons (.lit (.str [97])) .nil))) .nil)))))))
  (.cons (.assign 3 (.list (.cons (.list .nil) (.cons (.list (.cons (.lit (.str [97])) .nil)) (.cons (.list (.cons (.lit (.str [97])) (.cons (.lit (.str [98])) .nil))) .nil)))))
  (.cons (.assign 4 (.list (.cons (.list .nil) (.cons (.list (.cons (.lit (.str [98])) .nil)) (.cons (.list (.cons (.lit (.str [98])) (.cons (.lit (.str [97])) .nil))) .nil)))))
  (.cons (.forL 5 (.sliceHi (.var 0) (.lit (.int 5)))
    (.cons (.unpack [5,6] (.divmod (.bin .mod (.var 5) (.lit (.int 1000003))) (.lit (.int 3))))
    (.cons (.unpack [5,7] (.divmod (.var 5) (.b1 .len (.var 2))))
    (.cons (.unpack [5,8] (.divmod (.var 5) (.lit (.int 15))))
    (.cons (.unpack [5,9] (.divmod (.var 5) (.lit (.int 17))))
    (.cons (.assign 10 (.b1 .chr (.idx (.var 1) (.bin .add (.lit (.int 1)) (.var 8)))))
    (.cons (.forL 11 (.tup (.cons (.var 9) (.cons (.bin .mod (.var 5) (.lit (.int 17))) .nil)))
      (.cons (.ifS (.cmp .gt (.var 11) (.lit (.int 0)))
        (.cons (.aug 10 .add (.b1 .chr (.idx (.var 1) (.bin .sub (.var 11) (.lit (.int 1)))))) .nil) .nil) .nil))
    (.cons (.assign 12 (.bin .add (.sliceHi (.idx (.var 2) (.var 7)) (.lit (.int 2))) (.list (.cons (.var 10) .nil))))
    (.cons (.ifS (.cmp .notin (.var 12) (.var 2))
      (.cons (.expr (.append (.var 2) (.var 12))) .nil) .nil)
    (.cons (.forL 13 (.idx (.tup (.cons (.list (.cons (.var 3) .nil)) (.cons (.list (.cons (.var 4) .nil)) (.cons (.list (.cons (.var 3) (.cons (.var 4) .nil))) .nil)))) (.var 6))
      (.cons (.forR2 14 (.lit (.int 1)) (.bin .add (.b1 .len (.var 12)) (.lit (.int 1)))
        (.cons (.ifS (.cmp .notin (.sliceHi (.var 12) (.var 14)) (.var 13))
          (.cons (.expr (.append (.var 13) (.sliceHi (.var 12) (.var 14)))) .nil) .nil) .nil)) .nil)) .nil))))))))))
  (.cons (.ret (.tup (.cons (.var 3) (.cons (.var 4) .nil)))) .nil))))))
noncomputable def gL:FD where
 npar:=2
 vararg:=false
 dflt:=[]
 nvars:=4
 body:=
  (.cons (.assign 2 (.lit (.str [47])))
  (.cons (.forL 3 (.var 0)
    (.cons (.ifS (.val (.var 1))
      (.cons (.assign 2 (.call 6 (.cons (.var 2) (.cons (.replace (.call 2 (.cons (.var 3) .nil)) 47 [61,50,70]) .nil)))) .nil)
      (.cons (.assign 2 (.call 6 (.cons (.var 2) (.cons (.m1 .join (.lit (.str [])) (.comp (.call 1 (.cons .cv .nil)) (.var 3))) .nil)))) .nil)) .nil))
  (.cons (.ret (.var 2)) .nil)))
noncomputable def gJ:FD where
 npar:=1
 vararg:=false
 dflt:=[]
 nvars:=3
 body:=
  (.cons (.assign 1 (.list .nil))
  (.cons (.whileS (.cmp .ne (.var 0) (.lit (.str [47])))
    (.cons (.unpack [0,2] (.call 7 (.cons (.var 0) .nil)))
    (.cons (.expr (.insert0 (.var 1) (.call 3 (.cons (.var 2) .nil)))) .nil)))
  (.cons (.ret (.var 1)) .nil)))
noncomputable def fH:FD where
 npar:=1
 vararg:=false
 dflt:=[]
 nvars:=5
 body:=
  (.cons (.assign 1 (.list .nil))
  (.cons (.forR 2 (.b1 .len (.var 0))
    (.cons (.assign 3 (.b1 .ord (.idx (.var 0) (.var 2))))
    (.cons (.assign 4 (.or (.cmp .isin (.var 3) (.tup (.cons (.lit (.int 9)) (.cons (.lit (.int 10)) .nil)))) (.and (.chain .le .le (.lit (.int 32)) (.var 3) (.lit (.int 126))) (.cmp .notin (.var 3) (.tup (.cons (.lit (.int 47)) (.cons (.lit (.int 61)) .nil)))))))
    (.cons (.ifS (.and (.cons (.cmp .isin (.var 3) (.tup (.cons (.lit (.int 9)) (.cons (.lit (.int 32)) .nil)))) (.cons (.or (.cons (.cmp .eq (.bin .add (.var 2) (.lit (.int 1))) (.b1 .len (.var 0))) (.cons (.cmp .eq (.idx (.var 0) (.bin .add (.var 2) (.lit (.int 1)))) (.lit (.str [10]))) .nil))) .nil)))
      (.cons (.assign 4 (.lit (.bool false))) .nil) .nil)
    (.cons (.expr (.append (.var 1) (.ife (.val (.var 4)) (.tup (.cons (.var 3) (.cons (.lit (.int 0)) .nil))) (.tup (.cons (.lit (.int 61)) (.cons (.var 3) .nil)))))) .nil)))))
  (.cons (.ret (.var 1)) .nil)))
noncomputable def gK:FD where
 npar:=1
 vararg:=false
 dflt:=[]
 nvars:=3
 body:=
  (.cons (.assign 1 (.list .nil))
  (.cons (.forL 2 (.var 0)
    (.cons (.expr (.append (.var 1) (.tup (.cons (.lit (.int 47)) (.cons (.lit (.int 0)) .nil)))))
    (.cons (.expr (.extend (.var 1) (.call 14 (.cons (.var 2) .nil)))) .nil)))
  (.cons (.ret (.var 1)) .nil)))
noncomputable def gI:FD where
 npar:=1
 vararg:=false
 dflt:=[]
 nvars:=6
 body:=
  (.cons (.forL 1 (.var 0)
    (.cons (.ifS (.cmp .eq (.compIf .cv (.var 0) (.cmp .eq (.sliceHi .cv (.neg (.lit (.int 1)))) (.var 1))) (.list .nil))
      (.cons .cont .nil) .nil)
    (.cons (.assign 3 (.b1 .len (.var 1)))
    (.cons (.assign 4 (.call 14 (.cons (.idx (.var 1) (.neg (.lit (.int 1)))) .nil)))
    (.cons (.forL 2 (.var 0)
      (.cons (.ifS (.and (.cons (.cmp .ge (.b1 .len (.var 2)) (.var 3)) (.cons (.cmp .eq (.sliceHi (.var 2) (.bin .sub (.var 3) (.lit (.int 1)))) (.sliceHi (.var 1) (.neg (.lit (.int 1))))) .nil)))
        (.cons (.assign 5 (.call 14 (.cons (.idx (.var 2) (.bin .sub (.var 3) (.lit (.int 1)))) .nil)))
        (.cons (.ifS (.and (.cons (.cmp .gt (.b1 .len (.var 5)) (.b1 .len (.var 4))) (.cons (.cmp .eq (.sliceHi (.var 5) (.b1 .len (.var 4))) (.var 4)) (.cons (.cmp .lt (.idx (.var 5) (.b1 .len (.var 4))) (.tup (.cons (.lit (.int 47)) (.cons (.lit (.int 0)) .nil)))) .nil))))
          (.cons (.ret (.lit (.bool true))) .nil) .nil) .nil)) .nil) .nil)) .nil)))))
  (.cons (.ret (.lit (.bool false))) .nil))
noncomputable def fF:FD where
 npar:=2
 vararg:=false
 dflt:=[]
 nvars:=4
 body:=
  (.cons (.forR 2 (.b1 .len (.var 0))
    (.cons (.assign 3 (.call 8 (.cons (.idx (.var 0) (.var 2)) .nil)))
    (.cons (.ifS (.and (.cons (.cmp .notin (.var 3) (.var 1)) (.cons (.or (.cons (.cmp .eq (.var 2) (.lit (.int 0))) (.cons (.cmp .ne (.call 9 (.cons (.list (.cons (.idx (.var 0) (.bin .sub (.var 2) (.lit (.int 1)))) (.cons (.idx (.var 0) (.var 2)) .nil))) .nil)) (.var 3)) .nil))) .nil)))
      (.cons (.ret (.lit (.bool false))) .nil) .nil) .nil)))
  (.cons (.ret (.lit (.bool true))) .nil))
noncomputable def q8:FD where
 npar:=1
 vararg:=false
 dflt:=[]
 nvars:=14
 body:=
  (.cons (.unpack [1,2] (.call 11 (.cons (.var 0) .nil)))
  (.cons (.forL 3 (.tup (.cons (.lit (.bool false)) (.cons (.lit (.bool true)) .nil)))
    (.cons (.assign 4 (.b1 .sorted (.comp (.call 12 (.cons .cv (.cons (.var 3) .nil))) (.var 1))))
    (.cons (.assign 5 (.b1 .sorted (.comp (.call 12 (.cons .cv (.cons (.var 3) .nil))) (.var 2))))
    (.cons (.unpack [6,7] (.call 10 (.cons (.var 4) (.cons (.var 5) .nil))))
    (.cons (.asgCI 8 .cv (.var 1) (.cmp .notin .cv (.var 2)))
    (.cons (.asgCI 9 .cv (.var 2) (.cmp .notin .cv (.var 1)))
    (.cons (.forT [10,11,12] (.tup (.cons (.tup (.cons (.var 6) (.cons (.var 5) (.cons (.var 8) .nil)))) (.cons (.tup (.cons (.var 7) (.cons (.var 4) (.cons (.var 9) .nil)))) .nil)))
      (.cons (.assign 13 (.ife (.val (.var 3)) (.sortK 15 (.var 12)) (.b1 .sorted (.var 12))))
      (.cons (.ifS (.cmp .ne (.comp (.call 13 (.cons .cv .nil)) (.var 10)) (.var 13))
        (.cons (.ret (.lit (.bool false))) .nil) .nil)
      (.cons (.ifS (.cmp .eq (.call 17 (.cons (.var 10) (.cons (.var 11) .nil))) (.and (.var 3) (.call 16 (.cons (.var 12) .nil))))
        (.cons (.ret (.lit (.bool false))) .nil) .nil) .nil)))) .nil)))))))
  (.cons (.ret (.lit (.bool true))) .nil)))
noncomputable def FT:Nat→Option FD
 | 0=>some iD
 | 1=>some lg
 | 2=>some dY
 | 3=>some jM
 | 4=>some jL
 | 5=>some iE
 | 6=>some jh
 | 7=>some lc
 | 8=>some iG
 | 9=>some eG
 | 10=>some ce
 | 11=>some fG
 | 12=>some gL
 | 13=>some gJ
 | 14=>some fH
 | 15=>some gK
 | 16=>some gI
 | 17=>some fF
 | 18=>some q8
 | _=>.none
noncomputable def hexDigit (n:Nat):Nat:=if n < 10 then 48+n else 55+n
noncomputable def quoted (c:Nat):List Nat:=[61,hexDigit (c / 16),hexDigit (c % 16)]
noncomputable def encodesItself (c:Nat):Bool:=c == 9||c == 10||c == 13||(32≤c&&c≤126&&c != 61)
noncomputable def GT:Nat→Option V
 | 0=>some (.str [13,10])
 | 1=>some (.str [48,49,50,51,52,53,54,55,56,57,97,98,99,100,101,102,65,66,67,68,69,70])
 | 2=>some (.flist ((bZ 256).map fun c=>.str (quoted c)))
 | 3=>some (.flist ((bZ 256).map fun c=>.str (if encodesItself c then [c] else quoted c)))
 | _=>.none
end Mine
end
section
open PySem PySem.W PyProof.Rows
namespace Mine
section
noncomputable abbrev lobj (xs:Array Value) (n:Nat):Obj:={ cls:=.type "list",data:=.seq xs n }
noncomputable abbrev tobj (xs:Array Value) (n:Nat):Obj:={ cls:=.type "tuple",data:=.seq xs n }
inductive RTup (h:Heap) (l:List V) (R:List Value→Prop) (x:Value):Prop
 | mk (a:Addr) (xs:Array Value) (n:Nat) (ex:x = .ref a) (g:h.get? a=some (tobj xs n)) (z:l.length≤LIM) (r:R xs.toList)
inductive RFlist (B:Heap) (l:List V) (R:List Value→Prop) (x:Value):Prop
 | mk (a:Addr) (o:Obj) (xs:Array Value) (n:Nat) (ex:x = .ref a) (g:B.get? a=some o) (c:o.cls = .type "list") (d:o.data = .seq xs n) (z:l.length≤LIM) (r:R xs.toList)
inductive RApp (ρ:List Addr) (h:Heap) (n:Nat) (x:Value):Prop
 | mk (a b:Addr) (o:Obj) (vs:Array Value) (ex:x = .ref a) (i:ρ[n]?=some b) (g:h.get? a=some o) (c:o.cls = .type "builtin_function_or_method") (d:o.data = .fields vs) (v0:vs[0]?=some (.builtin "list.append")) (v1:vs[1]?=some (.ref b))
mutual
noncomputable def VR (B:Heap) (ρ:List Addr) (h:Heap):V→Value→Prop
 | .none,x=>x = .none
 | .bool b,x=>x = .bool b
 | .int i,x=>∃ t,x = .int i t
 | .str s,x=>s.length≤LIM∧∃ t,x = .str ⟨s.toArray⟩ t
 | .tup l,x=>RTup h l (fun ys=>VRs B ρ h l ys) x
 | .flist l,x=>RFlist B l (fun ys=>VRs B ρ h l ys) x
 | .loc n,x=>∃ a,ρ[n]?=some a∧x = .ref a
 | .tstr,x=>x = .type "str"
 | .app n,x=>RApp ρ h n x
noncomputable def VRs (B:Heap) (ρ:List Addr) (h:Heap):List V→List Value→Prop
 | [],xs=>xs=[]
 | v::l,xs=>∃ x ys,VR B ρ h v x∧VRs B ρ h l ys∧xs=x::ys
end
section
variable {B:Heap} {ρ:List Addr} {h:Heap}
theorem VR.none:VR B ρ h .none .none:=rfl
theorem VR.bool (b:Bool):VR B ρ h (.bool b) (.bool b):=rfl
theorem VR.int (i:Int) (t:Tok):VR B ρ h (.int i) (.int i t):=⟨t,rfl⟩
theorem VR.str (s:List Nat) (t:Tok) (hs:s.length≤LIM):VR B ρ h (.str s) (.str ⟨s.toArray⟩ t):=⟨hs,t,rfl⟩
theorem VR.tup {l:List V} {a:Addr} {xs:Array Value} {n:Nat} (e:h.get? a=some (tobj xs n)) (z:l.length≤LIM) (r:VRs B ρ h l xs.toList):VR B ρ h (.tup l) (.ref a):=⟨a,xs,n,rfl,e,z,r⟩
theorem VR.flist {l:List V} {a:Addr} {o:Obj} {xs:Array Value} {n:Nat} (e:B.get? a=some o) (c:o.cls = .type "list") (d:o.data = .seq xs n) (z:l.length≤LIM) (r:VRs B ρ h l xs.toList):VR B ρ h (.flist l) (.ref a):=⟨a,o,xs,n,rfl,e,c,d,z,r⟩
theorem VR.loc {n:Nat} {a:Addr} (e:ρ[n]?=some a):VR B ρ h (.loc n) (.ref a):=⟨a,e,rfl⟩
theorem VR.tstr:VR B ρ h .tstr (.type "str"):=rfl
theorem VRs.nil:VRs B ρ h [] []:=rfl
theorem VRs.cons {v:V} {x:Value} {l:List V} {xs:List Value} (a:VR B ρ h v x) (r:VRs B ρ h l xs):VRs B ρ h (v::l) (x::xs):=⟨x,xs,a,r,rfl⟩
theorem VRs.length {l:List V}:∀ {xs:List Value},VRs B ρ h l xs→xs.length=l.length:=by
 induction l with
 | nil=>intro xs r;rw [show xs=[] from r];rfl
 | cons v l ih=>intro xs r;obtain⟨x,ys,_,r,rfl⟩:=r;exact congrArg (·+1) (ih r)
theorem VRs.get {l:List V}:∀ {xs:List Value},VRs B ρ h l xs→∀ {i:Nat} {v:V},l[i]?=some v→∃ x,xs[i]?=some x∧VR B ρ h v x:=by
 induction l with
 | nil=>intro xs r i v e;cases e
 | cons w l ih=>
  intro xs r i v e
  obtain⟨x,ys,a,r,rfl⟩:=r
  cases i with
  | zero=>cases e;exact⟨x,rfl,a⟩
  | succ i=>exact ih r (i:=i) e
theorem VRs.append {l l':List V} {xs':List Value} (r':VRs B ρ h l' xs'):∀ {xs:List Value},VRs B ρ h l xs→VRs B ρ h (l++l') (xs++xs'):=by
 induction l with
 | nil=>intro xs r;rw [show xs=[] from r];exact r'
 | cons w l ih=>intro xs r;obtain⟨x,ys,a,r,rfl⟩:=r;exact .cons a (ih r)
theorem VRs.take {l:List V}:∀ {xs:List Value},VRs B ρ h l xs→∀ n:Nat,VRs B ρ h (l.take n) (xs.take n):=by
 induction l with
 | nil=>intro xs r n;rw [show xs=[] from r,List.take_nil,List.take_nil];exact .nil
 | cons w l ih=>
  intro xs r n
  obtain⟨x,ys,a,r,rfl⟩:=r
  cases n with
  | zero=>exact .nil
  | succ n=>exact .cons a (ih r n)
theorem VRs.drop {l:List V}:∀ {xs:List Value},VRs B ρ h l xs→∀ n:Nat,VRs B ρ h (l.drop n) (xs.drop n):=by
 induction l with
 | nil=>intro xs r n;rw [show xs=[] from r,List.drop_nil,List.drop_nil];exact .nil
 | cons w l ih=>
  intro xs r n
  cases n with
  | zero=>exact r
  | succ n=>obtain⟨x,ys,a,r,rfl⟩:=r;exact ih r n
end
inductive Solid (o:Obj):Prop
 | seq (xs:Array Value) (n:Nat) (e:o.data = .seq xs n)
 | fields (vs:Array Value) (e:o.data = .fields vs)
 | set (es:Array (Int×Value)) (ep:Nat) (t:SetTable) (e:o.data = .set es ep t)
inductive KeptAt (h':Heap) (b:Addr) (o:Obj):Prop
 | mk (o':Obj) (e:h'.get? b=some o') (c:o'.cls=o.cls) (d:o'.dict=o.dict) (t:o'.data=o.data) (x:Solid o→o'=o)
structure Keep (W:Addr→Prop) (h h':Heap):Prop where
 old:∀ b o,h.get? b=some o→¬W b→KeptAt h' b o
 size:h.objs.size≤h'.objs.size
def Grow (ρ:List Addr) (h:Heap) (ρ':List Addr):Prop:=∃ δ,ρ'=ρ++δ∧∀ a∈δ,h.objs.size≤a
theorem Grow.refl {ρ:List Addr} {h:Heap}:Grow ρ h ρ:=⟨[],(al ρ).symm,fun _ q=>nomatch q⟩
theorem Grow.get {ρ ρ':List Addr} {h:Heap} (g:Grow ρ h ρ') {n:Nat} {a:Addr} (e:ρ[n]?=some a):ρ'[n]?=some a:=by
 obtain⟨δ,rfl,_⟩:=g
 exact (cb (ag.mp e).1).trans e
theorem Grow.trans {ρ ρ' ρ'':List Addr} {h h':Heap} (g:Grow ρ h ρ') (g':Grow ρ' h' ρ'') (hs:h.objs.size≤h'.objs.size):Grow ρ h ρ'':=by
 obtain⟨δ,rfl,h1⟩:=g
 obtain⟨δ',rfl,h2⟩:=g'
 exact⟨δ++δ',aw _ _ _,fun a ha=>(aU.mp ha).elim (h1 a) fun q=>aj hs (h2 a q)⟩
theorem KeptAt.same {h':Heap} {b:Addr} {o:Obj} (e:h'.get? b=some o):KeptAt h' b o:=⟨o,e,rfl,rfl,rfl,fun _=>rfl⟩
theorem Keep.refl {W:Addr→Prop} {h:Heap}:Keep W h h:=⟨fun _ _ e _=>.same e,am _⟩
theorem Solid.of {o o':Obj} (t:o'.data=o.data):Solid o→Solid o'
 | .seq xs n e=>.seq xs n (t.trans e)
 | .fields vs e=>.fields vs (t.trans e)
 | .set es ep q e=>.set es ep q (t.trans e)
theorem Keep.trans {W W':Addr→Prop} {h h' h'':Heap} (k:Keep W h h') (k':Keep W' h' h'') (hw:∀ b,b < h.objs.size→W' b→W b):Keep W h h'':=
 ⟨fun b o e nw=>by
  obtain⟨o1,e1,c1,d1,t1,x1⟩:=k.old b o e nw
  obtain⟨o2,e2,c2,d2,t2,x2⟩:=k'.old b o1 e1 fun q=>nw (hw b (au e) q)
  exact⟨o2,e2,c2.trans c1,d2.trans d1,t2.trans t1,fun q=>(x2 (q.of t1)).trans (x1 q)⟩,aj k.size k'.size⟩
theorem Keep.mono {W W':Addr→Prop} {h h':Heap} (k:Keep W h h') (hw:∀ b,b < h.objs.size→W b→W' b):Keep W' h h':=
 ⟨fun b o e nw=>k.old b o e fun q=>nw (hw b (au e) q),k.size⟩
theorem Keep.of_all {W:Addr→Prop} {h h':Heap} (k:∀ b o,h.get? b=some o→h'.get? b=some o) (hs:h.objs.size≤h'.objs.size):Keep W h h':=
 ⟨fun b o e _=>.same (k b o e),hs⟩
theorem Keep.push {W:Addr→Prop} {h:Heap} (o:Obj):Keep W h (h.push o):=
 .of_all (fun _ _ e=>af o e) (by rw [aH];exact bv _)
theorem Keep.sameBut {W:Addr→Prop} {h h':Heap} {a:Addr} (hs:bk a h h') (ha:a < h.objs.size→W a):Keep W h h':=
 ⟨fun b o e nw=>.same ((hs.2 b fun q=>nw (by subst q;exact ha (au e))).trans e),bS hs.1.symm⟩
theorem Keep.ns {W:Addr→Prop} {h h':Heap} (k:Keep W h h') {a:Addr} {m:Str→Option Value} (n:h.Ns a m) (nw:¬W a):h'.Ns a m:=by
 obtain⟨o,es,ep,e,hd,r⟩:=n
 obtain⟨o',e',_,_,t,_⟩:=k.old a o e nw
 exact⟨o',es,ep,e',t.trans hd,r⟩
theorem Keep.cell {W:Addr→Prop} {h h':Heap} (k:Keep W h h') {a:Addr} {v:Option Value} (n:h.IsCell a v) (nw:¬W a):h'.IsCell a v:=by
 obtain⟨o,e,hd⟩:=n
 obtain⟨o',e',_,_,t,_⟩:=k.old a o e nw
 exact⟨o',e',t.trans hd⟩
def WritO (o:Obj):Prop:=(∀ xs n,o.data = .seq xs n→o.cls = .type "list")∧∀ vs,o.data = .fields vs→o.cls ≠ .type "builtin_function_or_method"∧o.cls ≠ .type "IndexError"
def Writ (W:Addr→Prop) (h:Heap):Prop:=∀ a o,h.get? a=some o→W a→WritO o
theorem mj:(Value.type "tuple") ≠ .type "list":=fun h=>nomatch (Value.type.inj h)
section
variable {B:Heap} {ρ ρ':List Addr} {h h':Heap} {W:Addr→Prop}
theorem Keep.tup {a:Addr} {xs:Array Value} {n:Nat} (k:Keep W h h') (w:Writ W h) (e:h.get? a=some (tobj xs n)):h'.get? a=some (tobj xs n):=by
 obtain⟨o',e',_,_,_,x⟩:=k.old _ _ e fun q=>mj ((w _ _ e q).1 _ _ rfl)
 rw [x (.seq _ _ rfl)] at e'
 exact e'
variable (k:Keep W h h') (w:Writ W h) (g:∀ (n:Nat) (a:Addr),ρ[n]?=some a→ρ'[n]?=some a)
include k w g
theorem RApp.keep {n:Nat} {x:Value} (r:RApp ρ h n x):RApp ρ' h' n x:=by
 obtain⟨a,b,o,vs,ex,e,ea,c,d,v0,v1⟩:=r
 obtain⟨o',e',c',_,t',_⟩:=k.old _ _ ea fun q=>((w _ _ ea q).2 _ d).1 c
 exact⟨a,b,o',vs,ex,g _ _ e,e',c'.trans c,t'.trans d,v0,v1⟩
mutual
theorem VR.keep {v:V} {x:Value} (r:VR B ρ h v x):VR B ρ' h' v x:=match v with
 | .none=>r
 | .bool _=>r
 | .int _=>r
 | .str _=>r
 | .tup _=>let ⟨a,xs,n,ex,e,z,r⟩:=r; ⟨a,xs,n,ex,k.tup w e,z,VRs.keep r⟩
 | .flist _=>let ⟨a,o,xs,n,ex,e,c,d,z,r⟩:=r; ⟨a,o,xs,n,ex,e,c,d,z,VRs.keep r⟩
 | .loc _=>let ⟨a,e,ex⟩:=r; ⟨a,g _ _ e,ex⟩
 | .tstr=>r
 | .app _=>RApp.keep k w g r
theorem VRs.keep {l:List V} {xs:List Value} (r:VRs B ρ h l xs):VRs B ρ' h' l xs:=match l with
 | []=>r
 | _::_=>let ⟨x,ys,a,r,ex⟩:=r; ⟨x,ys,VR.keep a,VRs.keep r,ex⟩
end
end
structure D where
 B:Shared
 fs:List Env
 hd:Option Value
 env:Env
 fnm:List (Str×NameKind)
 comp:Option Str
 cx:Bool
noncomputable def D.ctx (d:D):Option Value:=if d.cx then some .none else d.hd
theorem D.ctx_none {d:D} (h:d.ctx=none):d.cx=false∧d.hd=none:=by
 unfold D.ctx at h
 cases q:d.cx with
 | true=>rw [q] at h;cases h
 | false=>rw [q] at h;exact⟨rfl,h⟩
inductive HdAt (h:Heap) (v:Value):Prop
 | mk (a:Addr) (o:Obj) (vs:Array Value) (e:v = .ref a) (g:h.get? a=some o) (d:o.data = .fields vs) (v2:vs[2]?=some .none) (c:o.cls = .type "IndexError")
def HandledOk (hd:Option Value) (h:Heap):Prop:=∀ v,hd=some v→HdAt h v
inductive FrameAt (B h:Heap) (e:Env):Prop
 | mk (L:Addr) (m:Str→Option Value) (f:e.frame=some L) (n:h.Ns L m) (b:B.get? L=none)
inductive ListAt (B:Heap) (ρ:List Addr) (h:Heap) (n:Nat) (l:List V):Prop
 | mk (a:Addr) (xs:Array Value) (k:Nat) (i:ρ[n]?=some a) (g:h.get? a=some (lobj xs k)) (r:VRs B ρ h l xs.toList) (z:l.length≤LIM)
structure InvH (B:Shared) (fs:List Env) (hd:Option Value) (ρ:List Addr) (s:Shared) (σ:Hp):Prop where
 base:∀ b o,B.heap.get? b=some o→s.heap.get? b=some o
 gens:s.gens=#[]
 os:s.os=B.os
 len:ρ.length=σ.length
 list:∀ (n:Nat) (l:List V),σ[n]?=some l→ListAt B.heap ρ s.heap n l
 nodup:ρ.Nodup
 fresh:∀ a∈ρ,B.heap.get? a=none
 frames:∀ e∈fs,FrameAt B.heap s.heap e
 hok:HandledOk hd s.heap
def VO (B:Heap) (ρ:List Addr) (h:Heap) (v:Option V) (x:Option Value):Prop:=∀ w,v=some w→∃ y,x=some y∧VR B ρ h w y
inductive DictOk (d:D) (ρ:List Addr) (h:Heap) (cv:Option V) (st:St) (m:Str→Option Value):Prop
 | mk (l:d.comp=none→∀ (i:Nat) (x:Str),d.fnm[i]?=some (x,.local)→VO d.B.heap ρ h (st.fv[i]?.join) (m x)) (c:∀ x,d.comp=some x→VO d.B.heap ρ h cv (m x))
inductive DictAt (d:D) (ρ:List Addr) (h:Heap) (cv:Option V) (st:St):Prop
 | mk (m:Str→Option Value) (n:h.Ns d.env.locals m) (ok:DictOk d ρ h cv st m)
inductive CellAt (d:D) (ρ:List Addr) (h:Heap) (st:St) (i:Nat) (x:Str):Prop
 | mk (c:Addr) (v:Option Value) (l:d.env.cells.lookup x=some c) (n:h.IsCell c v) (b:d.B.heap.get? c=none) (r:VO d.B.heap ρ h (st.fv[i]?.join) v)
structure Inv (d:D) (ρ:List Addr) (cv:Option V) (s:Shared) (st:St):Prop where
 h:InvH d.B d.fs d.hd ρ s st.hp
 lfresh:d.B.heap.get? d.env.locals=none
 dict:DictAt d ρ s.heap cv st
 cells:∀ (i:Nat) (x:Str),d.fnm[i]?=some (x,.cell)→d.env.kindOf x=some .cell→CellAt d ρ s.heap st i x
 capart:d.env.cells.Pairwise fun x y=>x.2≠y.2
 cfresh:∀ x c,(x,c)∈d.env.cells→∃ v,s.heap.IsCell c v∧d.B.heap.get? c=none
def D.W (d:D) (ρ:List Addr) (b:Addr):Prop:=b∈ρ∨b=d.env.locals∨(d.comp=none∧∃ x,(x,b)∈d.env.cells)
structure Post (d:D) (ρ:List Addr) (cv:Option V) (s:Shared) (ρ':List Addr) (s':Shared) (st':St):Prop where
 inv:Inv d ρ' cv s' st'
 keep:Keep (d.W ρ) s.heap s'.heap
 grow:Grow ρ s.heap ρ'
section
variable {B:Shared} {fs:List Env} {hd:Option Value} {ρ ρ' ρ'':List Addr} {s s' s'':Shared} {σ:Hp} {d:D} {cv:Option V} {st st' st'':St}
theorem InvH.small (I:InvH B fs hd ρ s σ) (n:Nat) (l:List V) (e:σ[n]?=some l):l.length≤LIM:=(I.list n l e).casesOn fun _ _ _ _ _ _ z=>z
theorem InvH.at (I:InvH B fs hd ρ s σ) {a:Addr} (ha:a∈ρ):∃ xs k,s.heap.get? a=some (lobj xs k):=by
 obtain⟨n,hn,rfl⟩:=List.mem_iff_getElem.mp ha
 obtain⟨a,xs,k,h1,h2,_⟩:=I.list n _ (ak (by rw [←I.len];exact hn))
 rw [ak hn] at h1
 cases h1
 exact⟨xs,k,h2⟩
theorem Cq {o:Obj} {xs:Array Value} {k:Nat} (e:some (lobj xs k)=some o) {x:Data} (hd:o.data=x) (ne:Data.seq xs k≠x):False:=by
 cases e;exact ne hd
theorem gn {h:Heap} {a:Addr} {o o':Obj} (e:h.get? a=some o) (e':h.get? a=some o') (c:WritO o'):WritO o:=by
 rw [e] at e';cases e';exact c
theorem InvH.writ (I:InvH B fs hd ρ s σ):Writ (·∈ρ) s.heap:=by
 intro a o e w
 obtain⟨xs,k,h2⟩:=I.at w
 exact gn e h2 ⟨fun _ _ _=>rfl,fun vs q=>(nomatch q)⟩
theorem Inv.writ (I:Inv d ρ cv s st):Writ (d.W ρ) s.heap:=by
 intro a o e w
 rcases w with w | w | ⟨_,x,w⟩
 ·exact I.h.writ a o e w
 ·subst w
  obtain⟨m,⟨o',es,ep,e',hd,_⟩,_⟩:=I.dict
  exact gn e e' ⟨fun _ _ q=>(nomatch hd.symm.trans q),fun vs q=>(nomatch hd.symm.trans q)⟩
 ·obtain⟨v,⟨o',e',hd⟩,_⟩:=I.cfresh x a w
  exact gn e e' ⟨fun _ _ q=>(nomatch hd.symm.trans q),fun vs q=>(nomatch hd.symm.trans q)⟩
theorem Post.refl (I:Inv d ρ cv s st):Post d ρ cv s ρ s st:=⟨I,.refl,.refl⟩
theorem D.W_grow {h:Heap} (g:Grow ρ h ρ') (b:Addr) (hb:b < h.objs.size) (w:d.W ρ' b):d.W ρ b:=by
 obtain⟨δ,rfl,hδ⟩:=g
 exact w.imp (fun w=>(aU.mp w).elim id fun q=>absurd (hδ b q) (kh.mpr hb)) id
theorem Post.trans (p:Post d ρ cv s ρ' s' st') (q:Post d ρ' cv s' ρ'' s'' st''):Post d ρ cv s ρ'' s'' st'':=
 ⟨q.inv,p.keep.trans q.keep (D.W_grow p.grow),p.grow.trans q.grow p.keep.size⟩
theorem VR.post (I:Inv d ρ cv s st) (p:Post d ρ cv s ρ' s' st') {v:V} {x:Value} (r:VR d.B.heap ρ s.heap v x):VR d.B.heap ρ' s'.heap v x:=
 VR.keep p.keep I.writ (fun _ _=>p.grow.get) r
theorem VRs.post (I:Inv d ρ cv s st) (p:Post d ρ cv s ρ' s' st') {v:List V} {x:List Value} (r:VRs d.B.heap ρ s.heap v x):VRs d.B.heap ρ' s'.heap v x:=
 VRs.keep p.keep I.writ (fun _ _=>p.grow.get) r
end
inductive TbAt (h₀ h:Heap) (f:Option Addr) (a:Addr) (vs:Array Value):Prop
 | no (v1:vs[1]?=some .none)
 | yes (t:Addr) (ot:Obj) (ts:Array Value) (L:Addr) (v1:vs[1]?=some (.ref t)) (g:h.get? t=some ot) (d:ot.data = .fields ts) (c:ot.cls = .type "traceback") (z:4≤ts.size) (n:h₀.objs.size≤t) (ne:t≠a) (e:f=some L) (t3:ts[3]?=some (rawInt L))
inductive ExcAt (hd:Option Value) (h₀ h:Heap) (f:Option Addr) (e:Value):Prop
 | mk (a:Addr) (o:Obj) (vs:Array Value) (ex:e = .ref a) (g:h.get? a=some o) (c:o.cls = .type "IndexError") (d:o.data = .fields vs) (z:6≤vs.size) (n:h₀.objs.size≤a) (cx:hd=none→vs[2]?=some .none) (tb:TbAt h₀ h f a vs)
theorem TbAt.old {h₀ h₁ h:Heap} {f:Option Addr} {a:Addr} {vs:Array Value} (hs:h₀.objs.size≤h₁.objs.size):TbAt h₁ h f a vs→TbAt h₀ h f a vs
 | .no v1=>.no v1
 | .yes t ot ts L v1 g d c z n ne e t3=>.yes t ot ts L v1 g d c z (aj hs n) ne e t3
theorem ExcAt.old {hd:Option Value} {h₀ h₁ h:Heap} {f:Option Addr} {e:Value} (hs:h₀.objs.size≤h₁.objs.size):ExcAt hd h₁ h f e→ExcAt hd h₀ h f e
 | .mk a o vs ex g c d z n cx tb=>.mk a o vs ex g c d z (aj hs n) cx (tb.old hs)
abbrev PT (α:Type):=(α→Shared→Prop)→(Value→Shared→Prop)→Shared→Prop
def TriP {α β:Type} (d:D) (ρ:List Addr) (cv:Option V) (s:Shared) (RV:List Addr→Heap→β→α→Prop) (P:PT α) (r:Res β):Prop:=
 r ≠ .bad→0 < s.toks→∀ (Q:α→Shared→Prop) (E:Value→Shared→Prop),(∀ b st' a s' ρ',r = .ok b st'→RV ρ' s'.heap b a→Post d ρ cv s ρ' s' st'→Q a s') →
  (∀ st' e s' ρ',r = .ex st'→Post d ρ cv s ρ' s' st'→ExcAt d.ctx s.heap s'.heap d.env.frame e→E e s')→P Q E s
theorem Res.bind_ne {α β:Type} {r:Res α} {f:α→St→Res β} (h:r.bind f ≠ .bad):r ≠ .bad:=fun e=>h (by rw [e];rfl)
theorem opq {P:Prop} (h:∀ G:Prop,(P→G)→G):P:=h P id
section
variable {α β γ δ:Type} {d:D} {ρ:List Addr} {cv:Option V} {s:Shared} {RV:List Addr→Heap→β→α→Prop} {P P':PT α} {r:Res β}
theorem TriP.imp (h:∀ Q E,P Q E s→P' Q E s) (t:TriP d ρ cv s RV P r):TriP d ρ cv s RV P' r:=fun hb h0 Q E hQ hE=>h Q E (t hb h0 Q E hQ hE)
theorem TriP.bind {RV':List Addr→Heap→δ→γ→Prop} {prog:Program} {w:World} {A:Around} {T:Sem α} {F:α→PT γ} {f:β→St→Res δ} (t:TriP d ρ cv s RV (wpAny (model prog w) A T) r)
  (k:∀ b st₁ a s₁ ρ₁,r = .ok b st₁→RV ρ₁ s₁.heap b a→Post d ρ cv s ρ₁ s₁ st₁→TriP d ρ₁ cv s₁ RV' (F a) (f b st₁)) :
  TriP d ρ cv s RV' (fun Q E s=>wpAny (model prog w) A T (fun a s₁=>F a Q E s₁) E s) (r.bind f):=by
 intro hb h0 Q E hQ hE
 refine wpAny_with_toks (n:=1) h0 (t (Res.bind_ne hb) h0 _ _ (fun b st₁ a s₁ ρ₁ e v p h1=>?_) (fun st' e s' ρ' er p x _=>hE st' e s' ρ' (by rw [er];rfl) p x))
 subst e
 exact k b st₁ a s₁ ρ₁ rfl v p hb h1 Q E (fun b' st' a' s' ρ' e' v' p'=>hQ _ _ _ _ _ e' v' (p.trans p')) fun st' e s' ρ' e' p' x=>hE _ _ _ _ e' (p.trans p') (x.old p.keep.size)
theorem TriP.ok {b:β} {st:St} (h:∀ Q E,(∀ a s' ρ',RV ρ' s'.heap b a→Post d ρ cv s ρ' s' st→Q a s')→P Q E s):TriP d ρ cv s RV P (.ok b st):=
 fun _ _ Q E hQ _=>h Q E fun a s' ρ' v p=>hQ b st a s' ρ' rfl v p
theorem TriP.bad:TriP d ρ cv s RV P (.bad:Res β):=fun hb=>absurd rfl hb
end
section
variable {B:Shared} {fs:List Env} {hd:Option Value} {ρ ρ':List Addr} {s s':Shared} {σ:Hp} {d:D} {cv:Option V} {st:St}
theorem HandledOk.keep {h h':Heap} {W:Addr→Prop} (k:Keep W h h') (w:Writ W h) (H:HandledOk hd h):HandledOk hd h':=fun v hv=>by
 obtain⟨a,o,vs,h1,h2,h3,h4,h5⟩:=H v hv
 obtain⟨o',e',c',_,t,_⟩:=k.old a o h2 fun q=>((w a o h2 q).2 vs h3).2 h5
 exact⟨a,o',vs,h1,e',t.trans h3,h4,c'.trans h5⟩
theorem FrameAt.keep {B h h':Heap} {W:Addr→Prop} {e:Env} (k:Keep W h h') (H:FrameAt B h e) (nw:∀ L m,e.frame=some L→h.Ns L m→¬W L):FrameAt B h' e:=by
 obtain⟨L,m,h1,h2,h3⟩:=H
 exact⟨L,m,h1,k.ns h2 (nw _ _ h1 h2),h3⟩
theorem VO.keep {B:Heap} {h h':Heap} {W:Addr→Prop} (k:Keep W h h') (w:Writ W h) (g:∀ (n:Nat) (a:Addr),ρ[n]?=some a→ρ'[n]?=some a) {v:Option V} {x:Option Value} (r:VO B ρ h v x):VO B ρ' h' v x:=
 fun u hu=>(r u hu).imp fun _ q=>⟨q.1,VR.keep k w g q.2⟩
theorem DictAt.keep {h h':Heap} {W:Addr→Prop} (k:Keep W h h') (w:Writ W h) (g:∀ (n:Nat) (a:Addr),ρ[n]?=some a→ρ'[n]?=some a) (nw:¬W d.env.locals) (D:DictAt d ρ h cv st) {st':St} (e:st'.fv=st.fv):DictAt d ρ' h' cv st':=by
 obtain⟨m,n,⟨l,c⟩⟩:=D
 exact⟨m,k.ns n nw,⟨fun hc i x q=>by rw [e];exact (l hc i x q).keep k w g,fun x q=>(c x q).keep k w g⟩⟩
theorem CellAt.keep {h h':Heap} {W:Addr→Prop} (k:Keep W h h') (w:Writ W h) (g:∀ (n:Nat) (a:Addr),ρ[n]?=some a→ρ'[n]?=some a) {i:Nat} {x:Str} (nw:∀ c v,d.env.cells.lookup x=some c→h.IsCell c v→¬W c) (D:CellAt d ρ h st i x) {st':St} (e:st'.fv[i]?.join=st.fv[i]?.join):CellAt d ρ' h' st' i x:=by
 obtain⟨c,v,l,n,b,r⟩:=D
 exact⟨c,v,l,k.cell n (nw _ _ l n),b,by rw [e];exact r.keep k w g⟩
theorem dX {h:Heap}:Writ (fun _=>False) h:=fun _ _ _ f=>f.elim
theorem InvH.keep (I:InvH B fs hd ρ s σ) (base:∀ b o,B.heap.get? b=some o→s.heap.get? b=some o→s'.heap.get? b=some o) (k:Keep (fun _=>False) s.heap s'.heap)
  (kr:∀ a∈ρ,s'.heap.get? a=s.heap.get? a) (hg:s'.gens=s.gens) (ho:s'.os=s.os):InvH B fs hd ρ s' σ where
 base:=fun b o e=>base b o e (I.base b o e)
 gens:=hg.trans I.gens
 os:=ho.trans I.os
 len:=I.len
 list:=fun n l e=>by
  obtain⟨a,xs,q,h1,h2,h3,z⟩:=I.list n l e
  exact⟨a,xs,q,h1,(kr a (ac h1)).trans h2,VRs.keep k dX (fun _ _ e=>e) h3,z⟩
 nodup:=I.nodup
 fresh:=I.fresh
 frames:=fun e he=>(I.frames e he).keep k fun _ _ _ _ f=>f
 hok:=I.hok.keep k dX
theorem Inv.keep (I:Inv d ρ cv s st) (base:∀ b o,d.B.heap.get? b=some o→s.heap.get? b=some o→s'.heap.get? b=some o) (k:Keep (fun _=>False) s.heap s'.heap)
  (kr:∀ a∈ρ,s'.heap.get? a=s.heap.get? a) (hg:s'.gens=s.gens) (ho:s'.os=s.os):Inv d ρ cv s' st where
 h:=I.h.keep base k kr hg ho
 lfresh:=I.lfresh
 dict:=I.dict.keep k dX (fun _ _ e=>e) (fun f=>f) rfl
 cells:=fun i x e1 e2=>(I.cells i x e1 e2).keep k dX (fun _ _ e=>e) (fun _ _ _ _ f=>f) rfl
 capart:=I.capart
 cfresh:=fun x c e=>(I.cfresh x c e).imp fun _ q=>⟨k.cell q.1 (fun f=>f),q.2⟩
theorem Inv.keepF (I:Inv d ρ cv s st) {W:Addr→Prop} (K:Keep W s.heap s'.heap) (hw:∀ a o,s.heap.get? a=some o→W a→(∃ vs,o.data = .fields vs)∧o.cls ≠ .type "builtin_function_or_method"∧o.cls ≠ .type "IndexError")
  (hB:∀ a,W a→d.B.heap.get? a=none) (base:∀ b o,d.B.heap.get? b=some o→s'.heap.get? b=some o) (hg:s'.gens=s.gens) (ho:s'.os=s.os):Inv d ρ cv s' st:=by
 have w:Writ W s.heap:=fun a o e q=>let ⟨⟨vs,hd⟩,hc⟩:=hw a o e q; ⟨fun xs n z=>(nomatch hd.symm.trans z),fun _ _=>hc⟩
 have nd:∀ {a:Addr} {o:Obj} {x:Data},s.heap.get? a=some o→o.data=x→(∀ vs,x ≠ .fields vs)→¬W a:=fun e hx n q=>let ⟨⟨vs,hd⟩,_⟩:=hw _ _ e q;n vs (hx.symm.trans hd)
 have ns:∀ L m,s.heap.Ns L m→¬W L:=fun L m ⟨o,es,ep,e,hd,_⟩=>nd e hd fun vs z=>(nomatch z)
 have cl:∀ c v,s.heap.IsCell c v→¬W c:=fun c v ⟨o,e,hd⟩=>nd e hd fun vs z=>(nomatch z)
 refine⟨⟨base,hg.trans I.h.gens,ho.trans I.h.os,I.h.len,fun n l e=>?_,I.h.nodup,I.h.fresh,fun e he=>(I.h.frames e he).keep K fun L m _=>ns L m,I.h.hok.keep K w⟩,I.lfresh,?_,fun i x e1 e2=>(I.cells i x e1 e2).keep K w (fun _ _ e=>e) (fun c v _=>cl c v) rfl,I.capart,fun x c e=>(I.cfresh x c e).imp fun _ q=>⟨K.cell q.1 (cl _ _ q.1),q.2⟩⟩
 ·obtain⟨a,xs,q,h1,h2,h3,z⟩:=I.h.list n l e
  obtain⟨o',e',_,_,_,x⟩:=K.old _ _ h2 (nd h2 rfl fun vs z=>nomatch z)
  rw [x (.seq _ _ rfl)] at e'
  exact⟨a,xs,q,h1,e',VRs.keep K w (fun _ _ e=>e) h3,z⟩
 ·obtain⟨m,n,_⟩:=I.dict
  exact I.dict.keep K w (fun _ _ e=>e) (ns _ _ n) rfl
theorem Inv.toks (I:Inv d ρ cv s st) (t:Nat):Inv d ρ cv { s with toks:=t } st:=
 I.keep (fun _ _ _ e=>e) .refl (fun _ _=>rfl) rfl rfl
theorem Post.toks (I:Inv d ρ cv s st) (t:Nat):Post d ρ cv s ρ { s with toks:=t } st:=⟨I.toks t,.refl,.refl⟩
theorem Post.grown (I:Inv d ρ cv s st) {h':Heap} {t:Nat} (k:∀ b o,s.heap.get? b=some o→h'.get? b=some o) (hs:s.heap.objs.size≤h'.objs.size) :
  Post d ρ cv s ρ { s with heap:=h',toks:=t } st:=
 ⟨I.keep (fun b o _ e=>k b o e) (.of_all k hs) (fun a ha=>let ⟨_,_,e⟩:=I.h.at ha; (k a _ e).trans e.symm) rfl rfl,.of_all k hs,.refl⟩
end
end
section
variable {d:D} {ρ:List Addr} {cv:Option V} {s:Shared} {st:St}
theorem InvH.ne_data {B:Shared} {fs:List Env} {hd:Option Value} {σ:Hp} (I:InvH B fs hd ρ s σ) {c:Addr} {o:Obj} (e:s.heap.get? c=some o) (hd:∀ xs n,o.data ≠ .seq xs n):c∉ρ:=fun q=>by
 obtain⟨xs,k,e'⟩:=I.at q
 rw [e] at e';cases e';exact hd _ _ rfl
theorem InvH.cne {B:Shared} {fs:List Env} {hd:Option Value} {σ:Hp} (I:InvH B fs hd ρ s σ) {c:Addr} {v:Option Value} (h:s.heap.IsCell c v):c∉ρ:=by
 obtain⟨o,e',hd⟩:=h
 exact I.ne_data e' fun _ _ q=>nomatch hd.symm.trans q
theorem InvH.nne {B:Shared} {fs:List Env} {hd:Option Value} {σ:Hp} (I:InvH B fs hd ρ s σ) {c:Addr} {m:Str→Option Value} (h:s.heap.Ns c m):c∉ρ:=by
 obtain⟨o,es,ep,e',hd,_⟩:=h
 exact I.ne_data e' fun _ _ q=>nomatch hd.symm.trans q
theorem Inv.lne (I:Inv d ρ cv s st):d.env.locals∉ρ:=by
 obtain⟨m,h,_⟩:=I.dict
 exact I.h.nne h
theorem Inv.stepG {ρ':List Addr} {s':Shared} {σ':Hp} (I:Inv d ρ cv s st) (k:Keep (·∈ρ) s.heap s'.heap) (g:∀ (n:Nat) (a:Addr),ρ[n]?=some a→ρ'[n]?=some a) (H:InvH d.B d.fs d.hd ρ' s' σ'):Inv d ρ' cv s' { st with hp:=σ' } where
 h:=H
 lfresh:=I.lfresh
 dict:=I.dict.keep k I.h.writ g I.lne rfl
 cells:=fun i x e1 e2=>(I.cells i x e1 e2).keep k I.h.writ g (fun _ _ _ h=>I.h.cne h) rfl
 capart:=I.capart
 cfresh:=fun x c e=>(I.cfresh x c e).imp fun _ q=>⟨k.cell q.1 (I.h.cne q.1),q.2⟩
theorem Inv.step {ρ':List Addr} {s':Shared} {σ':Hp} (I:Inv d ρ cv s st) (k:Keep (·∈ρ) s.heap s'.heap) (g:Grow ρ s.heap ρ') (H:InvH d.B d.fs d.hd ρ' s' σ'):Inv d ρ' cv s' { st with hp:=σ' }:=I.stepG k (fun _ _=>g.get) H
theorem Post.step {ρ':List Addr} {s':Shared} {σ':Hp} (I:Inv d ρ cv s st) (k:Keep (·∈ρ) s.heap s'.heap) (g:Grow ρ s.heap ρ') (H:InvH d.B d.fs d.hd ρ' s' σ'):Post d ρ cv s ρ' s' { st with hp:=σ' }:=
 ⟨I.step k g H,k.mono fun _ _ q=>.inl q,g⟩
section
variable {B:Shared} {fs:List Env} {hd:Option Value} {σ:Hp}
theorem InvH.framesK {h':Heap} (I:InvH B fs hd ρ s σ) (k:Keep (·∈ρ) s.heap h'):∀ e∈fs,FrameAt B.heap h' e:=fun e he=>(I.frames e he).keep k fun _ _ _ h=>I.nne h
theorem InvH.ne_new (I:InvH B fs hd ρ s σ) {a:Addr} (ha:s.heap.objs.size≤a):a∉ρ:=fun q=>let ⟨_,_,e⟩:=I.at q;absurd (au e) (bf.mpr ha)
theorem InvH.b_new (I:InvH B fs hd ρ s σ) {a:Addr} (ha:s.heap.objs.size≤a):B.heap.get? a=none:=
 Option.eq_none_iff_forall_ne_some.mpr fun o q=>absurd (au (I.base a o q)) (bf.mpr ha)
theorem ListAt.keep {ρ':List Addr} {h h':Heap} {W:Addr→Prop} {n:Nat} {l:List V} (L:ListAt B.heap ρ h n l) (k:Keep W h h') (w:Writ W h) (g:∀ (n:Nat) (a:Addr),ρ[n]?=some a→ρ'[n]?=some a) (kr:∀ a∈ρ,¬W a):ListAt B.heap ρ' h' n l:=by
 obtain⟨b,ys,q,h1,h2,h3,z⟩:=L
 obtain⟨o',e',_,_,_,x⟩:=k.old _ _ h2 (kr b (ac h1))
 rw [x (.seq _ _ rfl)] at e'
 exact⟨b,ys,q,g _ _ h1,e',VRs.keep k w g h3,z⟩
theorem mV {α:Type} {l:List α} {a b:α} {n:Nat} (h:(l++[a])[n]?=some b):l[n]?=some b∨(n=l.length∧b=a):=by
 rcases dW n l.length with hn | hn
 ·rw [cb hn] at h;exact .inl h
 ·rw [aV hn] at h
  match hk:n - l.length,h with
  | 0,h=>cases h;exact .inr ⟨db (Nat.sub_eq_zero_iff_le.mp hk) hn,rfl⟩
theorem sH {l:List Addr} {a:Addr} (h:l.Nodup) (n:a∉l):(l++[a]).Nodup:=
 yS.mpr ⟨h,.cons (fun _ q=>nomatch q) .nil,fun x hx y hy q=>n (by rw [←ay.mp hy,←q];exact hx)⟩
theorem mq {ρ:List Addr} (x:Addr) (n:Nat) (a:Addr) (e:ρ[n]?=some a):(ρ++[x])[n]?=some a:=(cb (ag.mp e).1).trans e
theorem InvH.newV (I:InvH B fs hd ρ s σ) {W:Addr→Prop} {h':Heap} {t:Nat} {a:Addr} {xs:Array Value} {k:Nat} {l:List V} (K:Keep W s.heap h') (w:Writ W s.heap) (kb:∀ b o,B.heap.get? b=some o→h'.get? b=some o)
  (kr:∀ b∈ρ,¬W b) (f1:∀ e∈fs,FrameAt B.heap h' e) (na:a∉ρ) (hB:B.heap.get? a=none) (e:h'.get? a=some (lobj xs k)) (r:VRs B.heap ρ s.heap l xs.toList) (hz:l.length≤LIM) :
  InvH B fs hd (ρ++[a]) { s with heap:=h',toks:=t } (σ++[l]) where
 base:=kb
 gens:=I.gens
 os:=I.os
 len:=by rw [aa,aa,I.len];rfl
 list:=fun n l' e'=>by
  rcases mV e' with e' | ⟨rfl,rfl⟩
  ·exact (I.list n l' e').keep K w (mq a) kr
  ·exact⟨a,xs,k,by rw [←I.len,fw],e,VRs.keep K w (mq a) r,hz⟩
 nodup:=sH I.nodup na
 fresh:=fun b hb=>(aU.mp hb).elim (I.fresh b) fun q=>by rw [ay.mp q];exact hB
 frames:=f1
 hok:=I.hok.keep K w
theorem InvH.newW (I:InvH B fs hd ρ s σ) {W:Addr→Prop} {h':Heap} {t:Nat} {a:Addr} {xs:Array Value} {k:Nat} {l:List V} (K:Keep W s.heap h') (w:Writ W s.heap) (kb:∀ b o,B.heap.get? b=some o→h'.get? b=some o)
  (kr:∀ b∈ρ,¬W b) (f1:∀ e∈fs,FrameAt B.heap h' e) (ha:s.heap.objs.size≤a) (e:h'.get? a=some (lobj xs k)) (r:VRs B.heap ρ s.heap l xs.toList) (hz:l.length≤LIM) :
  InvH B fs hd (ρ++[a]) { s with heap:=h',toks:=t } (σ++[l]):=I.newV K w kb kr f1 (I.ne_new ha) (I.b_new ha) e r hz
theorem InvH.new (I:InvH B fs hd ρ s σ) {h':Heap} {t:Nat} {a:Addr} {xs:Array Value} {k:Nat} {l:List V}
  (kk:∀ b o,s.heap.get? b=some o→h'.get? b=some o) (hs:s.heap.objs.size≤h'.objs.size) (ha:s.heap.objs.size≤a) (e:h'.get? a=some (lobj xs k)) (r:VRs B.heap ρ s.heap l xs.toList) (hz:l.length≤LIM) :
  InvH B fs hd (ρ++[a]) { s with heap:=h',toks:=t } (σ++[l]):=
 I.newW (W:=fun _=>False) (.of_all kk hs) dX (fun b o e=>kk b o (I.base b o e)) (fun _ _ f=>f) (I.framesK (.of_all kk hs)) ha e r hz
end
theorem Grow.one {ρ:List Addr} {h:Heap} {a:Addr} (ha:h.objs.size≤a):Grow ρ h (ρ++[a]):=⟨[a],rfl,fun b hb=>by rw [ay.mp hb];exact ha⟩
theorem Post.new (I:Inv d ρ cv s st) {h':Heap} {t:Nat} {a:Addr} {xs:Array Value} {k:Nat} {l:List V}
  (kk:∀ b o,s.heap.get? b=some o→h'.get? b=some o) (hs:s.heap.objs.size≤h'.objs.size) (ha:s.heap.objs.size≤a) (e:h'.get? a=some (lobj xs k)) (r:VRs d.B.heap ρ s.heap l xs.toList) (hz:l.length≤LIM) :
  Post d ρ cv s (ρ++[a]) { s with heap:=h',toks:=t } { st with hp:=st.hp++[l] }:=
 .step I (.of_all kk hs) (.one ha) (I.h.new kk hs ha e r hz)
theorem VR.new {B h:Heap} {σ:Hp} {a:Addr} (hl:ρ.length=σ.length):VR B (ρ++[a]) h (.loc σ.length) (.ref a):=.loc (by rw [←hl,fw])
theorem Post.push (I:Inv d ρ cv s st) {t:Nat} {xs:Array Value} {l:List V} (r:VRs d.B.heap ρ s.heap l xs.toList) (hz:l.length≤LIM) :
  Post d ρ cv s (ρ++[s.heap.objs.size]) { s with heap:=s.heap.push (lobj xs 0),toks:=t } { st with hp:=st.hp++[l] }:=
 .new I (fun _ _ e=>af _ e) (Keep.push (W:=fun _=>False) _).size (am _) (ao _ rfl) r hz
theorem j9 {α:Type} {l:List α} {n m:Nat} {a b:α} (h:(l.set n a)[m]?=some b):(n=m∧b=a)∨(n≠m∧l[m]?=some b):=by
 rw [List.getElem?_set] at h
 by_cases hm:n=m
 ·rw [if_pos hm] at h
  split at h
  ·cases h;exact .inl ⟨hm,rfl⟩
  ·cases h
 ·rw [if_neg hm] at h;exact .inr ⟨hm,h⟩
theorem InvH.upd {B:Shared} {fs:List Env} {hd:Option Value} {σ:Hp} (I:InvH B fs hd ρ s σ) {h':Heap} {t n:Nat} {a:Addr} {xs:Array Value} {k:Nat} {l:List V}
  (hn:ρ[n]?=some a) (hs:bk a s.heap h') (e:h'.get? a=some (lobj xs k)) (r:VRs B.heap ρ s.heap l xs.toList) (hz:l.length≤LIM) :
  InvH B fs hd ρ { s with heap:=h',toks:=t } (σ.set n l) where
 base:=fun b o e=>(hs.2 b fun q=>by rw [q,I.fresh a (ac hn)] at e;cases e).trans (I.base b o e)
 gens:=I.gens
 os:=I.os
 len:=by rw [List.length_set];exact I.len
 list:=fun m l' e'=>by
  have K:Keep (·∈ρ) s.heap h':=.sameBut hs fun _=>ac hn
  rcases j9 e' with ⟨rfl,rfl⟩ | ⟨hm,e'⟩
  ·exact⟨a,xs,k,hn,e,VRs.keep K I.writ (fun _ _ e=>e) r,hz⟩
  ·obtain⟨b,ys,q,h1,h2,h3,z⟩:=I.list m l' e'
   exact⟨b,ys,q,h1,(hs.2 b fun q=>hm ((gg (ag.mp hn).1 I.nodup).mp (by rw [hn,h1,q]))).trans h2,VRs.keep K I.writ (fun _ _ e=>e) h3,z⟩
 nodup:=I.nodup
 fresh:=I.fresh
 frames:=I.framesK (.sameBut hs fun _=>ac hn)
 hok:=I.hok.keep (.sameBut hs fun _=>ac hn) I.writ
theorem Post.upd (I:Inv d ρ cv s st) {h':Heap} {t n:Nat} {a:Addr} {xs:Array Value} {k:Nat} {l:List V}
  (hn:ρ[n]?=some a) (hs:bk a s.heap h') (e:h'.get? a=some (lobj xs k)) (r:VRs d.B.heap ρ s.heap l xs.toList) (hz:l.length≤LIM) :
  Post d ρ cv s ρ { s with heap:=h',toks:=t } { st with hp:=st.hp.set n l }:=
 .step I (.sameBut hs fun _=>ac hn) .refl (I.h.upd hn hs e r hz)
end
theorem bT:LIM≤sizeLine:=by rw [sizeLine_eq];decide
section
variable {prog:Program} {w:World} {A:Around} {d:D} {ρ:List Addr} {cv:Option V} {s:Shared} {st:St}
abbrev RVal (d:D):List Addr→Heap→V→Value→Prop:=fun ρ h v x=>VR d.B.heap ρ h v x
abbrev RVals (d:D):List Addr→Heap→List V→List Value→Prop:=fun ρ h v x=>VRs d.B.heap ρ h v x
abbrev RBool:List Addr→Heap→Bool→Bool→Prop:=fun _ _ b c=>c=b
abbrev REq {α:Type}:List Addr→Heap→α→α→Prop:=fun _ _ b c=>c=b
theorem TriP.val {P:PT Value} {v:V} {a:Value} {t:Nat} (I:Inv d ρ cv s st) (r:VR d.B.heap ρ s.heap v a) (h:∀ Q:Value→Shared→Prop,Q a { s with toks:=t }→∀ E,P Q E s):TriP d ρ cv s (RVal d) P (.ok v st):=
 .ok fun Q E hq=>h Q (hq a { s with toks:=t } ρ r (.toks I t)) E
theorem TriP.int {P:PT Value} {i:Int} (I:Inv d ρ cv s st) (h:∀ Q E,(∀ (t t':Nat),Q (.int i t) { s with toks:=t' })→P Q E s):TriP d ρ cv s (RVal d) P (.ok (.int i) st):=
 .ok fun Q E hq=>h Q E fun t t'=>hq _ _ ρ (.int i t) (.toks I t')
theorem TriP.bool {P:PT Bool} {b:Bool} {t:Nat} (I:Inv d ρ cv s st) (h:∀ Q:Bool→Shared→Prop,Q b { s with toks:=t }→∀ E,P Q E s):TriP d ρ cv s RBool P (.ok b st):=
 .ok fun Q E hq=>h Q (hq b { s with toks:=t } ρ rfl (.toks I t)) E
theorem VR.str_inv {B:Heap} {h:Heap} {x:List Nat} {a:Value} (r:VR B ρ h (.str x) a):∃ t,a = .str ⟨x.toArray⟩ t:=r.2
theorem VR.str_len {B:Heap} {h:Heap} {x:List Nat} {a:Value} (r:VR B ρ h (.str x) a):x.length≤LIM:=r.1
theorem VR.int_inv {B:Heap} {h:Heap} {x:Int} {a:Value} (r:VR B ρ h (.int x) a):∃ t,a = .int x t:=r
theorem VR.str' {B:Heap} {h:Heap} {x:Str} {l:List Nat} {t:Tok} (e:x=⟨l.toArray⟩) (hz:l.length≤LIM):VR B ρ h (.str l) (.str x t):=by subst e;exact .str l t hz
theorem Str.toList_mk (l:List Nat):(⟨l.toArray⟩:Str).cps.toList=l:=rfl
theorem Str.len_mk (l:List Nat):(⟨l.toArray⟩:Str).length=l.length:=by simp [PySem.Str.length]
theorem Str.app_mk (l l':List Nat):(⟨l.toArray⟩:Str)++⟨l'.toArray⟩=⟨(l++l').toArray⟩:=by
 show Str.mk (l.toArray++l'.toArray)=_
 rw [we]
theorem br {h:Heap} {a:Addr} {xs:Array Value} {k:Nat} (e:h.get? a=some (lobj xs k)):h.IsList a xs:=⟨_,e,rfl,k,rfl⟩
theorem lens {B:Heap} {h:Heap} {l:List V} {xs:Array Value} (r:VRs B ρ h l xs.toList):xs.size=l.length:=r.length
structure ListIs (d:D) (ρ:List Addr) (s:Shared) (st:St) (n:Nat) (l:List V) (c:Addr) (xs:Array Value) (q:Nat):Prop where
 e:st.hp[n]?=some l
 i:ρ[n]?=some c
 g:s.heap.get? c=some (lobj xs q)
 r:VRs d.B.heap ρ s.heap l xs.toList
 z:l.length≤LIM
section
variable {n:Nat} {l:List V} {c:Addr} {xs:Array Value} {q:Nat} (L:ListIs d ρ s st n l c xs q)
include L
theorem ListIs.is:s.heap.IsList c xs:=br L.g
theorem ListIs.len:xs.size=l.length:=lens L.r
theorem ListIs.line:xs.size≤sizeLine:=by rw [L.len];exact aj L.z bT
end
theorem Inv.cellOf (I:Inv d ρ cv s st) {n:Nat} {l:List V} (e:st.hp[n]?=some l):∃ c xs q,ListIs d ρ s st n l c xs q:=by
 obtain⟨a,xs,k,h1,h2,h3,z⟩:=I.h.list n l e
 exact⟨a,xs,k,e,h1,h2,h3,z⟩
section
variable {α β:Type} {RV:List Addr→Heap→β→α→Prop} {P:PT α} {B:Heap} {ρ':List Addr} {h:Heap} {x:V} {a:Value}
theorem TriP.onInt {f:Int→Res β} (r:VR B ρ' h x a) (k:∀ i t,a = .int i t→TriP d ρ cv s RV P (f i)):TriP d ρ cv s RV P (onInt x f):=by
 cases x with
 | int i=>exact r.elim fun t e=>k i t e
 | _=>exact .bad
theorem TriP.onStr {f:List Nat→Res β} (r:VR B ρ' h x a) (k:∀ l t,a = .str ⟨l.toArray⟩ t→l.length≤LIM→TriP d ρ cv s RV P (f l)):TriP d ρ cv s RV P (onStr x f):=by
 cases x with
 | str i=>exact r.2.elim fun t e=>k i t e r.1
 | _=>exact .bad
theorem TriP.onLoc {f:Nat→Res β} (r:VR B ρ' h x a) (k:∀ n c,ρ'[n]?=some c→a = .ref c→TriP d ρ cv s RV P (f n)):TriP d ρ cv s RV P (onLoc x f):=by
 cases x with
 | loc i=>exact r.elim fun t e=>k i t e.1 e.2
 | _=>exact .bad
theorem TriP.onTup {f:List V→Res β} (r:VR B ρ' h x a) (k:∀ l,RTup h l (fun ys=>VRs B ρ' h l ys) a→TriP d ρ cv s RV P (f l)):TriP d ρ cv s RV P (onTup x f):=by
 cases x with
 | tup l=>exact k l r
 | _=>exact .bad
theorem TriP.onFl {f:List V→Res β} (r:VR B ρ' h x a) (k:∀ l,RFlist B l (fun ys=>VRs B ρ' h l ys) a→TriP d ρ cv s RV P (f l)):TriP d ρ cv s RV P (onFl x f):=by
 cases x with
 | flist l=>exact k l r
 | _=>exact .bad
theorem TriP.onApp {f:Nat→Res β} (r:VR B ρ' h x a) (k:∀ n,RApp ρ' h n a→TriP d ρ cv s RV P (f n)):TriP d ρ cv s RV P (onApp x f):=by
 cases x with
 | app n=>exact k n r
 | _=>exact .bad
theorem TriP.lst {f:List V→Res β} {n:Nat} (I:Inv d ρ cv s st) (k:∀ l c xs q,ListIs d ρ s st n l c xs q→TriP d ρ cv s RV P (f l)):TriP d ρ cv s RV P (lst st n f):=by
 unfold Mine.lst
 cases e:st.hp[n]? with
 | none=>exact .bad
 | some l=>exact (I.cellOf e).elim fun c r=>r.elim fun xs r=>r.elim fun q L=>k l c xs q L
theorem TriP.onList {f:Nat→List V→Res β} (I:Inv d ρ cv s st) (r:VR B ρ h x a) (k:∀ n l c xs q,a = .ref c→ListIs d ρ s st n l c xs q→TriP d ρ cv s RV P (f n l)):TriP d ρ cv s RV P (onList x st f):=
 .onLoc r fun n c' i e=>.lst I fun l c xs q L=>k n l c xs q (by have:=i.symm.trans L.i;cases this;exact e) L
theorem TriP.guard {b:Bool} {r:Res β} (k:b=true→TriP d ρ cv s RV P r):TriP d ρ cv s RV P (guard b r):=by
 cases b with
 | true=>exact k rfl
 | false=>exact .bad
theorem TriP.onSome {γ:Type} {o:Option γ} {f:γ→Res β} (k:∀ b,o=some b→TriP d ρ cv s RV P (f b)):TriP d ρ cv s RV P (onSome o f):=by
 cases o with
 | none=>exact .bad
 | some b=>exact k b rfl
theorem TriP.some1 {l:List Nat} {f:Nat→Res β} (k:∀ c,l=[c]→TriP d ρ cv s RV P (f c)):TriP d ρ cv s RV P (some1 l f):=by
 match l with
 | []=>exact .bad
 | [c]=>exact k c rfl
 | _::_::_=>exact .bad
theorem TriP.two {γ:Type} {l:List γ} {f:γ→γ→Res β} (k:∀ c e,l=[c,e]→TriP d ρ cv s RV P (f c e)):TriP d ρ cv s RV P (two l f):=by
 match l with
 | []=>exact .bad
 | [_]=>exact .bad
 | [c,e]=>exact k c e rfl
 | _::_::_::_=>exact .bad
theorem TriP.lift {o:Option β} (k:∀ b,o=some b→TriP d ρ cv s RV P (.ok b st)):TriP d ρ cv s RV P (lift o st):=by
 cases o with
 | none=>exact .bad
 | some b=>exact k b rfl
theorem TriP.ifb {p:Prop} [Decidable p] {r:Res β} (k:p→TriP d ρ cv s RV P r):TriP d ρ cv s RV P (if p then r else .bad):=by
 by_cases h:p
 ·rw [if_pos h];exact k h
 ·rw [if_neg h];exact .bad
end
noncomputable abbrev H0:Heap:={}
noncomputable def allN (h:Heap) (L:Addr):List (Addr×Obj):=(bZ h.objs.size).filterMap fun b=>if b=L then none else (h.get? b).map (b,·)
theorem qJ {h:Heap} {L b:Addr} {o:Obj}:(b,o)∈allN h L↔b≠L∧h.get? b=some o:=by
 refine List.mem_filterMap.trans ⟨?_,?_⟩
 ·rintro⟨c,_,hc⟩
  by_cases hn:c=L
  ·rw [if_pos hn] at hc;cases hc
  ·rw [if_neg hn] at hc
   obtain⟨o',h1,h2⟩:=aF.mp hc
   cases h2
   exact⟨hn,h1⟩
 ·rintro⟨hn,e⟩
  exact⟨b,cQ.mpr (au e),by rw [if_neg hn,e];rfl⟩
theorem uw (b:Addr):H0.get? b=none:=by simp [Heap.get?]
theorem News.all (h:Heap) (L:Addr):News H0 L h (allN h L):=fun p hp=>let q:=(qJ (b:=p.1) (o:=p.2)).mp hp; ⟨q.2,q.1,uw _⟩
theorem Fr.all {h:Heap} {L:Addr} {m:Str→Option Value} (n:h.Ns L m):Fr H0 L h m:=⟨n,fun b o e=>by (rw [uw] at e;cases e),aD _⟩
theorem qH {h h':Heap} {L:Addr} {x:Addr×Obj} (N:News H0 L h' (x::allN h L)) {b:Addr} {o:Obj} (hb:b≠L) (e:h.get? b=some o):h'.get? b=some o:=
 (N (b,o) (.tail _ (qJ.mpr ⟨hb,e⟩))).1
end
section
variable {prog:Program} {w:World} {A:Around} {d:D} {ρ:List Addr} {cv:Option V} {s:Shared} {st:St}
theorem Inv.cell_locals (I:Inv d ρ cv s st) {c:Addr} {v:Option Value} (h:s.heap.IsCell c v):c≠d.env.locals:=fun q=>by
 obtain⟨m',⟨o,es,ep,e',hd,_⟩,_⟩:=I.dict
 obtain⟨o2,e2,hd2⟩:=h
 rw [q,e'] at e2;cases e2;exact nomatch hd.symm.trans hd2
theorem DictOk.keep {h h':Heap} {W:Addr→Prop} {ρ':List Addr} {m:Str→Option Value} (k:Keep W h h') (w:Writ W h) (g:∀ (n:Nat) (a:Addr),ρ[n]?=some a→ρ'[n]?=some a) {st':St} (e:st'.fv=st.fv):DictOk d ρ h cv st m→DictOk d ρ' h' cv st' m
 | ⟨l,c⟩=>⟨fun hc i x q=>by rw [e];exact (l hc i x q).keep k w g,fun x q=>(c x q).keep k w g⟩
theorem Post.newL (I:Inv d ρ cv s st) {m:Str→Option Value} (hm:DictOk d ρ s.heap cv st m) {h':Heap} {t:Nat} {a:Addr} {xs:Array Value} {k:Nat} {l:List V}
  (F:Fr H0 d.env.locals h' m) (N:News H0 d.env.locals h' ((a,lobj xs k)::allN s.heap d.env.locals)) (ha:s.heap.objs.size≤a) (r:VRs d.B.heap ρ s.heap l xs.toList) (hz:l.length≤LIM) :
  Post d ρ cv s (ρ++[a]) { s with heap:=h',toks:=t } { st with hp:=st.hp++[l] }:=by
 have ea:h'.get? a=some (lobj xs k):=(N _ (.head _)).1
 have K:Keep (fun b=>b=d.env.locals) s.heap h':=⟨fun b o e nb=>.same (qH N nb e),aW (aC ha (au ea))⟩
 have w1:Writ (fun b=>b=d.env.locals) s.heap:=fun b o e hb=>I.writ b o e (.inr (.inl hb))
 have g:Grow ρ s.heap (ρ++[a]):=.one ha
 exact⟨⟨I.h.newW K w1 (fun b o e=>qH N (fun q=>by rw [q,I.lfresh] at e;cases e) (I.h.base b o e)) (fun b hb q=>I.lne (by rw [←q];exact hb))
   (fun e he=>by
    obtain⟨L,m',h1,h2,h3⟩:=I.h.frames e he
    by_cases hL:L=d.env.locals
    ·exact⟨L,m,h1,by rw [hL];exact F.ns,h3⟩
    ·exact⟨L,m',h1,K.ns h2 hL,h3⟩) ha ea r hz,I.lfresh,⟨m,F.ns,DictOk.keep (st:=st) K w1 (fun _ _=>g.get) rfl hm⟩,fun i x e1 e2=>(I.cells i x e1 e2).keep K w1 (fun _ _=>g.get) (fun _ _ _ h=>I.cell_locals h) rfl,I.capart,fun x c e=>(I.cfresh x c e).imp fun _ q=>⟨K.cell q.1 (I.cell_locals q.1),q.2⟩⟩,K.mono fun _ _ q=>.inr (.inl q),g⟩
noncomputable def opOf:Bop→Operator
 | .add=>.Add | .sub=>.Sub | .mod=>.Mod | .mul=>.Mult
theorem jB {P:PT Value} {l:List V} (h:l.length≤LIM→∀ Q:Value→Shared→Prop,∀ E,(∀ a s' ρ',VR d.B.heap ρ' s'.heap (.loc st.hp.length) a→Post d ρ cv s ρ' s' { st with hp:=st.hp++[l] }→Q a s')→P Q E s):TriP d ρ cv s (RVal d) P (alloc l st):=
 .ifb fun hl=>.ok fun Q E hq=>h hl Q E fun a s' ρ' v p=>hq a s' ρ' v p
theorem jA {P:PT Value} {l:List Nat} (I:Inv d ρ cv s st) (h:l.length≤LIM→∀ Q:Value→Shared→Prop,∀ E,(∀ x t t',x=(⟨l.toArray⟩:Str)→Q (.str x t) { s with toks:=t' })→P Q E s):TriP d ρ cv s (RVal d) P (mkStr l st):=
 .ifb fun hl=>.ok fun Q E hq=>h hl Q E fun x t t' e=>hq _ _ ρ (VR.str' e hl) (.toks I t')
theorem xa {x y:V} {a b:Value} (I:Inv d ρ cv s st) (hx:VR d.B.heap ρ s.heap x a) (hy:VR d.B.heap ρ s.heap y b) :
  TriP d ρ cv s (RVal d) (wpAny (model prog w) A (binaryOp .Add a b)) (addV x y st):=by
 cases x with
 | int i=>
  obtain⟨t,rfl⟩:=hx
  exact .onInt hy fun j t e=>by subst e;exact .int I fun Q E h=>add_int (h _ _)
 | str l=>
  obtain⟨_,t,rfl⟩:=hx
  exact .onStr hy fun l' t e _=>by
   subst e
   refine jA I fun hl Q E h=>add_str (fun t' tk=>h _ t' tk (Str.app_mk _ _)) ?_
   rw [Str.len_mk,Str.len_mk,←aa]
   exact aj hl bT
 | loc n=>
  refine TriP.onList I hx fun n l c xs q e L=>TriP.onList I hy fun n' l' c' ys q' e' L'=>?_
  subst e e'
  obtain⟨m,ns,hm⟩:=I.dict
  refine jB fun hl Q E h=>add_lists (vs:=xs.toList) (ws:=ys.toList) (Fr.all ns) (News.all _ _) L.is L'.is (fun h' F' N'=>?_) ?_
  ·exact h _ _ _ (VR.new I.h.len) (Post.newL I hm F' N' (am _) (L'.r.append L.r) hl)
  ·rw [cu,cu,L.len,L'.len,←aa]
   exact aj hl bT
 | _=>exact .bad
theorem xE (s:List Nat) {n:Int} (hn:0≤n):PySem.Txt.mul ⟨s.toArray⟩ n=⟨((bB n.toNat s).flatten).toArray⟩:=by
 obtain⟨k,rfl⟩:=dK hn
 have key:∀ (k:Nat) (acc:Array Nat),(bB k s.toArray).foldl (·++·) acc=acc++((bB k s).flatten).toArray:=by
  intro k
  induction k with
  | zero=>intro acc;exact (Array.append_empty).symm
  | succ k ih=>intro acc;rw [wc,mK,ih,wc,List.flatten_cons,←we,Array.append_assoc]
 unfold PySem.Txt.mul
 by_cases h1:(k:Int) < 1
 ·obtain rfl:k=0:=by grind
  rfl
 ·rw [if_neg h1]
  split
  ·rename_i h2
   rcases jn.mp h2 with h2 | h2
   ·rw [eq_of_beq h2];simp
   ·obtain rfl:=aG (by rw [←Str.len_mk];exact eq_of_beq h2)
    simp
  ·rw [key];simp
theorem BD {s:List Nat} {n:Int} (h0:0≤n) (h1:n≤1000) (h2:s.length≤1000):MulOk ⟨s.toArray⟩ n:=by
 refine⟨by simp only [i4,decide_eq_false_iff_not];grind,fun h1 _=>?_,fun h1 _=>?_⟩
 ·rw [Str.len_mk]
  have h3:(1000:Int)≤(2 ^ 63 - 1) / n:=(Int.le_ediv_iff_mul_le (by grind)).mpr (by grind)
  grind
 ·rw [Str.len_mk]
  have h4:s.length * n.toNat≤1000 * 1000:=Nat.mul_le_mul h2 (by grind)
  simp only [Builtin.Str.tooLong,decide_eq_false_iff_not,sizeLine_eq]
  grind
theorem zI (op:Bop) {x y:V} {a b:Value} (I:Inv d ρ cv s st) (hx:VR d.B.heap ρ s.heap x a) (hy:VR d.B.heap ρ s.heap y b) :
  TriP d ρ cv s (RVal d) (wpAny (model prog w) A (binaryOp (opOf op) a b)) (binop op x y st):=by
 cases op with
 | add=>exact xa I hx hy
 | sub=>exact .onInt hx fun i t e=>.onInt hy fun j t e'=>by subst e e';exact .int I fun Q E h=>sub_int (h _ _)
 | mod=>
  refine .onInt hx fun i t e=>.onInt hy fun j t e'=>.guard fun hj=>?_
  subst e e'
  have hj:=of_decide_eq_true hj
  refine .int I fun Q E h=>mod_int' (Int.ne_of_gt hj) ?_
  rw [pP _ (ir hj)]
  exact h _ _
 | mul=>
  refine .onStr hx fun l t e _=>.onInt hy fun n t e'=>.guard fun hn=>?_
  subst e e'
  simp only [aS,decide_eq_true_eq] at hn
  refine .ok fun Q E h=>SB.mul (BD hn.1.1 hn.1.2 hn.2) fun t' k=>h _ _ ρ (VR.str' (xE l hn.1.1) ?_) (.toks I k)
  have h4:n.toNat * l.length≤1000 * 1000:=Nat.mul_le_mul (by grind) hn.2
  simp only [List.length_flatten,List.map_replicate,List.sum_replicate_nat]
  exact h4
end
inductive Same2 (σ:Hp) (fi:Int→Int→Bool) (fs:List Nat→List Nat→Bool) (fb:Bool→Bool→Option Bool) (k:Bool→List V→List V→Option Bool) (r:Bool):V→V→Prop
 | int (i j:Int) (e:fi i j=r):Same2 σ fi fs fb k r (.int i) (.int j)
 | str (s t:List Nat) (e:fs s t=r):Same2 σ fi fs fb k r (.str s) (.str t)
 | bool (i j:Bool) (e:fb i j=some r):Same2 σ fi fs fb k r (.bool i) (.bool j)
 | tup (l l':List V) (e:k true l l'=some r):Same2 σ fi fs fb k r (.tup l) (.tup l')
 | loc (i j:Nat) (l l':List V) (ei:σ[i]?=some l) (ej:σ[j]?=some l') (e:k false l l'=some r):Same2 σ fi fs fb k r (.loc i) (.loc j)
theorem cT {α:Type} {r:α} {G:Prop} (h:(none:Option α)=some r):G:=nomatch h
theorem eZ {a b:Nat} {G:Prop} (h:a=b) (n:Nat.beq a b=false):G:=by subst h;rw [Nat.beq_refl] at n;cases n
theorem gw {σ:Hp} {fi:Int→Int→Bool} {fs:List Nat→List Nat→Bool} {fb:Bool→Bool→Option Bool} {k:Bool→List V→List V→Option Bool} {r:Bool} {a b:V} (h:same2 σ a b fi fs fb k=some r) :
  Same2 σ fi fs fb k r a b:=by
 refine opq fun G kk=>?_
 cases a with
 | int i=>cases b with
  | int j=>exact kk <| .int i j (Option.some.inj h)
  | _=>exact cT h
 | str i=>cases b with
  | str j=>exact kk <| .str i j (Option.some.inj h)
  | _=>exact cT h
 | bool i=>cases b with
  | bool j=>exact kk <| .bool i j h
  | _=>exact cT h
 | tup i=>cases b with
  | tup j=>exact kk <| .tup i j h
  | _=>exact cT h
 | loc i=>cases b with
  | loc j=>
   obtain⟨l,e1,h⟩:=aY.mp h
   obtain⟨l',e2,h⟩:=aY.mp h
   exact kk <| .loc i j l l' e1 e2 h
  | _=>exact cT h
 | _=>exact cT h
inductive LeqAt {α β:Type} (f:α→β→Option Bool) (l:List α) (l':List β) (r:Bool):Prop
 | mk (e:Nat→Bool) (n:l.length=l'.length) (at':∀ (j:Nat) (x:α) (y:β),l[j]?=some x→l'[j]?=some y→f x y=some (e j)) (er:(bZ l.length).all e=r)
theorem qQ {α β:Type} (f:α→β→Option Bool) (l:List α):∀ {l':List β} {r:Bool},leq f l l'=some r→LeqAt f l l' r:=by
 induction l with
 | nil=>
  intro l' r h
  cases l' with
  | nil=>exact⟨fun _=>true,rfl,fun _ _ _ q=>(nomatch q),Option.some.inj h⟩
  | cons y ys=>cases h
 | cons x xs ih=>
  intro l' r h
  cases l' with
  | nil=>cases h
  | cons y ys=>
   obtain⟨a,e1,h⟩:=aY.mp h
   obtain⟨b,e2,h⟩:=aY.mp h
   obtain⟨e,n,at',er⟩:=ih e2
   refine⟨fun | 0=>a | j+1=>e j,congrArg (·+1) n,fun j u v hu hv=>?_,?_⟩
   ·cases j with
    | zero=>cases hu;cases hv;exact e1
    | succ j=>exact at' j u v hu hv
   ·rw [←Option.some.inj h,←er,cR,List.range_succ_eq_map,List.all_cons,List.all_map];rfl
section
variable {prog:Program} {w:World} {A:Around} {d:D} {ρ:List Addr} {cv:Option V} {s:Shared} {st:St}
variable {B:Shared} {fs:List Env} {hd:Option Value} {σ:Hp}
open PySem.SeqAt
theorem qt (I:InvH B fs hd ρ s σ) {i j:Nat} {a:Addr} (h1:ρ[i]?=some a) (h2:ρ[j]?=some a):i=j:=
 (gg (ag.mp h1).1 I.nodup).mp (h1.trans h2.symm)
noncomputable def kindC (b:Bool) (c:Value):Nat:=match c with
 | .type T=>if T="tuple" then 5 else if T="list" then (if b then 6 else 7) else 8
 | _=>9
noncomputable def kindX (B h:Heap) (x:Value):Nat:=match x with
 | .none=>0
 | .bool _=>1
 | .int _ _=>2
 | .str _ _=>3
 | .type _=>4
 | .ref a=>(match h.get? a with | some o=>kindC (B.get? a).isSome o.cls | none=>9)
 | _=>9
noncomputable def kindN:V→Nat
 | .none=>0
 | .bool _=>1
 | .int _=>2
 | .str _=>3
 | .tstr=>4
 | .tup _=>5
 | .flist _=>6
 | .loc _=>7
 | .app _=>8
theorem jH {B h:Heap} {a:Addr} {o:Obj} (e:h.get? a=some o):kindX B h (.ref a)=kindC (B.get? a).isSome o.cls:=by
 show (match h.get? a with | some o=>kindC (B.get? a).isSome o.cls | none=>9)=_
 rw [e]
theorem VR.kind (I:InvH B fs hd ρ s σ) {v:V} {x:Value} (r:VR B.heap ρ s.heap v x):kindX B.heap s.heap x=kindN v:=by
 cases v with
 | none=>rw [show x=_ from r];rfl
 | bool b=>rw [show x=_ from r];rfl
 | int i=>obtain⟨t,rfl⟩:=r;rfl
 | str i=>obtain⟨_,t,rfl⟩:=r;rfl
 | tstr=>rw [show x=_ from r];rfl
 | tup l=>obtain⟨a,xs,n,rfl,e,z,r⟩:=r;exact jH e
 | flist l=>obtain⟨a,o,xs,n,rfl,e,c,d,z,r⟩:=r;rw [jH (I.base _ _ e),c,e];rfl
 | loc n=>
  obtain⟨a,e,rfl⟩:=r
  obtain⟨xs,k,e'⟩:=I.at (ac e)
  rw [jH e',I.fresh a (ac e)];rfl
 | app n=>obtain⟨a,b,o,vs,rfl,e,g,c,d,v0,v1⟩:=r;rw [jH g,c];rfl
theorem vw {v:V} (h:1=kindN v):∃ l,v = .bool l:=by
 refine opq fun G kk=>?_
 cases v with
 | bool l=>exact kk ⟨l,rfl⟩
 | _=>exact eZ h rfl
theorem xS {v:V} (h:2=kindN v):∃ l,v = .int l:=by
 refine opq fun G kk=>?_
 cases v with
 | int l=>exact kk ⟨l,rfl⟩
 | _=>exact eZ h rfl
theorem xQ {v:V} (h:3=kindN v):∃ l,v = .str l:=by
 refine opq fun G kk=>?_
 cases v with
 | str l=>exact kk ⟨l,rfl⟩
 | _=>exact eZ h rfl
theorem xP {v:V} (h:5=kindN v):∃ l,v = .tup l:=by
 refine opq fun G kk=>?_
 cases v with
 | tup l=>exact kk ⟨l,rfl⟩
 | _=>exact eZ h rfl
theorem sS {v:V} (h:6=kindN v):∃ l,v = .flist l:=by
 refine opq fun G kk=>?_
 cases v with
 | flist l=>exact kk ⟨l,rfl⟩
 | _=>exact eZ h rfl
theorem xR {v:V} (h:7=kindN v):∃ l,v = .loc l:=by
 refine opq fun G kk=>?_
 cases v with
 | loc l=>exact kk ⟨l,rfl⟩
 | _=>exact eZ h rfl
theorem xT {v:V} (h:8=kindN v):∃ l,v = .app l:=by
 refine opq fun G kk=>?_
 cases v with
 | app l=>exact kk ⟨l,rfl⟩
 | _=>exact eZ h rfl
theorem vt {v:V} (h:0=kindN v) : .none=v:=by
 refine opq fun G kk=>?_
 cases v with
 | none=>exact kk rfl
 | _=>exact eZ h rfl
theorem vr {v:V} (h:4=kindN v) : .tstr=v:=by
 refine opq fun G kk=>?_
 cases v with
 | tstr=>exact kk rfl
 | _=>exact eZ h rfl
mutual
theorem VR.det (I:InvH B fs hd ρ s σ) (v:V) {v':V} {x:Value} (r:VR B.heap ρ s.heap v x) (r':VR B.heap ρ s.heap v' x):v=v':=match v,r,(VR.kind I r).symm.trans (VR.kind I r') with
 | .none,_,hk=>vt hk
 | .bool _,r,hk=>by
  obtain⟨b,rfl⟩:=vw hk
  exact congrArg V.bool (Value.bool.inj (Eq.trans (Eq.symm r) r'))
 | .int _,⟨_,e⟩,hk=>by
  obtain⟨b,rfl⟩:=xS hk
  exact r'.elim fun _ e'=>congrArg V.int (Value.int.inj (e.symm.trans e')).1
 | .str _,⟨_,_,e⟩,hk=>by
  obtain⟨b,rfl⟩:=xQ hk
  exact r'.2.elim fun _ e'=>congrArg (fun (z:Str)=>V.str z.cps.toList) (Value.str.inj (e.symm.trans e')).1
 | .tup l,⟨_,_,_,e,g,_,r⟩,hk=>by
  obtain⟨b,rfl⟩:=xP hk
  obtain⟨_,_,_,e',g',_,r'⟩:=r'
  cases e.symm.trans e'
  cases g.symm.trans g'
  exact congrArg V.tup (VRs.det I l r r')
 | .flist l,⟨_,_,_,_,e,g,_,d,_,r⟩,hk=>by
  obtain⟨b,rfl⟩:=sS hk
  obtain⟨_,_,_,_,e',g',_,d',_,r'⟩:=r'
  cases e.symm.trans e'
  cases g.symm.trans g'
  cases d.symm.trans d'
  exact congrArg V.flist (VRs.det I l r r')
 | .loc _,⟨_,g,e⟩,hk=>by
  obtain⟨b,rfl⟩:=xR hk
  obtain⟨_,g',e'⟩:=r'
  cases e.symm.trans e'
  exact congrArg V.loc (qt I g g')
 | .tstr,_,hk=>vr hk
 | .app _,⟨_,_,_,_,e,i,g,_,d,_,v1⟩,hk=>by
  obtain⟨b,rfl⟩:=xT hk
  obtain⟨_,_,_,_,e',i',g',_,d',_,v1'⟩:=r'
  cases e.symm.trans e'
  cases g.symm.trans g'
  cases d.symm.trans d'
  cases v1.symm.trans v1'
  exact congrArg V.app (qt I i i')
theorem VRs.det (I:InvH B fs hd ρ s σ) (l:List V) {l':List V} {xs:List Value} (r:VRs B.heap ρ s.heap l xs) (r':VRs B.heap ρ s.heap l' xs):l=l':=match l,r with
 | [],e=>by cases l' with
  | nil=>rfl
  | cons v l'=>obtain⟨_,_,_,_,e'⟩:=r';cases e.symm.trans e'
 | v::l,⟨_,_,a,r,e⟩=>by cases l' with
  | nil=>cases e.symm.trans r'
  | cons v' l'=>
   obtain⟨_,_,a',r',e'⟩:=r'
   cases e.symm.trans e'
   rw [VR.det I v a a',VRs.det I l r r']
end
theorem yO {n:Nat} {f:Nat→Bool} (h:∀ j,j < n→f j=true):(bZ n).all f=true:=ax.mpr fun j hj=>h j (cQ.mp hj)
theorem wT (n:Nat):∀ {x:V} {r:Bool},veq σ n x x=some r→r=true:=by
 induction n with
 | zero=>intro x r h;cases h
 | succ n ih=>
  have lists:∀ {l:List V} {r:Bool},leq (veq σ n) l l=some r→r=true:=fun {l r} hl=>by
   obtain⟨e,_,g2,g3⟩:=qQ _ _ hl
   rw [←g3]
   exact yO fun j hj=>ih (g2 j _ _ (ak hj) (ak hj))
  intro x r h
  cases x with
  | int i=>exact (Option.some.inj h).symm.trans (decide_eq_true rfl)
  | str i=>exact (Option.some.inj h).symm.trans (decide_eq_true rfl)
  | bool i=>exact (Option.some.inj h).symm.trans (beq_self_eq_true i)
  | tup l=>exact lists ((if_pos rfl).symm.trans h)
  | loc i=>
   obtain⟨l,e1,h⟩:=aY.mp h
   obtain⟨l',e2,h⟩:=aY.mp h
   cases e1.symm.trans e2
   exact lists ((if_pos rfl).symm.trans h)
  | _=>cases h
structure Eq3 (A:Around) (s:Shared) (a b:Value) (r:Bool):Prop where
 rc:RcAt A s a b r
 eq:EqAt A s a b r
 ne:RcNeAt A s a b (!r)
theorem mi {n:Nat} {l l':List V} {xs ys:Array Value} {r:Bool} (hl:leq (veq σ n) l l'=some r) (h1:VRs B.heap ρ s.heap l xs.toList) (h2:VRs B.heap ρ s.heap l' ys.toList)
  (ih:∀ {x y:V} {a b:Value} {r:Bool},veq σ n x y=some r→VR B.heap ρ s.heap x a→VR B.heap ρ s.heap y b→EqAt A.in1 s a b r) :
  ∃ e:Nat→Bool,xs.size=ys.size∧(∀ j (h1:j < xs.size) (h2:j < ys.size),EqAt A.in1 s xs[j] ys[j] (e j))∧(bZ xs.size).all e=r:=by
 obtain⟨e,g1,g2,g3⟩:=qQ _ _ hl
 refine⟨e,(lens h1).trans (g1.trans (lens h2).symm),fun j j1 j2=>?_,by rw [lens h1];exact g3⟩
 have k1:j < l.length:=by rw [←lens h1];exact j1
 have k2:j < l'.length:=by rw [←lens h2];exact j2
 obtain⟨u,hu,ru⟩:=h1.get (ak k1)
 obtain⟨v,hv,rv⟩:=h2.get (ak k2)
 rw [ba,fQ j1] at hu
 rw [ba,fQ j2] at hv
 rw [Option.some.inj hu,Option.some.inj hv]
 exact ih (g2 j _ _ (ak k1) (ak k2)) ru rv
theorem oI (p q:List Nat):decide (p=q)=((⟨p.toArray⟩:Str) == ⟨q.toArray⟩):=by
 by_cases z:p=q
 ·rw [decide_eq_true z,z,beq_self_eq_true]
 ·rw [decide_eq_false z]
  exact (beq_eq_false_iff_ne.mpr fun f=>z (congrArg (fun x:Str=>x.cps.toList) f)).symm
theorem Eq3.refs {A:Around} {a b:Addr} {r:Bool} (hs:a=b→r=true) (rc:RcAt A s (.ref a) (.ref b) r) (ne:RcNeAt A s (.ref a) (.ref b) (!r)):Eq3 A s (.ref a) (.ref b) r:=by
 refine⟨rc,?_,ne⟩
 by_cases ab:a=b
 ·rw [hs ab,ab];exact EqAt.same _
 ·exact EqAt.of_refs ab rc
theorem lE (I:InvH B fs hd ρ s σ) (n:Nat):∀ {A:Around} {x y:V} {a b:Value} {r:Bool},A.units+n < cLine→veq σ n x y=some r→VR B.heap ρ s.heap x a→VR B.heap ρ s.heap y b→Eq3 A s a b r:=by
 induction n with
 | zero=>intro A x y a b r _ h;cases h
 | succ n ih=>
  intro A x y a b r hu h0 hx hy
  have self:a=b→r=true:=fun ab=>by rw [←VR.det I x (v':=y) hx (by rw [ab];exact hy)] at h0;exact wT _ h0
  have hu0:A.units < cLine:=aC (aX _ _) hu
  have hu1:A.in1.units+n < cLine:=by rw [show A.in1.units+n=A.units+(n+1) from km _ _ _];exact hu
  cases gw h0 with
  | int i j e=>
   obtain⟨t,rfl⟩:=hx
   obtain⟨u,rfl⟩:=hy
   subst e
   exact⟨RcAt.int_int _ _ _ _,EqAt.int_int _ _ _ _,RcNeAt.int_int _ _ _ _⟩
  | str p q e=>
   obtain⟨_,t,rfl⟩:=hx
   obtain⟨_,u,rfl⟩:=hy
   rw [←e,oI]
   exact⟨RcAt.str_str _ _ _ _,EqAt.str_str _ _ _ _,RcNeAt.str_str _ _ _ _⟩
  | bool i j e=>
   rw [show a=_ from hx,show b=_ from hy,←Option.some.inj e]
   exact⟨RcAt.bool_bool _ _,EqAt.bool_bool _ _,RcNeAt.bool_bool _ _⟩
  | tup l l' h=>
   obtain⟨a1,xs,n1,rfl,e1,z1,r1⟩:=hx
   obtain⟨b1,ys,n2,rfl,e2,z2,r2⟩:=hy
   by_cases hz:l.length=l'.length
   ·obtain⟨e,g1,g2,g3⟩:=mi (A:=A) ((if_pos hz).symm.trans h) r1 r2 fun h hx hy=>(ih hu1 h hx hy).eq
    have g4:((bZ (min xs.size ys.size)).all e&&xs.size == ys.size)=r:=by rw [←g1,io,beq_self_eq_true,gj];exact g3
    exact .refs (fun ab=>self (congrArg Value.ref ab)) (g4▸RcAt.tuples ⟨_,e1,rfl,n1,rfl⟩ ⟨_,e2,rfl,n2,rfl⟩ hu0 g2) (g4▸RcNeAt.tuples ⟨_,e1,rfl,n1,rfl⟩ ⟨_,e2,rfl,n2,rfl⟩ hu0 g2)
   ·cases (if_neg hz).symm.trans h
  | loc i j l l' q1 q2 h=>
   obtain⟨a1,h1,rfl⟩:=hx
   obtain⟨b1,h2,rfl⟩:=hy
   obtain⟨_,xs,k,f1,f2,f3,_⟩:=I.list _ _ q1
   obtain⟨_,ys,k',f1',f2',f3',_⟩:=I.list _ _ q2
   cases h1.symm.trans f1
   cases h2.symm.trans f1'
   by_cases hz:l.length=l'.length
   ·obtain⟨e,g1,g2,g3⟩:=mi (A:=A) ((if_pos hz).symm.trans h) f3 f3' fun h hx hy=>(ih hu1 h hx hy).eq
    exact .refs (fun ab=>self (congrArg Value.ref ab)) (g3▸RcAt.lists (br f2) (br f2') g1 hu0 g2) (g3▸RcNeAt.lists (br f2) (br f2') g1 hu0 g2)
   ·have hr:false=r:=Option.some.inj ((if_neg hz).symm.trans h)
    have hne:(xs.size != ys.size)=true:=bne_iff_ne.mpr (by rw [lens f3,lens f3'];exact hz)
    exact .refs (fun ab=>self (congrArg Value.ref ab)) (hr▸RcAt.lists_lengths (br f2) (br f2') hne hu0) (hr▸RcNeAt.lists_lengths (br f2) (br f2') hne hu0)
end
section
open PySem.SeqAt
open AutoSeq1 (wpAny_loadPart')
open MeetsSeq MeetsSeq2 MeetsSeq3
noncomputable def opO:Bool→CmpOp
 | true=>.Lt
 | false=>.Gt
noncomputable def zO (o:Bool) (a b:Nat):Bool:=match o with
 | true=>decide (a < b)
 | false=>decide (a > b)
def OrdAt (o:Bool) (A:Around) (s:Shared) (y x:Value) (b:Bool):Prop:=
 ∀ (prog:Program) (w:World) (E:Value→Shared→Prop) (Q:Value→Shared→Prop),Q (.bool b) s→wpAny (model prog w) A (richCompare (opO o) y x) Q E s
abbrev LtAt:=OrdAt true
def Lex (o:Bool) (A:Around) (s:Shared) (r:Bool):List Value→List Value→Prop
 | [],ys=>r=zO o 0 ys.length
 | x::xs,[]=>r=zO o (xs.length+1) 0
 | x::xs,y::ys=>∃ e,EqAt A s x y e∧(if e=true then Lex o A s r xs ys else OrdAt o A s x y r)
theorem Lex.sizes {o:Bool} {A:Around} {s:Shared} {r:Bool} {xs ys:List Value} (h:Lex o A s r xs ys) (he:xs=[]∨ys=[]):r=zO o xs.length ys.length:=by
 cases xs with
 | nil=>exact h
 | cons x xs=>
  cases he with
  | inl e=>cases e
  | inr e=>subst e;exact h
theorem AJ {o:Bool} {a b i:Nat} (h1:i≤a) (h2:i≤b):zO o (a - i) (b - i)=zO o a b:=by
 cases o with
 | true=>exact decide_eq_decide.mpr (rK h1)
 | false=>exact decide_eq_decide.mpr (rK h2)
theorem Lex.end {o:Bool} {A:Around} {s:Shared} {r:Bool} {items items2:Array Value} {i:Nat} (h:Lex o A s r (items.toList.drop i) (items2.toList.drop i)) (h1:i≤items.size) (h2:i≤items2.size) (he:items.size≤i∨items2.size≤i) :
  zO o items.size items2.size=r:=by
 have q:=h.sizes (he.imp (fun z=>bA z) fun z=>bA z)
 rw [bU,bU,cu,cu,AJ h1 h2] at q
 exact q.symm
theorem Lex.more {o:Bool} {A:Around} {s:Shared} {r:Bool} {items items2:Array Value} {i:Nat} (h:Lex o A s r (items.toList.drop i) (items2.toList.drop i)) (h1:i < items.size) (h2:i < items2.size) :
  ∃ e,EqAt A s items[i] items2[i] e∧(if e=true then Lex o A s r (items.toList.drop (i+1)) (items2.toList.drop (i+1)) else OrdAt o A s items[i] items2[i] r):=by
 rw [bz h1,bz h2] at h
 exact h
theorem mE {items:Array Value} {i:Nat} (h:i < items.size):items[((i:Nat):Int).toNat]?=some items[i]:=fQ h
theorem yM {items:Array Value} {i:Nat} (h:items.size≤i):items[((i:Nat):Int).toNat]?=none:=c5 h
theorem wk {xs ys:Array Value} {i:Nat} {p:Value×Value} {rest:List (Value×Value)} (hz:p::rest=(xs.toList.drop i).zip (ys.toList.drop i)) :
  ∃ (h1:i < xs.size) (h2:i < ys.size),p=(xs[i],ys[i])∧rest=(xs.toList.drop (i+1)).zip (ys.toList.drop (i+1)):=by
 rcases dW i xs.size with h1 | h1
 ·rcases dW i ys.size with h2 | h2
  ·rw [bz h1,bz h2,List.zip_cons_cons] at hz
   exact⟨h1,h2,List.cons.inj hz⟩
  ·rw [bA (as:=ys.toList) h2,List.zip_nil_right] at hz;cases hz
 ·rw [bA (as:=xs.toList) h1,List.zip_nil_left] at hz;cases hz
theorem za {xs ys:Array Value} {i:Nat} (hz:[]=(xs.toList.drop i).zip (ys.toList.drop i)):xs.size≤i∨ys.size≤i:=
 (List.zip_eq_nil_iff.mp hz.symm).imp i3.mp i3.mp
structure LtPre (o:Bool) (T:String) (l b:Addr) (items items2:Array Value) (n n2:Nat) (r:Bool) (i:Nat) (A:Around) (R:Result→Shared→Prop) (s:Shared):Prop where
 hl:s.heap.get? l=some { cls:=.type T,data:=.seq items n }
 hb:s.heap.get? b=some { cls:=.type T,data:=.seq items2 n2 }
 lex:Lex o A.in1 s r (items.toList.drop i) (items2.toList.drop i)
 r:R (.ok (.ret (.bool r))) s
theorem qA {o:Bool} {c:Value} (hc:(o=true∧c=rawInt 0)∨(o=false∧c=rawInt 4)) (l b:Addr) (items items2:Array Value) (n n2:Nat) (r:Bool) (k:Nat) :
  ∀ i:Nat,items.size=i+k→i≤items2.size→Meets (Builtin.«list.__eq__.loop» ⟨[.ref l,.ref b,rawInt i,c],[]⟩) (LtPre o "list" l b items items2 n n2 r i):=by
 induction k with
 | zero=>
  intro i hk hi' prog w A R s h
  have hl:=h.hl
  have hb:=h.hb
  have hr:=h.lex.end (bS hk.symm) hi' (.inl (bS hk))
  have h:=h.r
  rw [←hr] at h
  rcases hc with ⟨rfl,rfl⟩ | ⟨rfl,rfl⟩<;>(
   wp_walk using wpAny_loadPart' hl,wpAny_loadPart' hb
   rw [yM (i:=i) (bS hk)]
   wp_walk using wpAny_loadPart' hl,wpAny_loadPart' hb
   exact h)
 | succ k ih=>
  intro i hk hi' prog w A R s h
  have hl:=h.hl
  have hb:=h.hb
  have hlt:i < items.size:=by grind
  rcases dW i items2.size with hlt2 | hge2
  ·obtain⟨e,he1,he2⟩:=h.lex.more hlt hlt2
   have hk':items.size=i+1+k:=by grind
   have hr:=h.r
   clear hk
   rcases hc with ⟨rfl,rfl⟩ | ⟨rfl,rfl⟩<;>(
    wp_walk using wpAny_loadPart' hl,wpAny_loadPart' hb
    rw [mE hlt,mE hlt2]
    refine wpAny_bind (he1 prog w _ _ ?_)
    cases e with
    | true=>
     wp_walk
     exact⟨plainId_quiet plain_eq_loop _,codeAny_builtin entry_eq_loop (by
      rw [Around.under_plainId plain_eq_loop _]
      exact ih (i+1) hk' hlt2 prog w A R s ⟨hl,hb,he2,hr⟩)⟩
    | false=>
     wp_walk using wpAny_loadPart' hl,wpAny_loadPart' hb
     rw [mE hlt,mE hlt2]
     exact wpAny_bind (he2 prog w _ _ (by wp_walk;exact hr)))
  ·have hr:=h.lex.end (aW hlt) hi' (.inr hge2)
   have h:=h.r
   rw [←hr] at h
   rcases hc with ⟨rfl,rfl⟩ | ⟨rfl,rfl⟩<;>(
    wp_walk using wpAny_loadPart' hl,wpAny_loadPart' hb
    rw [mE hlt,yM hge2]
    wp_walk using wpAny_loadPart' hl,wpAny_loadPart' hb
    exact h)
theorem pd (l b:Addr) (items items2:Array Value) (n n2:Nat) (r:Bool) :
  Meets (Builtin.«list.__lt__» ⟨[.ref l,.ref b],[]⟩) (LtPre true "list" l b items items2 n n2 r 0):=by
 intro prog w A R s h
 have hl:=h.hl
 have hb:=h.hb
 have f3:=AutoSeq1.sub_list_list
 wp_walk using wpAny_loadPart' hl,wpAny_loadPart' hb
 exact⟨plainId_quiet plain_eq_loop _,codeAny_builtin entry_eq_loop (by
  rw [Around.under_plainId plain_eq_loop _]
  exact qA (.inl ⟨rfl,rfl⟩) l b items items2 n n2 r _ 0 (cJ _).symm (aD _) prog w A R _ h)⟩
theorem Aa (l b:Addr) (items items2:Array Value) (n n2:Nat) (r:Bool) :
  Meets (Builtin.«list.__gt__» ⟨[.ref l,.ref b],[]⟩) (LtPre false "list" l b items items2 n n2 r 0):=by
 intro prog w A R s h
 have hl:=h.hl
 have hb:=h.hb
 have f3:=AutoSeq1.sub_list_list
 wp_walk using wpAny_loadPart' hl,wpAny_loadPart' hb
 exact⟨plainId_quiet plain_eq_loop _,codeAny_builtin entry_eq_loop (by
  rw [Around.under_plainId plain_eq_loop _]
  exact qA (.inr ⟨rfl,rfl⟩) l b items items2 n n2 r _ 0 (cJ _).symm (aD _) prog w A R _ h)⟩
theorem wW (l b:Addr) (items items2:Array Value) (n n2:Nat) (r:Bool) :
  Meets (Builtin.«tuple.__lt__» ⟨[.ref l,.ref b],[]⟩) (LtPre true "tuple" l b items items2 n n2 r 0):=
 .of_wp fun prog w A R s h=>by
  have hl:=h.hl
  have hb:=h.hb
  have f2:=AutoSeq1.sub_tuple_tuple
  wp_walk using wpAny_loadPart' hl,wpAny_loadPart' hb,wpAny_forIn_list _ (fun rest b s'=>b.1=none∧s'=s∧∃ i,rest=(items.toList.drop i).zip (items2.toList.drop i)∧Lex true A.in1 s r (items.toList.drop i) (items2.toList.drop i) ∧
   i≤items.size∧i≤items2.size) _
  case turn=>
   rintro⟨y,x⟩ rest b s' ⟨hb',rfl,i,hz,hR,h1,h2⟩
   obtain⟨k1,k2,e1,rfl⟩:=wk hz
   obtain⟨rfl,rfl⟩:=Prod.mk.inj e1
   obtain⟨e,he1,he2⟩:=hR.more k1 k2
   refine wpAny_bind (he1 prog w _ _ ?_)
   cases e with
   | true=>
    wp_walk
    exact⟨rfl,rfl,i+1,rfl,he2,k1,k2⟩
   | false=>
    refine wpAny_bind (wpAny_rule (wpAny_bind (he2 prog w _ _ ?_)))
    wp_walk
    exact⟨_,rfl,h.r⟩
  case fin=>
   rintro⟨b1,b2⟩ s' ⟨hb',rfl,i,hz,hR,h1,h2⟩
   cases hb'
   have hr:=hR.end h1 h2 (za hz)
   have h:=h.r
   rw [←hr] at h
   wp_walk
   exact⟨_,rfl,h⟩
  case h=>
   exact⟨rfl,rfl,0,rfl,h.lex,aD _,aD _⟩
end
section
open PySem.SeqAt
section
variable {prog:Program} {w:World} {A:Around} {d:D} {ρ:List Addr} {cv:Option V} {s:Shared} {st:St}
variable {B:Shared} {fs:List Env} {hd:Option Value} {σ:Hp}
theorem pc {n:Nat} {r:Bool} (e1:∀ {x y:V} {a b:Value} {r:Bool},veq σ n x y=some r→VR B.heap ρ s.heap x a→VR B.heap ρ s.heap y b→EqAt A s a b r)
  (e2:∀ {x y:V} {a b:Value} {r:Bool},vlt σ n x y=some r→VR B.heap ρ s.heap x a→VR B.heap ρ s.heap y b→LtAt A s a b r) (l:List V) :
  ∀ {l':List V} {xs ys:List Value},llt (veq σ n) (vlt σ n) l l'=some r→VRs B.heap ρ s.heap l xs→VRs B.heap ρ s.heap l' ys→Lex true A s r xs ys:=by
 induction l with
 | nil=>
  intro l' xs ys h h1 h2
  obtain rfl:=h1
  cases l' with
  | nil=>obtain rfl:=h2;exact (Option.some.inj h).symm
  | cons y l'=>obtain⟨_,_,_,_,rfl⟩:=h2;exact (Option.some.inj h).symm
 | cons x l ih=>
  intro l' xs ys h h1 h2
  obtain⟨_,_,a1,r1,rfl⟩:=h1
  cases l' with
  | nil=>obtain rfl:=h2;exact (Option.some.inj h).symm
  | cons y l'=>
   obtain⟨_,_,a2,r2,rfl⟩:=h2
   obtain⟨e,q,h⟩:=aY.mp h
   cases e with
   | true=>exact⟨true,e1 q a1 a2,ih h r1 r2⟩
   | false=>exact⟨false,e1 q a1 a2,e2 h a1 a2⟩
theorem wR (I:InvH B fs hd ρ s σ) (n:Nat):∀ {A:Around} {x y:V} {a b:Value} {r:Bool},A.units+n < cLine→vlt σ n x y=some r→VR B.heap ρ s.heap x a→VR B.heap ρ s.heap y b→LtAt A s a b r:=by
 induction n with
 | zero=>intro A x y a b r _ h;exact cT h
 | succ n ih=>
  intro A x y a b r hu h hx hy prog w E Q hq
  have hu1:A.in1.units+n < cLine:=by rw [show A.in1.units+n=A.units+(n+1) from km _ _ _];exact hu
  have hu0:A.units+1≤cLine:=aW (aC (bP (cG 1 n) _) hu)
  have fin:Value.bool r≠Value.notImplemented∧Q (.bool r) s:=⟨fun x=>(nomatch x),hq⟩
  have e1:=fun {x y:V} {a b:Value} {r:Bool} (q:veq σ n x y=some r) (u:VR B.heap ρ s.heap x a) (v:VR B.heap ρ s.heap y b)=>(lE (A:=A.in1) I n hu1 q u v).eq
  have e2:=fun {x y:V} {a b:Value} {r:Bool} (q:vlt σ n x y=some r) (u:VR B.heap ρ s.heap x a) (v:VR B.heap ρ s.heap y b)=>ih (A:=A.in1) hu1 q u v
  cases gw h with
  | int i j e=>
   obtain⟨t,rfl⟩:=hx
   obtain⟨u,rfl⟩:=hy
   subst e
   exact lt_int hq
  | str p q e=>
   obtain⟨_,t,rfl⟩:=hx
   obtain⟨_,u,rfl⟩:=hy
   subst e
   exact PyProof.Rows.lt_str hq
  | bool i j e=>exact cT e
  | tup l l' hk=>
   obtain⟨a1,xs,n1,rfl,g1,_,r1⟩:=hx
   obtain⟨b1,ys,n2,rfl,g2,_,r2⟩:=hy
   exact richCompare_meets_room (op:=.Lt) ⟨_,g1,rfl⟩ ⟨_,g2,rfl⟩ F.slot_tuple_lt F.entry_tuple_lt (F.args_tuple_lt_2 _ _) (wW _ _ _ _ _ _ r) ⟨g1,g2,pc e1 e2 l hk r1 r2,fin⟩ hu0
  | loc i j l l' q1 q2 hk=>
   obtain⟨a1,h1,rfl⟩:=hx
   obtain⟨b1,h2,rfl⟩:=hy
   obtain⟨_,xs,k,f1,f2,f3,_⟩:=I.list _ _ q1
   obtain⟨_,ys,k',f1',f2',f3',_⟩:=I.list _ _ q2
   cases h1.symm.trans f1
   cases h2.symm.trans f1'
   exact richCompare_meets_room (op:=.Lt) ⟨_,f2,rfl⟩ ⟨_,f2',rfl⟩ F.slot_list_lt F.entry_list_lt (F.args_list_lt_2 _ _) (pd _ _ _ _ _ _ r) ⟨f2,f2',pc e1 e2 l hk f3 f3',fin⟩ hu0
theorem lim62:((LIM:Nat):Int) < 2 ^ 63:=by unfold LIM;omega
theorem xW {α:Type} {xs:Array Value} {l:List α} (h:xs.size=l.length):(!xs.isEmpty)=!l.isEmpty:=by
 unfold Array.isEmpty
 rw [h]
 cases l<;>rfl
theorem BN {l:List Nat}:((l.length:Int) != 0)=!l.isEmpty:=by cases l<;>rfl
theorem small62 {n m:Nat} (h:n=m) (z:m≤LIM):(n:Int) < 2 ^ 63:=by have:=lim62;omega
theorem iB {v:V} {x:Value} (I:Inv d ρ cv s st) (hv:VR d.B.heap ρ s.heap v x):TriP d ρ cv s RBool (wpAny (model prog w) A (truthy x)) (lift (truth st.hp v) st):=by
 cases v with
 | bool b=>obtain rfl:=hv;exact .bool (t:=s.toks) I fun Q h E=>wpAny_truthy_bool h
 | str l=>
  obtain⟨hz,t,rfl⟩:=hv
  refine .bool (t:=s.toks+1+1) I fun Q h E=>P.truthy_str (pO.mpr (small62 (Str.len_mk _) hz)) ?_
  rw [Str.len_mk,BN];exact h
 | loc n=>
  obtain⟨a,ha,rfl⟩:=hv
  refine .lift fun b e=>?_
  obtain⟨l,e',rfl⟩:=aF.mp e
  obtain⟨c,xs,k,L⟩:=I.cellOf e'
  cases ha.symm.trans L.i
  refine .bool (t:=s.toks+1+1) I fun Q h E=>wpAny_truthy_list L.is (small62 L.len L.z) ?_
  rw [xW L.len];exact h
 | tup l=>
  obtain⟨a,xs,n,rfl,h2,hz,h3⟩:=hv
  refine .bool (t:=s.toks+1+1) I fun Q h E=>ktl_truthy h2 (pO.mpr (small62 (lens h3) hz)) ?_
  rw [xW (lens h3)];exact h
 | _=>exact .bad
noncomputable def cOf:Cop→CmpOp
 | .eq=>.Eq | .ne=>.NotEq | .lt=>.Lt | .le=>.LtE | .gt=>.Gt | .ge=>.GtE | .isin=>.In | .notin=>.NotIn
theorem qK (I:InvH B fs hd ρ s σ) {x:V} {a:Value} (hx:VR B.heap ρ s.heap x a) (hu:A.units+5 < cLine) (l:List V):∀ {xs:List Value} {r:Bool},memV σ x l=some r→VRs B.heap ρ s.heap l xs →
  ∃ e:Value→Bool,(∀ v∈l,∀ y,VR B.heap ρ s.heap v y→e y=(veq σ DEPTH v x).getD false)∧(∀ y,y∈xs→EqAt A.in1 s y a (e y))∧xs.any e=r:=by
 classical
 intro xs r h hs
 refine⟨fun y=>decide (∃ v,VR B.heap ρ s.heap v y∧veq σ DEPTH v x=some true),fun v _ y hv=>?_,?_⟩
 ·rw [iw,decide_eq_true_eq]
  refine⟨fun⟨v',h1,h2⟩=>by rw [VR.det I v hv h1,h2];rfl,fun h2=>⟨v,hv,?_⟩⟩
  cases q:veq σ DEPTH v x with
  | none=>rw [q] at h2;cases h2
  | some b=>rw [q] at h2;rw [show b=true from h2]
 ·induction l generalizing xs r with
  | nil=>obtain rfl:=hs;exact⟨fun y hy=>(nomatch hy),Option.some.inj h⟩
  | cons v l ih=>
   obtain⟨y,ys,hv,hs,rfl⟩:=hs
   obtain⟨b,h1,h⟩:=aY.mp h
   obtain⟨c,h2,h⟩:=aY.mp h
   obtain⟨i1,i2⟩:=ih h2 hs
   have ey:decide (∃ v,VR B.heap ρ s.heap v y∧veq σ DEPTH v x=some true)=b:=by
    rw [iw,decide_eq_true_eq]
    exact⟨fun⟨v',g1,g2⟩=>by rw [VR.det I v hv g1,g2] at h1;exact (Option.some.inj h1).symm,fun q=>⟨v,hv,q▸h1⟩⟩
   refine⟨fun z hz=>?_,?_⟩
   ·rcases az.mp hz with rfl | hz
    ·show EqAt A.in1 s z a (decide _)
     rw [ey];exact (lE I _ (A:=A.in1) hu h1 hv hx).eq
    ·exact i1 z hz
   ·rw [List.any_cons,i2,ey];exact Option.some.inj h
theorem xY (c:Nat) (t:List Nat):(!(Builtin.Str.occurrences ⟨t.toArray⟩ ⟨#[c]⟩ 0 (⟨t.toArray⟩:Str).length 1).isEmpty)=decide (c∈t):=by
 rw [StrLaws.found_one]
theorem AH (I:InvH B fs hd ρ s σ) {x y:V} {a b:Value} {r:Bool} (hx:VR B.heap ρ s.heap x a) (hy:VR B.heap ρ s.heap y b) (hu:A.units+20 < cLine) (h:inV σ x y=some r) (Q:Value→Shared→Prop) (E:Value→Shared→Prop) :
  (Q (.bool r) s→wpAny (model prog w) A (compareOp .In a b) Q E s)∧(Q (.bool (!r)) s→wpAny (model prog w) A (compareOp .NotIn a b) Q E s):=by
 have hu5:A.units+5 < cLine:=aC (bP (by decide) _) hu
 have hu1:A.units+1 < cLine:=aC (bP (by decide) _) hu
 cases y with
 | str t=>
  obtain⟨_,tk,rfl⟩:=hy
  cases x with
  | str l=>
   obtain⟨_,tl,rfl⟩:=hx
   match l,h with
   | [c],h=>
    cases h
    refine⟨fun hq=>PyProof.Rows.in_str ?_,fun hq=>PyProof.Rows.notIn_str ?_⟩
    ·rw [show ([c].toArray:Array Nat)=#[c] from rfl,xY];exact hq
    ·rw [show ([c].toArray:Array Nat)=#[c] from rfl,xY];exact hq
  | _=>exact cT h
 | loc n=>
  obtain⟨c,h2,rfl⟩:=hy
  obtain⟨l,e,h⟩:=aY.mp h
  obtain⟨_,xs,k,f1,f2,f3,_⟩:=I.list _ _ e
  cases h2.symm.trans f1
  obtain⟨e',_,g1,g2⟩:=qK (A:=A) I hx hu5 l h f3
  rw [yV] at g2
  subst g2
  exact⟨fun hq=>in_listAt e' (br f2) (fun z hz=>g1 z (eB.mpr hz)) hq,fun hq=>notIn_listAt e' (br f2) (fun z hz=>g1 z (eB.mpr hz)) hq⟩
 | tup l=>
  obtain⟨c,xs,n,rfl,e,z,r1⟩:=hy
  obtain⟨e',_,g1,g2⟩:=qK (A:=A) I hx hu5 l h r1
  rw [yV] at g2
  subst g2
  exact⟨fun hq=>in_tupleAt e' ⟨_,e,rfl,_,rfl⟩ (fun z hz=>g1 z (eB.mpr hz)) hq,fun hq=>notIn_tupleAt e' ⟨_,e,rfl,_,rfl⟩ (fun z hz=>g1 z (eB.mpr hz)) hq⟩
 | _=>exact cT h
theorem sG {x y:V} {a b:Value} {r:Bool} {op:CmpOp} {f:Int→Int→Bool} {g:List Nat→List Nat→Bool} (hx:VR B.heap ρ s.heap x a) (hy:VR B.heap ρ s.heap y b) {Q:Value→Shared→Prop} {E:Value→Shared→Prop}
  (hi:∀ i j t u,f i j=r→wpAny (model prog w) A (compareOp op (.int i t) (.int j u)) Q E s) (hs:∀ p q t u,g p q=r→wpAny (model prog w) A (compareOp op (.str ⟨p.toArray⟩ t) (.str ⟨q.toArray⟩ u)) Q E s)
  (h:ordV x y f g=some r):wpAny (model prog w) A (compareOp op a b) Q E s:=by
 cases gw h with
 | int i j e=>
  obtain⟨t,rfl⟩:=hx
  obtain⟨u,rfl⟩:=hy
  exact hi _ _ _ _ e
 | str p q e=>
  obtain⟨_,t,rfl⟩:=hx
  obtain⟨_,u,rfl⟩:=hy
  exact hs _ _ _ _ e
 | bool i j e=>exact cT e
 | tup l l' h=>exact cT h
 | loc i j l l' q1 q2 h=>exact cT h
theorem kT (op:Cop) {x y:V} {a b:Value} (I:Inv d ρ cv s st) (hx:VR d.B.heap ρ s.heap x a) (hy:VR d.B.heap ρ s.heap y b) (hu:A.units+20 < cLine) :
  TriP d ρ cv s (RVal d) (wpAny (model prog w) A (compareOp (cOf op) a b)) ((lift (cmpop op x y st.hp) st).bind fun r st=>.ok (.bool r) st):=by
 cases h:cmpop op x y st.hp with
 | none=>exact .bad
 | some r=>
  show TriP d ρ cv s (RVal d) _ (.ok (.bool r) st)
  refine .ok fun Q E hq=>?_
  have hq:Q (.bool r) s:=hq _ _ ρ (.bool _) (.refl I)
  have hD:A.units+DEPTH < cLine:=aC (bP (by decide) _) hu
  cases op with
  | eq=>exact (lE I.h _ hD h hx hy).rc prog w E Q hq
  | ne=>
   obtain⟨r',h',rfl⟩:=aF.mp h
   exact (lE I.h _ hD h' hx hy).ne prog w E Q hq
  | lt=>exact wR I.h _ hD h hx hy prog w E Q hq
  | gt=>exact sG hx hy (fun i j t u e=>by subst e;exact gt_int hq) (fun p q t u e=>by subst e;exact P.gt_str hq) h
  | ge=>exact sG hx hy (fun i j t u e=>by subst e;exact ge_int hq) (fun p q t u e=>by subst e;exact P.ge_str hq) h
  | le=>exact sG hx hy (fun i j t u e=>by subst e;exact le_int hq) (fun p q t u e=>by subst e;exact P.le_str hq) h
  | isin=>exact (AH I.h hx hy hu h Q E).1 hq
  | notin=>
   obtain⟨r',h',rfl⟩:=aF.mp h
   exact (AH I.h hx hy hu h' Q E).2 hq
end
end
inductive NewIx (hd:Option Value) (h h':Heap) (e:Addr):Prop
 | mk (keeps:∀ b o,h.get? b=some o→h'.get? b=some o) (size:h.objs.size≤h'.objs.size) (new:h.objs.size≤e) (o:Obj) (vs:Array Value)
  (g:h'.get? e=some o) (c:o.cls = .type "IndexError") (d:o.data = .fields vs) (z:vs.size=6) (v1:vs[1]?=some .none) (v2:hd=none→vs[2]?=some .none)
theorem mX:entryFor table "proto.unchain"=some Builtin.«proto.unchain»:=entryFor_of_tree (by kernel_rfl)
section
variable {α:Type} {prog:Program} {w:World} {A:Around} {E:Value→Shared→Prop} {s:Shared} {hd:Option Value}
theorem yW:plainId "proto.unchain"=true:=by decide +kernel
theorem jZ {e a:Addr} {o oe:Obj} {vs ws:Array Value} {Q:α→Shared→Prop} (hh:A.handled=some (.ref a)) (hne:a≠e) (h2:s.heap.get? a=some o) (h3:o.data = .fields vs) (h4:vs[2]?=some .none)
  (he:s.heap.get? e=some oe) (hde:oe.data = .fields ws) (hsz:2 < ws.size) (h:E (.ref e) { s with heap:=s.heap.update e (eC (·.setIfInBounds 2 (.ref a))) }) :
  wpAny (model prog w) A (raiseNew (.ref e):Sem α) Q E s:=by
 unfold raiseNew
 refine wpAny_bind (wpAny_handled ?_)
 rw [hh]
 have hb:(Value.ref a != Value.ref e)=true:=bne_iff_ne.mpr fun q=>hne (by injection q)
 simp only [hb,if_true]
 refine wpAny_bind (wpAny_holding (wpAny_runValue ?_))
 refine codeAny_builtin mX ?_
 show wpAny _ _ (do
  let context ← field (.ref a) 2
  if context == .none then return ← ret .none
  if context == Value.ref e then
   rule "raise.context-cycle-cut"
   setField (.ref a) 2 .none
   return ← ret .none
  if context == Value.ref a then rule "raise.context-old-cycle";return ← ret .none
  let slow ← if false then field (.ref a) 2 else pure (.ref a)
  again (.builtin "proto.unchain" ⟨[.ref e,context,slow,.bool !false],[]⟩)) _ _ s
 refine wpAny_bind (wpAny_field h2 h3 h4 ?_)
 rw [if_pos (by decide)]
 refine wpAny_pure ?_
 show wpAny _ _ (updateField e 2 (.ref a) >>= fun _=>throw (.ref e)) _ _ _
 refine wpAny_bind ?_
 unfold updateField
 refine wpAny_bind (wpAny_load he ?_)
 rw [hde]
 show wpAny _ _ (if 2 < ws.size then _ else _) _ _ _
 rw [if_pos hsz]
 exact wpAny_update he (wpAny_throw h)
theorem jD {msg:String} {Q:α→Shared→Prop} (hh:A.handled=hd) (hk:HandledOk hd s.heap) (h:∀ h' tk e,NewIx hd s.heap h' e→E (.ref e) { s with heap:=h',toks:=tk }) :
  wpAny (model prog w) A (raiseErrorWords "IndexError" msg:Sem α) Q E s:=by
 have hp:=plainExc_IndexError
 unfold raiseErrorWords
 refine wpAny_bind (wpAny_mkText (wpAny_bind ?_))
 unfold newExc newTuple
 refine wpAny_bind (wpAny_newObj_type ?_)
 refine wpAny_bind (m:=firstArgMember _ _) (wpAny_of_eq (a:=Value.none) (by simp only [firstArgMember,hp.first];rfl) ?_)
 rw [hp.own]
 refine wpAny_newObj_type ?_
 generalize htp:({ cls:=.type "tuple",data:=.seq [Value.str (bF msg) s.toks].toArray }:Obj)=o1
 have hkeep:∀ b o,s.heap.get? b=some o→∀ o2,((s.heap.push o1).push o2).get? b=some o:=fun b o hb o2=>af _ (af _ hb)
 have hsz:∀ o2,((s.heap.push o1).push o2).objs.size=s.heap.objs.size+2:=fun o2=>by rw [aH,aH]
 have hnew:s.heap.objs.size≤(s.heap.push o1).objs.size:=by rw [aH];exact bv _
 cases hd with
 | none=>
  unfold raiseNew
  refine wpAny_bind (wpAny_handled ?_)
  rw [hh]
  first
   | refine wpAny_throw ?_
   | refine wpAny_bind (wpAny_pure (wpAny_throw ?_))
  exact h _ _ _ ⟨fun b o hb=>hkeep b o hb _,by rw [hsz];exact aX _ _,hnew,_,_,ao _ rfl,rfl,rfl,rfl,rfl,fun _=>rfl⟩
 | some v=>
  obtain⟨a,o,vs,rfl,h2,h3,h4⟩:=hk v rfl
  have ha:=au h2
  refine jZ (s:={ s with heap:=(s.heap.push o1).push _,toks:=s.toks+1 }) hh (aP (aE ha hnew)) (hkeep _ _ h2 _) h3 h4 (ao _ rfl) rfl (by simp) ?_
  refine h _ _ _ ⟨fun b o hb=>?_,?_,hnew,_,_,bD _ (ao _ rfl) rfl,rfl,rfl,rfl,rfl,fun q=>by cases q⟩
  ·rw [aI _ _ (bR (aE (au hb) hnew))]
   exact hkeep b o hb _
  ·rw [aO,hsz];exact aX _ _
theorem sW {l:Addr} {items:Array Value} {k:Int} {t:Tok} {Q:Value→Shared→Prop} (hh:A.handled=hd) (hk:HandledOk hd s.heap) (hl:s.heap.IsList l items)
  (hout:(items.size:Int)≤k) (hhi:k < 2 ^ 63) (hE:∀ h' tk e,NewIx hd s.heap h' e→E (.ref e) { s with heap:=h',toks:=tk }) :
  wpAny (model prog w) A (getItem (.ref l) (.int k t)) Q E s:=by
 obtain⟨o,ho,hc,ne,hd⟩:=id hl
 have h0:0≤k:=by grind
 unfold getItem
 try with_reducible refine wpAny_holding ?_
 first | refine wpAny_bind (wpAny_pure ?_) | skip
 refine wpAny_bind (wpAny_sequenceKey hl.typeIs (by decide) ?_)
 refine wpAny_bind (wpAny_callSpecial?_slot (name:=bF "__getitem__") hl.typeIs slot_list_getitem
  (wpAny_call_entry slot_list_getitem hl.typeIs entry_list_getitem ?_ (args_list_getitem _ _)))
 show wpAny _ _ (Builtin.List.listSubscript? (.int k t) >>= _) _ _ s
 refine wpAny_bind (wpAny_listSubscript_int (fitsIndex_both (by grind) hhi) ?_)
 clear hhi
 obtain⟨j,rfl⟩:=dK h0
 have hx:items[j]?=none:=c5 (by grind)
 show wpAny _ _ ((seqItemAt l j >>= fun r=>pure (r.map (j,·))) >>= _) _ _ s
 refine wpAny_bind (wpAny_bind (wpAny_seqItemAt ho hd (wpAny_pure ?_)))
 rw [hx]
 first
  | exact wpAny_bind (wpAny_rule (jD hh hk hE))
  | exact wpAny_bind (wpAny_rule (wpAny_bind (jD hh hk hE)))
  | exact wpAny_bind (wpAny_bind (wpAny_rule (jD hh hk hE)))
  | exact wpAny_rule (jD hh hk hE)
end
section
variable {prog:Program} {w:World} {A:Around} {d:D} {ρ:List Addr} {cv:Option V} {s:Shared} {st:St}
inductive NormAt (k:Int) (n j:Nat):Prop
 | front (h0:0≤k) (e:j=k.toNat) (h:j < n)
 | back (h0:k < 0) (e:j=(k+n).toNat) (h1:-(n:Int)≤k) (h:j < n)
theorem normAt {k:Int} {n j:Nat} (h:normIdx k n=some j):NormAt k n j:=by
 unfold normIdx at h
 by_cases q:0≤k∧k < (n:Int)
 ·rw [if_pos q] at h
  exact .front q.1 (Option.some.inj h).symm (by have:=Option.some.inj h;omega)
 ·rw [if_neg q] at h
  by_cases q:-(n:Int)≤k∧k < 0
  ·rw [if_pos q] at h
   exact .back q.2 (Option.some.inj h).symm q.1 (by have:=Option.some.inj h;omega)
  ·rw [if_neg q] at h;cases h
theorem iR {k:Int} {n j:Nat} (h:NormAt k n j):seqIndex? k n=some j∧j < n∧-(n:Int)≤k∧k < n:=by
 unfold seqIndex?
 cases h with
 | front h0 e h=>
  have h2:k < n:=(Int.toNat_lt h0).mp (e▸h)
  refine⟨?_,h,Int.le_trans (Int.neg_nonpos_of_nonneg (bg n)) h0,h2⟩
  simp [pN.mpr h0,h0,h2,e]
 | back h0 e h1 h=>
  have h2:0≤k+n:=by omega
  have h3:k+n < n:=by omega
  refine⟨?_,h,h1,Int.lt_of_lt_of_le h0 (bg n)⟩
  simp [h0,h2,h3,e]
theorem sO {k:Int} {n:Nat} (h:k < n) (z:n≤LIM):k < 2 ^ 63:=iq h (small62 rfl z)
theorem sP {k:Int} {n:Nat} (h:-(n:Int)≤k) (z:n≤LIM):-2 ^ 63≤k:=Int.le_trans (Int.neg_le_neg (ir (small62 rfl z))) h
inductive ItemAt {α:Type} (l:List α) (k:Int) (v:α):Prop
 | mk (j:Nat) (n:NormAt k l.length j) (e:l[j]?=some v)
theorem fE {α:Type} {l:List α} {k:Int} {v:α} (h:itemAt l k=some v):ItemAt l k v:=by
 obtain⟨j,h1,h2⟩:=aY.mp h
 exact⟨j,normAt h1,h2⟩
theorem iV {l:Addr} {items:Array Value} {k:Int} {t:Tok} {j:Nat} {x:Value} {Q:Value→Shared→Prop} {E:Value→Shared→Prop} (hl:s.heap.IsList l items) (hz:items.size≤LIM) (hj:NormAt k items.size j) (hx:items[j]?=some x) (h:Q x s) :
  wpAny (model prog w) A (getItem (.ref l) (.int k t)) Q E s:=by
 cases hj with
 | front h0 e h'=>subst e;exact wpAny_getItem_list hl h0 (sO ((Int.toNat_lt h0).mp h') hz) hx h
 | back h0 e h1 h'=>subst e;exact wpAny_getItem_list_neg hl h0 h1 (sP h1 hz) hx h
theorem nW {l:Addr} {items:Array Value} {k:Int} {t:Tok} {vs:List V} {v:V} (h:ItemAt vs k v) (hl:s.heap.IsList l items) (r:VRs d.B.heap ρ s.heap vs items.toList) (z:vs.length≤LIM) :
  ∃ c,VR d.B.heap ρ s.heap v c∧∀ (Q:Value→Shared→Prop) (E:Value→Shared→Prop),Q c s→wpAny (model prog w) A (getItem (.ref l) (.int k t)) Q E s:=by
 obtain⟨j,n,e⟩:=h
 obtain⟨c,hc,rc⟩:=r.get e
 have sz:=lens r
 exact⟨c,rc,fun Q E hq=>iV hl (by rw [sz];exact z) (by rw [sz];exact n) (by rw [←ba];exact hc) hq⟩
theorem zG {x y:V} {a b:Value} {value slice:Expr} (hA:A.handled=d.hd) (I:Inv d ρ cv s st) (hx:VR d.B.heap ρ s.heap x a) (hy:VR d.B.heap ρ s.heap y b)
  (hs:∀ o i,subscripted slice false o i=operate [o,i] (getItem o i)) :
  TriP d ρ cv s (RVal d) (wpAny (model prog w) A (subscriptTail value slice a b)) (idxV x y st):=by
 refine .onInt hy fun k t e=>?_
 subst e
 cases x with
 | flist l=>
  obtain⟨a1,o1,xs,n1,rfl,e1,c1,d1,z1,r1⟩:=hx
  refine .lift fun v hv=>?_
  have hL:s.heap.IsList a1 xs:=⟨o1,I.h.base _ _ e1,c1,n1,d1⟩
  obtain⟨c,rc,h⟩:=nW (prog:=prog) (w:=w) (A:=A) (t:=t) (fE hv) hL r1 z1
  exact .ok fun Q E hq=>tail_any hL.typeIs slot_list_getitem.lookup (h Q E (hq _ _ ρ rc (.refl I))) (hs _ _)
 | tup l=>
  obtain⟨a1,xs,n1,rfl,e1,z1,r1⟩:=hx
  refine .lift fun v hv=>?_
  obtain⟨j,n,e⟩:=fE hv
  obtain⟨k1,k2,k3,k4⟩:=iR n
  obtain⟨c,hc,rc⟩:=r1.get e
  have sz:=lens r1
  have hT:IsTup s.heap _ _:=⟨_,e1,rfl,_,rfl⟩
  exact .ok fun Q E hq=>tail_any hT.typeIs slot_tuple_getitem.lookup (PyProof.Rows.getItem_tuple hT (sP k3 z1) (sO k4 z1) (by rw [sz];exact k1) (by rw [←ba];exact hc) (hq _ _ ρ rc (.refl I))) (hs _ _)
 | str l=>
  obtain⟨hz,t,rfl⟩:=hx
  refine .lift fun v hv=>?_
  obtain⟨c,hv',rfl⟩:=aF.mp hv
  obtain⟨j,n,e⟩:=fE hv'
  obtain⟨k1,k2,k3,k4⟩:=iR n
  refine .ok fun Q E hq=>tail_any (typeIs_str s _ t) F.slot_str_getitem.lookup (P.getItem_str (c:=c) (i4.mpr ⟨decide_eq_false (pN.mpr (sP k3 hz)),decide_eq_false (pO.mpr (sO k4 hz))⟩) ?_ (hq _ _ ρ (.str [c] s.toks (aq rfl)) (.toks I _))) (hs _ _)
  rw [Str.len_mk,k1]
  show l.toArray[j]?=some c
  rw [tB];exact e
 | loc n=>
  refine TriP.onList I hx fun n l c xs q e L=>?_
  subst e
  cases hv:itemAt l k with
  | some v=>
   obtain⟨c',rc,h⟩:=nW (prog:=prog) (w:=w) (A:=A) (t:=t) (fE hv) L.is L.r L.z
   exact .ok fun Q E hq=>tail_any L.is.typeIs slot_list_getitem.lookup (h Q E (hq _ _ ρ rc (.refl I))) (hs _ _)
  | none=>
   refine .ifb fun hout=>?_
   intro _ _ Q E _ hE
   refine tail_any L.is.typeIs slot_list_getitem.lookup (sW hA I.h.hok L.is (by rw [L.len];exact hout.1) (iq hout.2 (by decide)) fun h' tk e N=>?_) (hs _ _)
   obtain⟨keeps,size,new,o,vs,n1,n2,n3,n4,n5,n6⟩:=N
   exact hE st (.ref e) _ ρ rfl (Post.grown I keeps size) ⟨e,o,vs,rfl,n1,n2,n3,bS n4.symm,new,fun q=>n6 (D.ctx_none q).2,.no n5⟩
 | _=>exact .bad
end
noncomputable def loN (lo:Option Int) (n:Nat):Nat:=match lo with | some i=>clamp i n | none=>0
noncomputable def hiN (hi:Option Int) (n:Nat):Nat:=match hi with | some i=>clamp i n | none=>n
theorem kc {α:Type} (l:List α) (lo hi:Option Int):cut l lo hi=(l.drop (loN lo l.length)).take (hiN hi l.length - loN lo l.length):=by
 unfold cut loN hiN
 exact List.drop_take ..
theorem oc (i:Int) (n:Nat):max 0 (min (if i < 0 then i+n else i) (n:Int))=((clamp i n:Nat):Int):=by
 unfold clamp
 by_cases h:i < 0
 ·rw [if_pos h,if_pos h,Int.min_eq_left (by have:=Int.add_lt_add_right h n;rw [Int.zero_add] at this;exact ir this),Int.toNat_eq_max,Int.max_comm]
 ·obtain⟨k,rfl⟩:=dK (pN.mp h)
  rw [if_neg h,if_neg h]
  show max 0 (min (k:Int) n)=((min k n:Nat):Int)
  rcases Nat.le_total k n with q | q
  ·rw [Int.min_eq_left (c7.mpr q),fg q,Int.max_eq_right (bg _)]
  ·rw [Int.min_eq_right (c7.mpr q),gU q,Int.max_eq_right (bg _)]
theorem vU (lo hi:Option Int) (n:Nat):sliceBounds lo hi none n=((loN lo n:Int),(hiN hi n:Int),1):=by
 unfold sliceBounds loN hiN
 simp only [Option.getD_none,show (1:Int) > 0 by decide,if_true]
 cases lo<;>cases hi<;>simp only [oc]<;>rfl
theorem mP (items:Array Value) (lo hi:Option Int):slicePick items lo hi none=(cut items.toList lo hi).toArray:=by
 unfold slicePick
 rw [vU,kc]
 simp only [sliceRange_one,pick_run]
 simp
theorem u7 (n:Nat) (lo hi:Option Int):Builtin.Str.strSliceIndices lo hi 1 n=sliceRange (loN lo n:Int) (hiN hi n:Int) 1:=by
 unfold Builtin.Str.strSliceIndices loN hiN
 simp only [show (1:Int) > 0 by decide,if_true]
 cases lo<;>cases hi<;>simp only [oc]<;>rfl
def PartR (o:Option Int) (v:Value):Prop:=match o with
 | none=>v = .none
 | some i=>∃ t,v = .int i t
theorem PartR.is {o:Option Int} {v:Value} (h:PartR o v):IsPart v o:=by
 cases o with
 | none=>cases h;exact .none
 | some i=>obtain⟨t,rfl⟩:=h;exact .int i t
theorem PartR.part {o:Option Int} {v:Value} (h:PartR o v):∃ l:Option (Int×Tok),v=partValue l∧l.map (·.1)=o:=by
 cases o with
 | none=>cases h;exact⟨none,rfl,rfl⟩
 | some i=>obtain⟨t,rfl⟩:=h;exact⟨some (i,t),rfl,rfl⟩
theorem An {α:Type} (l:List α) (lo hi:Option Int):(cut l lo hi).length≤l.length:=by
 rw [kc,bC,bU];exact aj (eA _ _) (dJ _ _)
theorem VRs.cut {B:Heap} {ρ:List Addr} {h:Heap} {l:List V} {xs:List Value} (r:VRs B ρ h l xs) (lo hi:Option Int):VRs B ρ h (Mine.cut l lo hi) (Mine.cut xs lo hi):=by
 rw [kc,kc,r.length]
 exact (r.drop _).take _
section
variable {prog:Program} {w:World} {A:Around} {d:D} {ρ:List Addr} {cv:Option V} {s:Shared} {st:St}
noncomputable abbrev sliceObj (vl vu:Value):Obj:={ cls:=.type "slice",data:=.fields #[vl,vu,.none] }
theorem lN {a1:Addr} {l:List V} {xs:Array Value} {vl vu:Value} {lo hi:Option Int} {value slice:Expr} (I:Inv d ρ cv s st) (hlo:PartR lo vl) (hhi:PartR hi vu) (hs:∀ o i,subscripted slice false o i=operate [i,o] (getItem o i))
  (hL:s.heap.IsList a1 xs) (hz:l.length≤LIM) (h3:VRs d.B.heap ρ s.heap l xs.toList) :
  TriP d ρ cv s (RVal d) (fun Q E s=>wpAny (model prog w) A (subscriptTail value slice (.ref a1) (.ref s.heap.objs.size)) Q E { s with heap:=s.heap.push (sliceObj vl vu) }) (alloc (cut l lo hi) st):=by
 refine jB fun hl Q E hq=>?_
 have hL':=hL.push (sliceObj vl vu)
 refine tail_any (T:="list") hL'.typeIs slot_list_getitem.lookup (wpAny_getItem_list_slice hL' (Heap.IsSliceOf.new ..) hlo.is hhi.is .none (by decide) ?_ (by rw [lens h3];exact aj hz bT)) (hs _ _)
 rw [aH]
 refine hq _ _ _ (VR.new I.h.len) (Post.new I (k:=0) (fun b o e=>af _ (af _ e)) (by rw [aH,aH];exact aX _ 2) (bv _) (xs:=slicePick xs lo hi none) ?_ ?_ hl)
 ·have:=ao (s.heap.push (sliceObj vl vu)) (o:=lobj (slicePick xs lo hi none) 0) rfl
  rw [aH] at this
  exact this
 ·rw [mP]
  exact h3.cut lo hi
theorem qy (l:List Nat) {p q:Option (Int×Tok)} {lo hi:Option Int} (hp:p.map (·.1)=lo) (hq:q.map (·.1)=hi):slicePicked ⟨l.toArray⟩ p q none=sliceRange (loN lo l.length:Int) (hiN hi l.length:Int) 1:=by
 unfold slicePicked
 rw [hp,hq,Str.len_mk]
 exact u7 _ _ _
theorem sF (l:List Nat) (lo hi:Option Int):((sliceRange (loN lo l.length:Int) (hiN hi l.length:Int) 1).filterMap ((⟨l.toArray⟩:Str).cps[·]?))=cut l lo hi:=by
 rw [kc,sliceRange_one,pick_run]
theorem BU (hi:Option Int) (n:Nat):hiN hi n≤n:=by
 cases hi with
 | none=>exact am _
 | some i=>
  show clamp i n≤n
  unfold clamp
  by_cases h:i < 0
  ·rw [if_pos h];grind
  ·rw [if_neg h];exact eA _ _
theorem uZ {l:List Nat} {lo hi:Option Int} (h:(sliceRange (loN lo l.length:Int) (hiN hi l.length:Int) 1).length=l.length):cut l lo hi=l:=by
 rw [sliceRange_one,ae,kG] at h
 have hb:=BU hi l.length
 rw [kc,h]
 by_cases hl0:l.length=0
 ·obtain rfl:=aG hl0;simp
 ·rw [show loN lo l.length=0 by grind,dP,bj]
theorem jW {x:V} {a vl vu:Value} {lo hi:Option Int} {value slice:Expr} (I:Inv d ρ cv s st) (hx:VR d.B.heap ρ s.heap x a) (hlo:PartR lo vl) (hhi:PartR hi vu)
  (hs:∀ o i,subscripted slice false o i=operate [i,o] (getItem o i)) :
  TriP d ρ cv s (RVal d) (fun Q E s=>wpAny (model prog w) A (subscriptTail value slice a (.ref s.heap.objs.size)) Q E { s with heap:=s.heap.push (sliceObj vl vu) }) (sliceV x lo hi st):=by
 refine .guard fun _=>?_
 cases x with
 | str l=>
  obtain⟨hz,t,rfl⟩:=hx
  obtain⟨p,rfl,hp⟩:=hlo.part
  obtain⟨q,rfl,hq'⟩:=hhi.part
  have hzc:=aj (An l lo hi) hz
  have pp:Post d ρ cv s ρ { s with heap:=s.heap.push (sliceObj (partValue p) (partValue q)) } st:=Post.grown (t:=s.toks) I (fun b o e=>af _ e) (Keep.push (W:=fun _=>False) _).size
  refine .ok fun Q E hq=>tail_any (T:="str") (typeIs_str _ _ t) F.slot_str_getitem.lookup (wpAny_getItem_str_slice (l:=p) (u:=q) (st:=none) ⟨_,ao _ rfl,rfl,rfl⟩ rfl ?_) (hs _ _)
  unfold sliceMade
  rw [qy l hp hq']
  split
  ·rename_i hc
   have h1:=eq_of_beq (cI.mp hc).2
   rw [Str.len_mk] at h1
   exact hq _ _ ρ (by rw [uZ h1];exact .str l t hz) pp
  ·rw [sF]
   exact⟨by rw [Str.len_mk];exact aj hzc bT,hq _ _ ρ (VR.str' rfl hzc) (pp.trans (Post.toks pp.inv _))⟩
 | loc n=>exact TriP.onList I hx fun n l c xs q e L=>by subst e;exact lN I hlo hhi hs L.is L.z L.r
 | flist l=>
  obtain⟨a1,o,xs,n,rfl,e1,c1,d1,z1,r1⟩:=hx
  exact lN I hlo hhi hs ⟨_,I.h.base _ _ e1,c1,_,d1⟩ z1 r1
 | _=>exact .bad
end
section
open Builtin.Str
noncomputable abbrev mk (l:List Nat):Str:=⟨l.toArray⟩
theorem BE (x:Str):mk x.cps.toList=x:=by cases x;simp [mk]
theorem qI {x:Str} {l:List Nat} (h:x.cps.toList=l):x=mk l:=by subst h;exact (BE x).symm
theorem kz (g:Nat→Bool) (l:List Nat):Txt.stripBy g false true (mk l)=mk (rstripL g l):=by
 rw [W.stripBy_eq]
 refine qI ?_
 unfold W.stripped rstripL
 rw [StrLaws.strSub_toList]
 simp only [be,if_false,if_true,dP,Nat.sub_zero,Str.len_mk]
 have h:l=(l.reverse.dropWhile g).reverse++(l.reverse.takeWhile g).reverse:=by
  rw [←fj,List.takeWhile_append_dropWhile,ur]
 have hz:(l.reverse.takeWhile g).length≤l.length:=by
  have:=(List.takeWhile_sublist g (l:=l.reverse)).length_le
  simpa using this
 generalize hA:(l.reverse.dropWhile g).reverse=A at h
 generalize hB:(l.reverse.takeWhile g).reverse=B at h
 have hl:(l.reverse.takeWhile g).length=B.length:=by rw [←hB];simp
 rw [hl]
 subst h
 simp
theorem lV (g:Nat→Bool) (l:List Nat):(rstripL g l).length≤l.length:=by
 unfold rstripL
 rw [wd]
 have:=(List.dropWhile_sublist g (l:=l.reverse)).length_le
 simpa using this
theorem qo (l t:List Nat):Txt.startswith (mk l) (mk t)=t.isPrefixOf l:=by
 unfold Txt.startswith
 rw [StrLaws.subAt_eq,iw]
 simp only [Str.len_mk,aS,decide_eq_true_eq,beq_iff_eq,dP,List.isPrefixOf_iff_prefix,List.prefix_iff_eq_take]
 constructor
 ·rintro⟨_,h⟩;exact h.symm
 ·intro h
  refine⟨?_,h.symm⟩
  have:=congrArg eE h
  rw [bC] at this
  omega
theorem vK (l t:List Nat):Txt.endswith (mk l) (mk t)=t.isSuffixOf l:=by
 unfold Txt.endswith
 rw [StrLaws.subAt_eq,iw]
 simp only [Str.len_mk,aS,decide_eq_true_eq,beq_iff_eq,ow,List.suffix_iff_eq_drop]
 constructor
 ·rintro⟨h1,h2⟩
  rw [bX (by simp;omega)] at h2
  exact h2.symm
 ·intro h
  have:=congrArg eE h
  rw [bU] at this
  refine⟨by omega,?_⟩
  rw [bX (by simp;omega)]
  exact h.symm
theorem tA (l:List Nat) (c i:Nat):StrLaws.At (mk l) (mk [c]) (mk l).length i↔l[i]?=some c:=by
 have:=StrLaws.subAt_one (mk l) c i
 rw [Str.toList_mk] at this
 exact this
theorem sw (c:Nat) (l:List Nat):Txt.rfind (mk l) (mk [c])=rfindL c l:=by
 unfold Txt.rfind rfindL
 rcases StrLaws.last_spec (mk l) (mk [c]) with ⟨h1,h2⟩ | ⟨i,h1,h2,h3⟩
 ·rw [h1]
  have hn:l.reverse.findIdx? (· == c)=none:=by
   rw [List.findIdx?_eq_none_iff]
   intro x hx
   obtain⟨j,hj⟩:=bJ (yY.mp hx)
   rw [beq_eq_false_iff_ne]
   rintro rfl
   exact h2 j ((tA l x j).mpr hj)
  rw [hn]
 ·rw [h1]
  have hi:=(tA l c i).mp h2
  obtain⟨hlt,he⟩:=ag.mp hi
  have hs:l.reverse.findIdx? (· == c)=some (l.length - 1 - i):=by
   rw [List.findIdx?_eq_some_iff_getElem]
   refine⟨by simp;omega,?_,?_⟩
   ·rw [uu]
    simp only [beq_iff_eq]
    rw [←he]
    congr 1
    omega
   ·intro j hj
    rw [uu]
    simp only [beq_iff_eq]
    intro hc
    refine h3 (l.length - 1 - j) (by omega) ((tA l c _).mpr ?_)
    rw [ak (by omega),hc]
  rw [hs]
  simp only
  omega
theorem ky (c:Nat):∀ (ps:List (List Nat)),ps≠[]→(∀ p∈ps,c∉p)→splitL c (joinL [c] ps)=ps
 | [],h,_=>absurd rfl h
 | [p],_,h=>by
  show splitL c p=[p]
  have hp:=h p (.head _)
  clear h
  rename_i hne
  clear hne
  induction p with
  | nil=>rfl
  | cons d r ih=>
   have h1:d≠c:=fun e=>hp (e ▸ .head _)
   have h2:c∉r:=fun e=>hp (.tail _ e)
   rw [splitL,if_neg h1,ih h2]
 | p::q::r,_,h=>by
  have ih:=ky c (q::r) (by simp) fun x hx=>h x (.tail _ hx)
  have hp:=h p (.head _)
  show splitL c (p++[c]++joinL [c] (q::r))=p::q::r
  generalize joinL [c] (q::r)=J at ih
  clear h
  rename_i hne
  clear hne
  induction p with
  | nil=>show splitL c (c::J)=_;rw [splitL,if_pos rfl,ih]
  | cons d p ihp=>
   have h1:d≠c:=fun e=>hp (e ▸ .head _)
   have h2:c∉p:=fun e=>hp (.tail _ e)
   show splitL c (d::(p++[c]++J))=_
   rw [splitL,if_neg h1,ihp h2]
theorem k8 (sep:Str):∀ ps:List Str,(Str.join sep ps).cps.toList=joinL sep.cps.toList (ps.map fun p=>p.cps.toList)
 | []=>rfl
 | [x]=>rfl
 | x::y::r=>by
  have ih:=k8 sep (y::r)
  show ((x++sep++Str.join sep (y::r)).cps).toList=_
  rw [Str.cps_append,Str.cps_append,jm,jm,ih]
  rfl
theorem xp (x y:Str):Txt.split x y≠[]:=by
 unfold Txt.split
 split
 ·simp
 ·split
  ·simp
  ·rw [StrLaws.partsBetween_eq]
   cases occurrences x y 0 x.length (x.length+1)<;>simp [StrLaws.partsFrom]
theorem lK (c:Nat) (l:List Nat):(Txt.split (mk l) (mk [c])).map (fun p=>p.cps.toList)=splitL c l:=by
 have hj:joinL [c] ((Txt.split (mk l) (mk [c])).map fun p=>p.cps.toList)=l:=by
  have:=congrArg (fun x:Str=>x.cps.toList) (StrLaws.join_split (mk l) (mk [c]))
  rw [k8] at this
  simpa using this
 conv=>rhs;rw [←hj]
 rw [ky]
 ·simpa using xp _ _
 ·intro p hp
  obtain⟨q,hq,rfl⟩:=bE.mp hp
  exact StrLaws.split_free (mk l) c q hq
theorem jI (t:List Nat) (c:Nat):∀ l:List Nat,joinL t (splitL c l)=l.flatMap fun y=>if y=c then t else [y]
 | []=>rfl
 | d::r=>by
  have ih:=jI t c r
  have hne:splitL c r≠[]:=by cases r with
   | nil=>simp [splitL]
   | cons a b=>rw [splitL];split<;>(try split)<;>simp
  rw [splitL]
  split
  ·rename_i h
   subst h
   rw [dN,if_pos rfl,←ih]
   cases hs:splitL d r with
   | nil=>exact absurd hs hne
   | cons x xs=>rfl
  ·rename_i h
   rw [dN,if_neg h,←ih]
   cases hs:splitL c r with
   | nil=>exact absurd hs hne
   | cons x xs=>
    show joinL t ((d::x)::xs)=d::joinL t (x::xs)
    cases xs<;>rfl
theorem oN (c:Nat) (l t:List Nat):Txt.replace (mk l) (mk [c]) (mk t)=mk (l.flatMap fun y=>if y=c then t else [y]):=by
 refine qI ?_
 have:=StrLaws.replace_one (mk l) (mk t) c
 rw [show mk [c]=⟨#[c]⟩ from rfl,this,k8,show (⟨#[c]⟩:Str)=mk [c] from rfl,lK,Str.toList_mk,jI]
theorem nY (sep:List Nat):∀ ps:List (List Nat),(joinL sep ps).length+sep.length≥(ps.map fun p=>p.length+sep.length).sum
 | []=>by simp [joinL]
 | [x]=>by simp [joinL]
 | x::y::r=>by
  have ih:=nY sep (y::r)
  show (x++sep++joinL sep (y::r)).length+_≥_
  rw [aa,aa,aZ,List.sum_cons]
  omega
end
section
open Builtin.Str
theorem yT:LIM=1000000:=rfl
theorem pf:sizeLine=16777216:=by rw [sizeLine_eq]
theorem qw:∀ c < 127,plainSign c=true→Unicode.isLineBreak c=(c == 10)∧(c == 13)=false:=by decide +kernel
section
variable {prog:Program} {w:World} {A:Around} {d:D} {ρ:List Addr} {cv:Option V} {s:Shared} {st:St}
theorem jd (l:List Nat) (hp:l.all plainSign=true):∀ (m cur:Nat) (lines:Array (Nat×Nat×Nat)) (start:Nat),cur+m=l.length→start≤cur →
  (StrLaws.lsEnd (mk l) (Id.run (forIn (m:=Id) (List.range' cur m) ((lines,start):StrLaws.LsSt) (StrLaws.lsBody (mk l))))).map (fun p=>(l.drop p.1).take (p.2.1 - p.1)) =
   lines.toList.map (fun p=>(l.drop p.1).take (p.2.1 - p.1))++linesGo ((l.drop start).take (cur - start)) (l.drop cur)
 | 0,cur,lines,start,hm,hs=>by
  simp only [List.range'_zero,List.forIn_nil]
  have e:l.drop cur=[]:=bA (by grind)
  rw [e]
  have e2:(l.drop start).take (cur - start)=l.drop start:=bX (by simp;grind)
  rw [e2]
  show (if start < (mk l).length then lines.push (start,(mk l).length,(mk l).length) else lines).toList.map _=_
  rw [Str.len_mk]
  unfold linesGo
  by_cases h:start < l.length
  ·rw [if_pos h]
   have:(l.drop start).isEmpty=false:=by
    rw [List.isEmpty_eq_false_iff]
    intro q
    rw [i3] at q
    grind
   rw [this]
   simp only [dc,bh,aZ,List.map_nil,be,if_false]
   rw [bX (by simp)]
  ·rw [if_neg h,bA (by grind)]
   simp
 | m+1,cur,lines,start,hm,hs=>by
  rw [List.range'_succ,dD]
  have hlt:cur < l.length:=by grind
  have hd:l.drop cur=l[cur]::l.drop (cur+1):=bz hlt
  have hc:plainSign l[cur]=true:=ax.mp hp _ (cy hlt)
  have hc127:l[cur] < 127:=by
   unfold plainSign at hc
   simp only [eK,aS,beq_iff_eq,decide_eq_true_eq] at hc
   grind
  obtain⟨b1,b2⟩:=qw _ hc127 hc
  have hg:(mk l).cps.getD cur 0=l[cur]:=by
   show (l.toArray).getD cur 0=_
   simp [wh,hlt]
  have hn:StrLaws.lsNext (mk l) cur=cur+1:=by
   unfold StrLaws.lsNext
   rw [hg,b2,Bool.false_and,if_neg aA]
  unfold StrLaws.lsBody
  have hsd:decide (start≤cur)=true:=decide_eq_true hs
  simp only [hg,b1,hn,hsd,Bool.true_and]
  rw [hd,linesGo]
  by_cases h10:l[cur]=10
  ·have:(l[cur] == 10)=true:=beq_iff_eq.mpr h10
   simp only [this,if_true,h10]
   have ih:=jd l hp m (cur+1) (lines.push (start,cur,cur+1)) (cur+1) (by grind) (am _)
   rw [fA,List.take_zero] at ih
   refine ih.trans ?_
   simp
  ·have:(l[cur] == 10)=false:=beq_eq_false_iff_ne.mpr h10
   simp only [this,be,if_false,h10]
   have ih:=jd l hp m (cur+1) lines start (by grind) (by grind)
   refine ih.trans ?_
   congr 2
   rw [show cur+1 - start=(cur - start)+1 by grind,List.take_add_one,wj]
   rw [show start+(cur - start)=cur by grind,ak hlt]
   rfl
theorem mm (l:List Nat) (hp:l.all plainSign=true):(linesOf (mk l)).map (fun p=>p.cps.toList)=linesL l:=by
 have h:=jd l hp l.length 0 #[] 0 (by grind) (am _)
 unfold linesOf lineCuts
 rw [c6,c6,StrLaws.ls_eq,Str.len_mk]
 simp only [Array.toList_empty,List.map_nil,List.nil_append,fA,List.take_zero,dP] at h
 refine Eq.trans ?_ h
 refine cO fun p _=>?_
 show (strSub (mk l) p.1 (if false=true then p.2.2 else p.2.1)).cps.toList=_
 rw [StrLaws.strSub_toList]
 simp
theorem VRs.strs {B h:Heap} {ps:List (List Nat)}:∀ {l:List (Str×Tok)},l.map (fun p=>p.1.cps.toList)=ps→(∀ p∈ps,p.length≤LIM)→VRs B ρ h (ps.map .str) (strValues l):=by
 induction ps with
 | nil=>intro l h _;cases l with
  | nil=>exact .nil
  | cons a b=>cases h
 | cons p ps ih=>
  intro l h hz
  cases l with
  | nil=>cases h
  | cons a b=>
   obtain⟨x,t⟩:=a
   simp only [aZ,List.cons.injEq] at h
   exact .cons (VR.str' (qI h.1) (hz _ (.head _))) (ih h.2 fun q hq=>hz q (.tail _ hq))
theorem oJ {c:Nat} {l:List Nat} {n:Nat} (h:l.length≤n):∀ p∈splitL c l,p.length≤n:=by
 have key:∀ l:List Nat,∀ p∈splitL c l,p.length≤l.length:=by
  intro l
  induction l with
  | nil=>intro p hp;simp [splitL] at hp;simp [hp]
  | cons d r ih=>
   intro p hp
   rw [splitL] at hp
   split at hp
   ·rcases az.mp hp with rfl | hp
    ·simp
    ·have:=ih p hp;simp;grind
   ·split at hp
    ·rename_i x xs e
     rcases az.mp hp with rfl | hp
     ·have:=ih x (by rw [e];exact .head _);simp;grind
     ·have:=ih p (by rw [e];exact .tail _ hp);simp;grind
    ·simp at hp;subst hp;simp
 exact fun p hp=>aj (key l p hp) h
theorem jG (k:Nat) (xs:List Str):(numbered k xs).map (fun p=>p.1.cps.toList)=xs.map fun p=>p.cps.toList:=by
 have:=congrArg (List.map fun p:Str=>p.cps.toList) (numbered_texts k xs)
 rw [c6] at this
 exact this
theorem kt {P:PT Value} {ps:List (List Nat)} (I:Inv d ρ cv s st) (hz:∀ p∈ps,p.length≤LIM)
  (h:ps.length≤LIM→∀ (Q:Value→Shared→Prop) E,(∀ l t,l.map (fun p:Str×Tok=>p.1.cps.toList)=ps→Q (.ref s.heap.objs.size) { s with heap:=s.heap.push (lobj (strValues l).toArray 0),toks:=t })→P Q E s) :
  TriP d ρ cv s (RVal d) P (alloc (ps.map .str) st):=
 jB fun hl Q E hq=>h (by simpa using hl) Q E fun l t e=>hq _ _ _ (VR.new I.h.len) (Post.push I (by simpa using VRs.strs e hz) (by simpa using hl))
theorem tm {c:Nat} {x:List Nat} {t u:Tok} (I:Inv d ρ cv s st) (hx:x.length≤LIM) :
  TriP d ρ cv s (RVal d) (wpAny (model prog w) A (call (.builtin "str.split") [.str (mk x) t,.str (mk [c]) u])) (alloc ((splitL c x).map .str) st):=by
 refine kt I (oJ hx) fun hl Q E hq=>?_
 have hxl:(mk x).length≤sizeLine:=by rw [Str.len_mk];exact aj hx bT
 have hp:=lK c x
 have hy:((mk [c]).length == 0)=false:=rfl
 cases h1:(decide ((mk x).length < (mk [c]).length)||decide (strKind (mk x) < strKind (mk [c])))
 ·cases hf:(occurrences (mk x) (mk [c]) 0 (mk x).length ((mk x).length+1)).isEmpty
  ·have hs:Txt.split (mk x) (mk [c])=partsBetween (mk x) (occurrences (mk x) (mk [c]) 0 (mk x).length ((mk x).length+1)) (mk [c]).length:=by
    unfold Txt.split;rw [h1,hf];simp
   rw [hs] at hp
   refine call_meets F.slot_str_split (typeIs_str _ _ _) F.entry_str_split (F.args_str_split_2 _ _) (meets_str_split_sep (mk x) (mk [c]) t u h1 hy hf hxl (by
    rw [←ae (f:=fun p:Str=>p.cps.toList),hp];exact aj hl bT)) ?_
   show wants Q E _ { s with toks:=_,heap:=s.heap.push { cls:=.type "list",data:=.seq (strsFrom s.toks (partsBetween (mk x) (occurrences (mk x) (mk [c]) 0 (mk x).length ((mk x).length+1)) (mk [c]).length)).toArray } }
   rw [strsFrom_eq]
   refine hq (numbered s.toks _) _ ?_
   rw [←hp];exact jG _ _
  ·have hs:Txt.split (mk x) (mk [c])=[mk x]:=by unfold Txt.split;rw [h1,hf];simp
   rw [hs] at hp
   exact call_meets F.slot_str_split (typeIs_str _ _ _) F.entry_str_split (F.args_str_split_2 _ _) (meets_str_split_not_found (mk x) (mk [c]) t u h1 hy hf) (hq [(mk x,t)] s.toks hp)
 ·have hs:Txt.split (mk x) (mk [c])=[mk x]:=by unfold Txt.split;rw [h1];simp
  rw [hs] at hp
  exact call_meets F.slot_str_split (typeIs_str _ _ _) F.entry_str_split (F.args_str_split_2 _ _) (meets_str_split_cannot_occur (mk x) (mk [c]) t u h1) (hq [(mk x,t)] s.toks hp)
theorem pe {l:List Nat} (hl:l.length≤LIM) (hp:l.all plainSign=true):∀ p∈linesL l,p.length≤LIM:=by
 intro p hp'
 rw [←mm l hp] at hp'
 obtain⟨q,hq,rfl⟩:=bE.mp hp'
 unfold linesOf at hq
 obtain⟨r,_,rfl⟩:=bE.mp hq
 have:=strSub_length_le (mk l) r.1 r.2
 rw [Str.len_mk] at this
 exact aj this hl
theorem to {x:List Nat} {t:Tok} (I:Inv d ρ cv s st) (hx:x.length≤LIM) (hpl:x.all plainSign=true) :
  TriP d ρ cv s (RVal d) (wpAny (model prog w) A (call (.builtin "str.splitlines") [.str (mk x) t])) (alloc ((linesL x).map .str) st):=by
 refine kt I (pe hx hpl) fun hl Q E hq=>?_
 have hxl:(mk x).length≤sizeLine:=by rw [Str.len_mk];exact aj hx bT
 have hp:=mm x hpl
 have hcl:(lineCuts (mk x)).length=(linesL x).length:=by rw [←hp];unfold linesOf;simp
 refine call_meets F.slot_str_splitlines (typeIs_str _ _ _) F.entry_str_splitlines (F.args_str_splitlines_1 _) (meets_str_splitlines (mk x) t hxl (by rw [hcl];exact aj hl bT)) ?_
 show if (lineCuts (mk x) == [(0,(mk x).length)])=true then _ else _
 split
 ·rename_i hc
  have hc:=beq_iff_eq.mp hc
  have hs:linesOf (mk x)=[mk x]:=by unfold linesOf;rw [hc];simp [StrLaws.sub_whole]
  rw [hs] at hp
  exact hq [(mk x,t)] s.toks hp
 ·show wants Q E _ { s with toks:=s.toks+_,heap:=s.heap.push { cls:=.type "list",data:=.seq (strsFrom s.toks (linesOf (mk x))).toArray } }
  rw [strsFrom_eq]
  refine hq (numbered s.toks _) _ ?_
  rw [←hp];exact jG _ _
end
end
section
open Builtin.Str
section
variable {prog:Program} {w:World} {A:Around} {E:Value→Shared→Prop} {s:Shared}
theorem ia {tb:Addr} {items:Array Value} {c:Nat} {x:Str} {t:Tok} {Q:Mapped→Shared→Prop} (hl:s.heap.IsList tb items) (hz:items.size≤LIM) (hx:items[c]?=some (.str x t))
  (h:∀ k,Q (.text x) { s with toks:=k }):wpAny (model prog w) A (tableLookup (.ref tb) c) Q E s:=by
 unfold tableLookup
 refine wpAny_bind (wpAny_attempt (wpAny_bind (wpAny_mkInt ?_)))
 refine iV (j:=c) hl hz (.front (bg c) rfl (fB.mp hx).1) hx ?_
 show wpAny _ _ ((notAStandIn (.str x t) >>= fun _=>pure none) >>= _) _ _ _
 refine wpAny_bind (wpAny_bind (wpAny_pure (wpAny_pure ?_)))
 exact wpAny_bind (wpAny_pure (wpAny_pure (h _)))
def TabAt (items:Array Value) (tab:List V):Prop:=∀ (c:Nat) (l:List Nat),tab[c]?=some (.str l)→∃ t,items[c]?=some (.str (mk l) t)
inductive TrI (tab:List V) (out:List Nat) (s₀:Shared) (rest:List Nat) (b:List Str×Nat×Bool×List (Nat×Option Nat)×Bool) (s':Shared):Prop
 | it (k:Nat) (e:s'={ s₀ with toks:=k }) (ad:b.2.2.2.2=false) (hk:∀ c a,b.2.2.2.1.lookup c=some a→∃ d,a=some d∧tab[c]?=some (.str [d])) (r:List Nat) (h1:transL tab rest=some r)
  (h2:(b.1.reverse.map fun p=>p.cps.toList).flatten++r=out) (h3:b.2.1=(b.1.reverse.map fun p=>p.cps.toList).flatten.length)
theorem qd {tab:List V} {c:Nat} {l rest r:List Nat} (h:transL tab (c::rest)=some r) (hc:tab[c]?=some (.str l)):∃ r',transL tab rest=some r'∧l++r'=r:=by
 rw [transL,hc] at h
 cases hr:transL tab rest with
 | none=>rw [hr] at h;cases h
 | some r'=>rw [hr] at h;exact⟨r',rfl,Option.some.inj h⟩
theorem TrI.push {tab:List V} {out:List Nat} {s₀ s':Shared} {c:Nat} {l rest:List Nat} {pieces:List Str} {tot tot':Nat} {fast fast':Bool} {known known':List (Nat×Option Nat)}
  (h:TrI tab out s₀ (c::rest) (pieces,tot,fast,known,false) s') (hc:tab[c]?=some (.str l)) (k:Nat) (ht:tot'=tot+l.length)
  (hk:∀ c a,known'.lookup c=some a→∃ d,a=some d∧tab[c]?=some (.str [d])):TrI tab out s₀ rest (mk l::pieces,tot',fast',known',false) { s' with toks:=k }:=by
 obtain⟨k0,rfl,_,_,r,h1,h2,h3⟩:=h
 obtain⟨r',hr,rfl⟩:=qd h1 hc
 have e:((mk l::pieces).reverse.map fun p=>p.cps.toList).flatten=(pieces.reverse.map fun p=>p.cps.toList).flatten++l:=by
  rw [kE,bh,List.flatten_append];simp
 exact⟨k,rfl,rfl,hk,r',hr,by rw [e,aw];exact h2,by rw [e,aa,ht];exact congrArg (·+_) h3⟩
theorem TrI.short {tab:List V} {out:List Nat} {s₀ s':Shared} {rest:List Nat} {pieces:List Str} {tot:Nat} {fast ad:Bool} {known:List (Nat×Option Nat)} (h:TrI tab out s₀ rest (pieces,tot,fast,known,ad) s') (hout:out.length≤LIM):tooLong tot=false:=by
 obtain⟨k0,rfl,_,_,r,h1,h2,h3⟩:=h
 have:tot≤out.length:=by rw [show tot=_ from h3,←h2,aa];exact aX _ _
 exact decide_eq_false (bf.mpr (aj (aj this hout) bT))
theorem qO {tab:List V} {known:List (Nat×Option Nat)} {c d:Nat} (hc:tab[c]?=some (.str [d])) (hk:∀ c a,known.lookup c=some a→∃ d,a=some d∧tab[c]?=some (.str [d])) :
  ∀ c' a,((c,some d)::known).lookup c'=some a→∃ d,a=some d∧tab[c']?=some (.str [d]):=fun c' a ha=>by
 rw [gR] at ha
 split at ha
 ·rename_i he
  rw [eq_of_beq he]
  cases ha
  exact⟨d,rfl,hc⟩
 ·exact hk c' a ha
theorem qc {tab:List V} {c:Nat} {rest out:List Nat} (h:transL tab (c::rest)=some out):∃ l,tab[c]?=some (.str l):=by
 rw [transL] at h
 split at h
 ·rename_i e1 e2;exact⟨_,e1⟩
 ·cases h
theorem jK:∀ (ps:List Str) (acc:Array Nat),(ps.foldl (fun acc p=>acc++p.cps) acc).toList=acc.toList++(ps.map fun p=>p.cps.toList).flatten
 | [],acc=>by simp
 | p::ps,acc=>by rw [mK,jK ps];simp
theorem oH {x:List Nat} {t:Tok} {tb:Addr} {items:Array Value} {tab:List V} {out:List Nat} {Q:Fin→Shared→Prop} (hl:s.heap.IsList tb items) (hz:items.size≤LIM) (ht:TabAt items tab)
  (ho:transL tab x=some out) (hout:out.length≤LIM) (hq:∀ t' k,Q (.done (.ret (.str (mk out) t'))) { s with toks:=k }) :
  wpAny (model prog w) A (Builtin.«str.translate» ⟨[.str (mk x) t,.ref tb],[]⟩) Q E s:=by
 unfold Builtin.«str.translate»
 show wpAny _ _ (if ((mk x).length == 0)=true then _ else _) _ _ _
 split
 ·rename_i h0
  obtain rfl:x=[]:=aG (by rw [←Str.len_mk x];exact eq_of_beq h0)
  cases ho
  exact wpAny_bind (wpAny_rule (wpAny_bind (wpAny_pure (wpAny_pure (hq t s.toks)))))
 ·refine wpAny_bind (wpAny_mono (wpAny_forIn_array' _ (TrI tab out s) (TrI tab out s []) ?turn (fun _ _ h=>h) _ _ ?init) ?fin fun _ _ e=>e)
  case turn=>
   intro c rest b s' h
   obtain⟨pieces,tot,fast,known,ad⟩:=b
   obtain⟨k0,rfl,had,hk,r,h1,h2,h3⟩:=id h
   obtain rfl:ad=false:=had
   obtain⟨l,hc⟩:=qc h1
   obtain⟨t',hi⟩:=ht c l hc
   have slow:∀ (fast:Bool) (kk:Nat),TrI tab out s (c::rest) (pieces,tot,fast,known,false) { s with toks:=kk }→∀ k,TrI tab out s rest (mk l::pieces,tot+(mk l).length,false,known,false) { s with toks:=k }:=fun fast kk h k=>h.push hc k (by rw [Str.len_mk]) hk
   simp only [h.short hout,be,if_false]
   cases fast with
   | true=>
    simp only [if_true]
    cases hkc:known.lookup c with
    | some a=>
     obtain⟨d,rfl,hd⟩:=hk c a hkc
     exact wpAny_bind (wpAny_pure (wpAny_pure (h.push hd k0 rfl hk)))
    | none=>
     refine wpAny_bind (ia hl hz hi fun k=>?_)
     simp only
     by_cases hf:((mk l).length == 1&&(mk l).cps.all fun x=>decide (x < 128))=true
     ·simp only [hf,if_true]
      obtain⟨d,rfl⟩:∃ d,l=[d]:=List.length_eq_one_iff.mp (by rw [←Str.len_mk l];exact eq_of_beq (cI.mp hf).1)
      exact wpAny_bind (wpAny_pure (wpAny_pure (h.push hc k rfl (qO hc hk))))
     ·simp only [hf,be,if_false]
      exact wpAny_bind (wpAny_pure (wpAny_bind (wpAny_rule (wpAny_bind (ia hl hz hi fun k'=>wpAny_pure (slow _ _ h k'))))))
   | false=>
    simp only [be,if_false]
    exact wpAny_bind (ia hl hz hi fun k'=>wpAny_pure (slow _ _ h k'))
  case init=>exact⟨s.toks,rfl,rfl,(fun c a e=>nomatch e),out,ho,rfl,rfl⟩
  case fin=>
   intro b s' h
   obtain⟨pieces,tot,fast,known,ad⟩:=b
   have htl:=h.short hout
   obtain⟨k0,rfl,had,hk,r,h1,h2,h3⟩:=h
   obtain rfl:r=[]:=(Option.some.inj h1).symm
   rw [al] at h2
   simp only [htl,be,if_false]
   have e:(⟨pieces.reverse.foldl (fun acc p=>acc++p.cps) #[]⟩:Str)=mk out:=qI (by rw [←h2];exact jK _ _)
   show wpAny _ _ (retStr (⟨pieces.reverse.foldl (fun acc p=>acc++p.cps) #[]⟩:Str)) _ _ _
   rw [e]
   exact wpAny_bind (wpAny_mkStr (wpAny_pure (hq _ _)) (by rw [Str.len_mk];exact aj hout bT))
theorem mB {x:List Nat} {t:Tok} {tb:Addr} {items:Array Value} {tab:List V} {out:List Nat} {Q:Value→Shared→Prop} (hl:s.heap.IsList tb items) (hz:items.size≤LIM) (ht:TabAt items tab)
  (ho:transL tab x=some out) (hout:out.length≤LIM) (hq:∀ t' k,Q (.str (mk out) t') { s with toks:=k }) :
  wpAny (model prog w) A (call (.builtin "str.translate") [.str (mk x) t,.ref tb]) Q E s:=
 wpAny_call_entry F.slot_str_translate (typeIs_str _ _ _) F.entry_str_translate (oH hl hz ht ho hout fun t' k=>⟨_,rfl,hq t' k⟩) (F.args_str_translate_2 _ _)
end
end
section
open Builtin.Str
section
variable {prog:Program} {w:World} {A:Around} {d:D} {ρ:List Addr} {cv:Option V} {s:Shared} {st:St}
noncomputable def m0Id:M0→String
 | .splitlines=>"str.splitlines" | .rstrip=>"str.rstrip"
noncomputable def m0Nm:M0→Str
 | .splitlines=>"splitlines" | .rstrip=>"rstrip"
noncomputable def m1Id:M1→String
 | .join=>"str.join" | .translate=>"str.translate" | .rstrip=>"str.rstrip" | .endswith=>"str.endswith" | .startswith=>"str.startswith" | .rfind=>"str.rfind" | .split=>"str.split"
noncomputable def m1Nm:M1→Str
 | .join=>"join" | .translate=>"translate" | .rstrip=>"rstrip" | .endswith=>"endswith" | .startswith=>"startswith" | .rfind=>"rfind" | .split=>"split"
theorem uf {l:List Nat} (h:l.length≤LIM):(mk l).length≤sizeLine:=by rw [Str.len_mk];exact aj h bT
theorem w4 (f:M0) {x:V} {a:Value} (I:Inv d ρ cv s st) (hx:VR d.B.heap ρ s.heap x a) :
  TriP d ρ cv s (RVal d) (wpAny (model prog w) A (call (.builtin (m0Id f)) [a])) (m0V f x st):=by
 refine .onStr hx fun l t e hl=>?_
 subst e
 cases f with
 | splitlines=>exact .guard fun h=>to I hl (cI.mp h).2
 | rstrip=>
  refine .ok fun Q E hq=>SC.rstrip (fun t' k=>?_) (uf hl)
  rw [show Txt.rstrip (⟨l.toArray⟩:Str)=_ from kz _ l]
  exact hq _ _ ρ (.str _ t' (aj (lV _ _) hl)) (.toks I k)
theorem ku {v:V} {l:List V} {ts:List (List Nat)} (h:strsOf (v::l)=some ts):∃ x ts',v = .str x∧strsOf l=some ts'∧ts=x::ts':=by
 refine opq fun G kk=>?_
 cases v with
 | str x=>
  obtain⟨ts',e',e⟩:=aF.mp h
  exact kk ⟨x,ts',rfl,e',e.symm⟩
 | _=>exact cT h
theorem sk {B h:Heap} (l:List V):∀ {ts:List (List Nat)} {xs:List Value},strsOf l=some ts→VRs B ρ h l xs→∃ l':List (Str×Tok),xs=strValues l'∧l'.map (·.1)=ts.map mk:=by
 induction l with
 | nil=>intro ts xs e r;cases e;obtain rfl:=r;exact⟨[],rfl,rfl⟩
 | cons v l ih=>
  intro ts xs e r
  obtain⟨x,ts',rfl,e',rfl⟩:=ku e
  obtain⟨_,_,⟨_,t,rfl⟩,r,rfl⟩:=r
  obtain⟨l',rfl,h2⟩:=ih e' r
  exact⟨(mk x,t)::l',rfl,congrArg (mk x::·) h2⟩
theorem vx (sep:List Nat) (ts:List (List Nat)):Txt.join (mk sep) (ts.map mk)=mk (joinL sep ts):=by
 refine qI ?_
 rw [show Txt.join (mk sep) (ts.map mk)=Str.join (mk sep) (ts.map mk) from StrLaws.glued_eq_join _ _,k8,c6]
 congr 1
 conv=>rhs;rw [←ut ts]
 exact cO fun _ _=>by simp
theorem qS {sep:List Nat} {ts:List (List Nat)} (h:(joinL sep ts).length+sep.length≤sizeLine):JoinOk (mk sep) (ts.map mk)=true:=by
 have key:∀ (ts:List (List Nat)) (n:Nat),(ts.map mk).foldl (fun acc p=>acc+p.length+(mk sep).length) n=n+(ts.map fun p=>p.length+sep.length).sum:=by
  intro ts
  induction ts with
  | nil=>intro n;rfl
  | cons p ts ih=>intro n;rw [aZ,mK,ih,aZ,List.sum_cons,Str.len_mk,Str.len_mk,gO,gO,gO]
 unfold JoinOk
 rw [←Array.foldl_toList]
 rw [show (ts.map mk).toArray.toList=ts.map mk from rfl,key,cJ]
 exact (dQ _).mpr (decide_eq_false (bf.mpr (aj (nY sep ts) h)))
theorem Bz {tab:List V} {items:Array Value} {B h:Heap} (r:VRs B ρ h tab items.toList):TabAt items tab:=fun c l e=>by
 obtain⟨x,h1,_,t,rfl⟩:=r.get e
 exact⟨t,by rw [←ba];exact h1⟩
theorem ug {n m:Nat} (h:n≤LIM) (z:m≤LIM):n+m≤sizeLine:=by rw [pf];rw [yT] at h z;grind
theorem Bk (f:M1) {l:List Nat} {t:Tok} {y:V} {b:Value} (I:Inv d ρ cv s st) (hl:l.length≤LIM) (hy:VR d.B.heap ρ s.heap y b) :
  TriP d ρ cv s (RVal d) (wpAny (model prog w) A (call (.builtin (m1Id f)) [.str (mk l) t,b])) (m1V f l y st):=by
 cases f with
 | join=>
  refine TriP.onList I hy fun n vs c xs q e L=>.onSome fun ts e2=>?_
  subst e
  obtain⟨l',g1,g2⟩:=sk vs e2 L.r
  exact jA I fun hz Q E hq=>SC.join (l:=l') (texts:=ts.map mk) (by rw [←g1];exact L.is) g2 (qS (ug hz hl)) fun t' k=>hq _ t' k (vx _ _)
 | translate=>
  refine .onFl hy fun tab r=>.onSome fun out e=>?_
  obtain⟨a1,o1,xs,n1,rfl,e1,c1,d1,z1,r1⟩:=r
  exact jA I fun hz Q E hq=>mB ⟨o1,I.h.base _ _ e1,c1,n1,d1⟩ (by rw [lens r1];exact z1) (Bz r1) e hz fun t' k=>hq _ t' k rfl
 | rstrip=>
  refine .onStr hy fun l' t' e _=>?_
  subst e
  refine .ok fun Q E hq=>SC.rstripChars (fun t' k=>?_) (uf hl)
  rw [show Txt.rstripChars (⟨l.toArray⟩:Str) ⟨l'.toArray⟩=_ from kz _ l,show ((⟨l'.toArray⟩:Str).cps.contains)=l'.contains from funext fun c=>List.contains_toArray]
  exact hq _ _ ρ (.str _ t' (aj (lV _ _) hl)) (.toks I k)
 | endswith=>
  refine .onStr hy fun l' t' e _=>?_
  subst e
  exact .ok fun Q E hq=>SC.endswith (by rw [vK];exact hq _ _ ρ (.bool _) (.refl I))
 | startswith=>
  refine .onStr hy fun l' t' e _=>?_
  subst e
  exact .ok fun Q E hq=>SC.startswith (by rw [qo];exact hq _ _ ρ (.bool _) (.refl I))
 | rfind=>
  refine .onStr hy fun l' t' e _=>.some1 fun c e1=>?_
  subst e e1
  exact .ok fun Q E hq=>SC.rfind (by rw [sw];exact hq _ _ ρ (.int _ _) (.toks I _))
 | split=>
  refine .onStr hy fun l' t' e _=>.some1 fun c e1=>.guard fun _=>?_
  subst e e1
  exact tm I hl
theorem w3 {x:V} {a:Value} {c:Nat} {l:List Nat} {u v:Tok} (I:Inv d ρ cv s st) (hx:VR d.B.heap ρ s.heap x a) (hu:u≠0) (hv:v≠0) (huv:u≠v) :
  TriP d ρ cv s (RVal d) (wpAny (model prog w) A (call (.builtin "str.replace") [a,.str (mk [c]) u,.str (mk l) v])) (replV x c l st):=by
 refine .onStr hx fun y t e hl=>.guard fun h3=>?_
 subst e
 have h3:=of_decide_eq_true h3
 refine jA I fun hz Q E hq=>SC.replace hu hv huv ?_ ?_ fun t' k=>hq _ t' k (oN _ _ _)
 ·refine beq_eq_false_iff_ne.mpr fun e=>?_
  have:=congrArg Str.length e
  rw [Str.len_mk,Str.len_mk,h3] at this
  exact absurd this (by simp)
 ·rw [Str.len_mk,Str.len_mk,h3];rw [yT] at hl;grind
theorem kR {P:PT Value} {n:Nat} {a:Addr} {f:List V→List V} (I:Inv d ρ cv s st) (ha:ρ[n]?=some a)
  (h:∀ (l:List V) (xs:Array Value) (k:Nat),ListIs d ρ s st n l a xs k→(f l).length≤LIM→∀ (Q:Value→Shared→Prop) E,(∀ (g:Array Value→Array Value),VRs d.B.heap ρ s.heap (f l) (g xs).toList→Q .none { s with heap:=s.heap.update a (aR g),toks:=s.toks })→P Q E s) :
  TriP d ρ cv s (RVal d) P (setList n f st):=
 TriP.lst I fun l c xs q L=>.ifb fun hz=>by
  cases ha.symm.trans L.i
  exact .ok fun Q E hq=>h l xs q L hz Q E fun g r=>hq _ _ ρ .none (Post.upd I L.i (Heap.SameBut.update ..) (IsL.update L.g g) r hz)
theorem sa {n:Nat} {a:Addr} {y:V} {b:Value} (I:Inv d ρ cv s st) (ha:ρ[n]?=some a) (hy:VR d.B.heap ρ s.heap y b) :
  TriP d ρ cv s (RVal d) (wpAny (model prog w) A (call (.builtin "list.append") [.ref a,b])) (setList n (·++[y]) st):=by
 refine kR I ha fun l xs k L hz Q E hq=>?_
 refine call_meets slot_list_append ⟨_,L.g,rfl⟩ entry_list_append (args_list_append _ _) (list_append a xs k b L.line) ⟨L.g,hq (·.push b) ?_⟩
 rw [dc]
 exact (VRs.cons hy .nil).append L.r
theorem r7 {n:Nat} {a:Addr} {y:V} {b:Value} {u:Tok} (I:Inv d ρ cv s st) (ha:ρ[n]?=some a) (hy:VR d.B.heap ρ s.heap y b) :
  TriP d ρ cv s (RVal d) (wpAny (model prog w) A (call (.builtin "list.insert") [.ref a,.int 0 u,b])) (setList n (y::·) st):=by
 refine kR I ha fun l xs k L hz Q E hq=>?_
 refine call_meets F.slot_list_insert ⟨_,L.g,rfl⟩ F.entry_list_insert (F.args_list_insert_3 _ _ _) (AutoSeq1.list_insert_list_int_val_1 a xs k 0 u b (by decide) L.line) ⟨L.g,hq _ ?_⟩
 have e1:(if (0:Int) < 0 then ((0:Int)+(xs.size:Int)).toNat else min (0:Int).toNat xs.size)=0:=Nat.zero_min xs.size
 show VRs d.B.heap ρ s.heap (y::l) ((xs.extract 0 (if (0:Int) < 0 then ((0:Int)+(xs.size:Int)).toNat else min (0:Int).toNat xs.size)).push b++xs.extract (if (0:Int) < 0 then ((0:Int)+(xs.size:Int)).toNat else min (0:Int).toNat xs.size)).toList
 rw [e1]
 have:((xs.extract 0 0).push b++xs.extract 0).toList=b::xs.toList:=by simp
 rw [this]
 exact .cons hy L.r
theorem r8 {n m:Nat} {a b:Addr} {l':List V} {ys:Array Value} {k':Nat} (I:Inv d ρ cv s st) (ha:ρ[n]?=some a) (L':ListIs d ρ s st m l' b ys k') :
  TriP d ρ cv s (RVal d) (wpAny (model prog w) A (call (.builtin "list.extend") [.ref a,.ref b])) (setList n (·++l') st):=by
 refine kR I ha fun l xs k L hz Q E hq=>?_
 have h2:xs.size+ys.size≤sizeLine:=by rw [L.len,L'.len];exact ug L.z L'.z
 refine call_meets F.slot_list_extend ⟨_,L.g,rfl⟩ F.entry_list_extend (F.args_list_extend_2 _ _) (AutoSeq1.list_extend_list_list_0 a xs k b ys k' (extend_door (by grind)) (by grind) (by grind)) ⟨L.g,L'.g,hq _ ?_⟩
 rw [jm]
 exact L'.r.append L.r
end
end
section
open Builtin.Str
noncomputable def numOpt (n:int_private% "Numeral"):Option Int:=(int_private% "Numeral.casesOn") (motive:=fun _=>Option Int) n none (fun _=>none) none (fun i=>some i)
theorem qC {n:int_private% "Numeral"} {i:Int} (h:numOpt n=some i):n=(int_private% "Numeral.value") i:=by
 cases n<;>cases h
 rfl
noncomputable def hexL:List Nat:=[48,49,50,51,52,53,54,55,56,57,65,66,67,68,69,70,97,98,99,100,101,102]
theorem lb {c v:Nat} (h:hexVal c=some v):c∈hexL:=by
 unfold hexVal at h
 have:c < 103:=by
  split at h
  ·grind
  ·split at h
   ·grind
   ·split at h
    ·grind
    ·cases h
 have key:∀ c < 103,(hexVal c).isSome=true→c∈hexL:=by decide +kernel
 exact key c this (by unfold hexVal;rw [h];rfl)
theorem xZ:∀ a∈hexL,∀ b∈hexL,numOpt ((int_private% "readNumeral") 0 16 [a,b])=(hexVal a).bind (fun x=>(hexVal b).map fun y=>((16 * x+y:Nat):Int)):=by decide +kernel
theorem iC:∀ a∈hexL,((a != 0)=true∧a < 128):=by decide +kernel
theorem lH (a b:Value):checkTypeCall "int" ⟨[a,b],[]⟩=pure ():=by kernel_rfl
theorem mR (a b:Value):checkBuiltinCall "int.__new__" ⟨[.type "int",a,b],[]⟩=pure ():=by kernel_rfl
section
variable {M:Model} {prog:Program} {w:World} {A:Around} {E:Value→Shared→Prop} {s:Shared}
theorem AM {Q:Value→Shared→Prop} {v:Value} {a b:Nat} {n:Int} (ha:a∈hexL) (hb:b∈hexL) (hr:(int_private% "readNumeral") 0 16 [a,b]=(int_private% "Numeral.value") n)
  (h:Q (.int n s.toks) { s with toks:=s.toks+1 }):wpAny M A ((int_private% "intFromText") v [a,b] 16) Q E s:=by
 have e:[a,b].takeWhile (· != 0)=[a,b]:=by
  rw [wb,(iC a ha).1,if_pos rfl,wb,(iC b hb).1,if_pos rfl,List.takeWhile_nil]
 obtain⟨hp,g,d,tk,os⟩:=s
 have hs:([a,b].takeWhile (· != 0)).length≤640:=by rw [e];simp
 have hq:(([a,b].takeWhile (· != 0)).length == [a,b].length)=true:=by rw [e];simp
 have hr':(int_private% "readNumeral") 0 16 ([a,b].takeWhile (· != 0))=(int_private% "Numeral.value") n:=by rw [e];exact hr
 repeat (any_goals (first
  | assumption
  | (with_reducible refine wpAny_ite_true (decide_eq_true hs) ?_)
  | (with_reducible refine wpAny_ite_true (decide_eq_true hq) ?_)
  | wp_step))
 all_goals (try rw [hr'])
 all_goals (try dsimp only)
 repeat (any_goals (first
  | assumption
  | (with_reducible refine wpAny_ite_true (decide_eq_true hs) ?_)
  | (with_reducible refine wpAny_ite_true (decide_eq_true hq) ?_)
  | wp_step))
theorem vD {u v:Tok} {a b:Nat} {n:Int} (ha:a∈hexL) (hb:b∈hexL) (hr:(int_private% "readNumeral") 0 16 [a,b]=(int_private% "Numeral.value") n) :
  Gives (Builtin.«int.__new__» ⟨[.type "int",.str (mk [a,b]) u,.int 16 v],[]⟩) (.int n):=
 .of_wp fun M A E s Q h=>by
  obtain⟨hp,g,d,tk,os⟩:=s
  have f1:=F.conv_sub_int
  have f2:=F.madeHere_int
  have hasc:(mk [a,b]).cps.all (fun x=>decide (x < 128))=true:=by
   have h1:=(iC a ha).2
   have h2:=(iC b hb).2
   simp [h1,h2]
  have hl:(mk [a,b]).cps.toList=[a,b]:=by simp
  repeat (any_goals (first
   | assumption
   | ((with_reducible show wpAny _ _ ((int_private% "intFromText") _ _ _) _ _ _);simp only [hasc,if_true,hl];refine AM ha hb hr ?_)
   | wp_step))
  all_goals first | exact⟨_,rfl,h⟩ | skip
theorem yD {u v:Tok} {a b:Nat} {n:Int} {Q:Value→Shared→Prop} (ha:a∈hexL) (hb:b∈hexL) (hr:(int_private% "readNumeral") 0 16 [a,b]=(int_private% "Numeral.value") n)
  (h:Q (.int n s.toks) { s with toks:=s.toks+1 }):wpAny (model prog w) A (call (.type "int") [.str (mk [a,b]) u,.int 16 v]) Q E s:=
 callType_new F.called_int F.newNe_int (lH _ _) (mR _ _) (fun obj=>by unfold argsOk;kernel_rfl) F.entry_int_new (vD ha hb hr).meets (show (Made.int n).post _ s from ⟨rfl,h⟩)
end
end
theorem hH:Slot "method_descriptor" "__get__" "method_descriptor.__get__":=
 .of (owner:="method_descriptor") (n:="__get__") (by rw [typeLookup_type,builtinLookup_eq_fast];kernel_rfl) (by decide +kernel) (by decide +kernel) (by decide +kernel)
  (by first | exact .inl (by decide +kernel) | exact .inr (by decide +kernel)) (by rw [isSubtype_type];kernel_rfl)
theorem pA:entryFor table "method_descriptor.__get__"=some Builtin.«method_descriptor.__get__»:=entryFor_of_tree (by kernel_rfl)
theorem rH (a b c:Value):argsOk "method_descriptor.__get__" ⟨[a,b,c],[]⟩:=by unfold argsOk;kernel_rfl
theorem BH:typeLookup (.type "method_descriptor") "__set__"=pure none:=by rw [typeLookup_type,builtinLookup_eq_fast];kernel_rfl
theorem BJ:typeLookup (.type "method_descriptor") "__delete__"=pure none:=by rw [typeLookup_type,builtinLookup_eq_fast];kernel_rfl
theorem xC:Manifest.toldItsClass.contains "list.append"=false:=by decide +kernel
theorem jE:".".intercalate ("list.append".cutAt '.').dropLast="list":=by decide +kernel
theorem gS:isSubtype (.type "list") (.type (".".intercalate ("list.append".cutAt '.').dropLast))=pure true:=by
 rw [jE,isSubtype_type];kernel_rfl
theorem kI:isSubtype (.type "list") (.type "module")=pure false:=by rw [isSubtype_type];kernel_rfl
theorem mN:isSubtype (.type "list") (.type "type")=pure false:=by rw [isSubtype_type];kernel_rfl
theorem qD:Manifest.varargsMethods.contains "list.append"=false:=by decide +kernel
noncomputable abbrev bappO (a:Addr):Obj:={ cls:=.type "builtin_function_or_method",data:=.fields #[.builtin "list.append",.ref a] }
section
variable {prog:Program} {w:World} {A:Around} {E:Value→Shared→Prop} {h:Heap} {g:Array GenState} {d:Drawn} {t:Nat} {os:OsState} {a:Addr} {o:Obj} {xs:Array Value} {n:Nat}
theorem BI {Q:PySem.Fin→Shared→Prop} (hx:h.get? a=some (lobj xs n)) (hq:Q (.done (.ret (.ref h.objs.size))) ⟨h.push (bappO a),g,d,t,os⟩) :
  wpAny (model prog w) A (Builtin.«method_descriptor.__get__» ⟨[.builtin "list.append",.ref a,.type "list"],[]⟩) Q E ⟨h,g,d,t,os⟩:=by
 have hT:(⟨h,g,d,t,os⟩:Shared).TypeIs (.ref a) "list":=⟨_,hx,rfl⟩
 have f1:=gS
 have f2:=xC
 repeat (any_goals (first | assumption | wp_step))
theorem vF {tk:Tok} {Q:PySem.Fin→Shared→Prop} (hx:h.get? a=some (lobj xs n)) (hq:Q (.done (.ret (.ref h.objs.size))) ⟨h.push (bappO a),g,d,t,os⟩) :
  wpAny (model prog w) A (Builtin.«object.__getattribute__» ⟨[.ref a,.str "append" tk],[]⟩) Q E ⟨h,g,d,t,os⟩:=by
 have hT:(⟨h,g,d,t,os⟩:Shared).TypeIs (.ref a) "list":=⟨_,hx,rfl⟩
 have hT5:(⟨h,g,d,t,os⟩:Shared).TypeIs (.builtin "list.append") "method_descriptor":=type_list_append
 have f4:=slot_list_append.lookup
 have f5:=type_list_append
 have f6:=hH.lookup
 have f7:=BH
 have f8:=BJ
 repeat (any_goals (first | assumption | wp_step))
 refine codeAny_call_builtin hH.plain pA (hH.check _ _ _ _ _ _ _ _ hT5 (rH _ _ _) (BI hx ?_))
 repeat (any_goals (first | assumption | wp_step))
theorem mr {Q:Value→Shared→Prop} (hx:h.get? a=some (lobj xs n)) (hq:Q (.ref h.objs.size) ⟨h.push (bappO a),g,d,t+1,os⟩) :
  wpAny (model prog w) A (getAttr (.ref a) "append" true) Q E ⟨h,g,d,t,os⟩:=by
 have hT:∀ tk',(⟨h,g,d,tk',os⟩:Shared).TypeIs (.ref a) "list":=fun _=>⟨_,hx,rfl⟩
 have f3:=F.slot_list_getattribute.lookup
 have f4:=F.slot_list_getattribute.bind (.ref a)
 unfold getAttr getAttrBy
 repeat (any_goals (first | assumption | exact hT _ | ((with_reducible show wpAny _ _ (call (Value.builtin "list.__getattribute__") _ _) _ _ _);refine wpAny_call_entry F.slot_list_getattribute (hT _) F.entry_list_ga (vF hx ⟨_,rfl,?_⟩) (F.args_list_getattribute_2 _ _)) | wp_step))
theorem ro (b:Value) {Q:Unit→Shared→Prop} {s:Shared} (hx:s.heap.get? a=some (lobj xs n)) (hq:Q () s):wpAny (model prog w) A (checkBoundCall "list.append" ⟨[.ref a,b],[]⟩) Q E s:=by
 obtain⟨h,g,d,t,os⟩:=s
 have hT:(⟨h,g,d,t,os⟩:Shared).TypeIs (.ref a) "list":=⟨_,hx,rfl⟩
 have f1:=kI
 have f2:=mN
 have f3:=qD
 unfold checkBoundCall
 repeat (any_goals (first | assumption | wp_step))
end
section
variable {prog:Program} {w:World} {A:Around} {d:D} {ρ:List Addr} {cv:Option V} {s:Shared} {st:St}
theorem w9 {n:Nat} {a:Addr} (I:Inv d ρ cv s st) (ha:ρ[n]?=some a):TriP d ρ cv s (RVal d) (wpAny (model prog w) A (getAttr (.ref a) "append" true)) (.ok (.app n) st):=by
 obtain⟨xs,k,e⟩:=I.h.at (ac ha)
 refine .ok fun Q E hq=>?_
 obtain⟨h,g,dr,t,os⟩:=s
 refine mr e ?_
 exact hq (.ref h.objs.size) ⟨h.push (bappO a),g,dr,t+1,os⟩ ρ ⟨h.objs.size,a,_,_,rfl,ha,ao _ rfl,rfl,rfl,rfl,rfl⟩ (Post.grown I (fun _ _ e=>af _ e) (Keep.push (W:=fun _=>False) _).size)
theorem yn:entryFor table "list.append"=some Builtin.«list.append»:=entry_list_append
theorem xv {as:Args}:(Code.builtin "list.append" as).quiet=true:=Code.quiet_builtin _ (by decide +kernel)
theorem qb {n:Nat} {x b:Value} {y:V} (I:Inv d ρ cv s st) (hx:RApp ρ s.heap n x) (hy:VR d.B.heap ρ s.heap y b) :
  TriP d ρ cv s (RVal d) (wpAny (model prog w) A (call x [b])) (setList n (·++[y]) st):=by
 obtain⟨u,a,o,vs,rfl,ha,ho,hc,hd,h0,h1⟩:=hx
 refine kR I ha fun l xs k L hz Q E hq=>wpAny_call (codeAny_of_tree ?_)
 show wpAny _ A.in1 (callAny (.ref u) ⟨[b],[]⟩) _ _ s
 simp only [callAny]
 refine wpAny_bind (wpAny_load ho ?_)
 simp only [hd,hc,show (Value.type "builtin_function_or_method" == Value.type "method"||Value.type "builtin_function_or_method" == Value.type "builtin_function_or_method"||Value.type "builtin_function_or_method" == Value.type "method-wrapper")=true by decide,if_true,h0,h1]
 simp only [show (Value.type "builtin_function_or_method" != Value.type "method")=true by decide,if_true]
 refine wpAny_bind (ro b L.g (wpAny_pure ⟨xv,codeAny_builtin yn ?_⟩))
 refine wpAny_mono (list_append a xs k b L.line prog w A (fun r s'=>match r with | .ok (.ret v)=>Q v s' | .ok _=>False | .error e=>E e s') s ⟨L.g,hq (·.push b) ?_⟩) (fun _ _ h=>h) fun _ _ h=>h
 rw [dc]
 exact (VRs.cons hy .nil).append L.r
end
section
variable {prog:Program} {w:World} {A:Around} {d:D} {ρ:List Addr} {cv:Option V} {s:Shared} {st:St}
theorem zF {x:V} {a:Value} (I:Inv d ρ cv s st) (hx:VR d.B.heap ρ s.heap x a):TriP d ρ cv s (RVal d) (wpAny (model prog w) A (call (.builtin "len") [a])) (lenV x st):=by
 cases x with
 | str l=>
  obtain⟨hl,t,rfl⟩:=hx
  refine .ok fun Q E hq=>P.len_str (pO.mpr (small62 (Str.len_mk _) hl)) ?_
  rw [Str.len_mk]
  exact hq _ _ ρ (.int _ _) (.toks I _)
 | loc n=>
  refine TriP.onList I hx fun n l c xs q e L=>?_
  subst e
  refine .ok fun Q E hq=>Calls.call_len_list L.is (small62 L.len L.z) ?_
  rw [L.len]
  exact hq _ _ ρ (.int _ _) (.toks I _)
 | _=>exact .bad
theorem nN:(1:Nat)≤LIM:=by decide
theorem zH {x:V} {a:Value} (I:Inv d ρ cv s st) (hx:VR d.B.heap ρ s.heap x a):TriP d ρ cv s (RVal d) (wpAny (model prog w) A (call (.builtin "chr") [a])) (b1V .chr x st):=
 .onInt hx fun i t e=>.guard fun h=>by
  subst e
  have h:=cI.mp h
  have h0:=of_decide_eq_true h.1
  have h1:=of_decide_eq_true h.2
  exact .ok fun Q E hq=>P.chr_of_int (i4.mpr ⟨decide_eq_false (pN.mpr h0),decide_eq_false (by omega)⟩) (hq _ _ ρ (VR.str' (l:=[_]) rfl nN) (.toks I _))
theorem zC {x:V} {a:Value} (I:Inv d ρ cv s st) (hx:VR d.B.heap ρ s.heap x a):TriP d ρ cv s (RVal d) (wpAny (model prog w) A (call (.builtin "ord") [a])) (b1V .ord x st):=
 .onStr hx fun l t e _=>.some1 fun c e1=>by
  subst e e1
  exact .ok fun Q E hq=>P.ord_of_char (hq _ _ ρ (.int _ _) (.toks I _))
theorem zB {x:V} {a:Value} (I:Inv d ρ cv s st) (hx:VR d.B.heap ρ s.heap x a):TriP d ρ cv s (RVal d) (wpAny (model prog w) A (call (.type "type") [a])) (typV x st):=
 .onStr hx fun l t e _=>by
  subst e
  exact .ok fun Q E hq=>call_type_of (typeIs_str _ _ _) (by decide) (hq _ _ ρ .tstr (.refl I))
theorem qa {x:V} {a:Value} (I:Inv d ρ cv s st) (hx:VR d.B.heap ρ s.heap x a):TriP d ρ cv s (RVal d) (wpAny (model prog w) A (call (.builtin "isinstance") [a,.type "bytes"])) (isbytesV x st):=
 .onStr hx fun l t e _=>by
  subst e
  exact .ok fun Q E hq=>IsiPair.str_bytes (hq _ _ ρ (.bool _) (.toks I _))
theorem uQ {x:V} {a:Value} {u:Tok} (I:Inv d ρ cv s st) (hx:VR d.B.heap ρ s.heap x a):TriP d ρ cv s (RVal d) (wpAny (model prog w) A (call (.type "int") [a,.int 16 u])) (int16V x st):=
 .onStr hx fun l t e _=>.two fun p q e'=>.onSome fun x e1=>.onSome fun y e2=>by
  subst e e'
  have r:=xZ _ (lb e1) _ (lb e2)
  rw [e1,e2] at r
  exact .ok fun Q E hq=>yD (lb e1) (lb e2) (qC r) (hq _ _ ρ (.int _ _) (.toks I _))
theorem r9 {x y:V} {a b:Value} (I:Inv d ρ cv s st) (hx:VR d.B.heap ρ s.heap x a) (hy:VR d.B.heap ρ s.heap y b) :
  TriP d ρ cv s (RVal d) (wpAny (model prog w) A (call (.builtin "divmod") [a,b])) (divmodV x y st):=
 .onInt hx fun i t e=>.onInt hy fun j t' e'=>.guard fun h=>by
  subst e e'
  simp only [aS,decide_eq_true_eq] at h
  refine .ok fun Q E hq=>divmod_int (Int.ne_of_gt h.1.1.1) ?_ (Or.inl (PyProof.noPylong_small (by omega)))
  refine hq _ _ ρ (.tup (ao _ rfl) (show 2≤LIM by decide) ?_) (Post.grown I (fun _ _ e=>af _ e) (Keep.push (W:=fun _=>False) _).size)
  rw [Int.fdiv_eq_ediv_of_nonneg _ (ir h.1.1.1),pP _ (ir h.1.1.1)]
  exact .cons (.int _ _) (.cons (.int _ _) .nil)
theorem yX:isSubtype (.type "tuple") (.type "tuple")=pure true:=F.isi_sub_tuple
theorem qV:isSubtype (.type "str") (.type "str")=pure true:=F.sub_str_str
theorem gN (a b c:Value):argsOk "issubclass.nested" ⟨[a,b,c],[]⟩:=by unfold argsOk;kernel_rfl
theorem gE:builtinKind "issubclass.nested"=none:=by decide +kernel
theorem f0:plainId "issubclass.nested"=true:=by decide +kernel
theorem mZ {id:String} {b:Builtin} {args:List Value} {R:Result→Shared→Prop} (hk:builtinKind id=none) (hp:plainId id=true)
  (hb:entryFor table id=some b) (ha:argsOk id ⟨args,[]⟩)
  (hc:wpAny (model prog w) A.in1 (b ⟨args,[]⟩) (fun fin s'=>match fin with
   | .done f=>R (.ok f) s'
   | .again c'=>c'.quiet=true∧codeAny (model prog w) A c' R s') (fun e s'=>R (.error e) s') s) :
  codeAny (model prog w) A (.call (.builtin id) ⟨args,[]⟩) R s:=by
 refine codeAny_call_builtin hp hb ?_
 simp only [checkBuiltinCall,hk]
 cases hsig:Manifest.signature? id with
 | none=>exact wpAny_pure hc
 | some sig=>
  simp only [argsOk,hsig] at ha
  have h2:Bind.checkArgs id sig ⟨args,[]⟩=pure ():=ha
  show wpAny _ _ (Bind.checkArgs id sig ⟨args,[]⟩) _ _ s
  rw [h2];exact wpAny_pure hc
theorem Af {dep:Int} {tk:Tok} {Q:PySem.Fin→Shared→Prop} {E:Value→Shared→Prop} (hq:Q (.done (.ret (.bool true))) s) :
  wpAny (model prog w) A (Builtin.«issubclass.nested» ⟨[.type "str",.type "str",.int dep tk],[]⟩) Q E s:=by
 have hm:=F.isi_meta_str
 have hself:=qV
 repeat (any_goals (first | assumption | (rw [if_pos hm]) | (rw [hself]) | wp_step))
theorem Ae {tk:Tok} {tp:Addr} {Q:PySem.Fin→Shared→Prop} {E:Value→Shared→Prop} (htp:s.heap.get? tp=some (tobj #[.type "str",.type "bytes"] 0)) (hq:Q (.done (.ret (.bool true))) s) :
  wpAny (model prog w) A (Builtin.«issubclass.nested» ⟨[.type "str",.ref tp,.int 0 tk],[]⟩) Q E s:=by
 obtain⟨h,g,d,t,os⟩:=s
 have hT2:(⟨h,g,d,t,os⟩:Shared).TypeIs (.ref tp) "tuple":=⟨_,htp,rfl⟩
 have f1:=F.isi_sub_tuple
 repeat (any_goals (first | assumption | wp_step))
 show codeAny _ _ (.call (.builtin "issubclass.nested") ⟨[.type "str",.type "str",rawInt 1],[]⟩) _ _
 refine mZ gE f0 F.entry_issubclass_nested (gN _ _ _) (Af ?_)
 repeat (any_goals (first | assumption | wp_step))
theorem tq {tp:Addr} {Q:Value→Shared→Prop} {E:Value→Shared→Prop} (htp:s.heap.get? tp=some (tobj #[.type "str",.type "bytes"] 0)) (hq:Q (.bool true) s) :
  wpAny (model prog w) A (call (.builtin "issubclass") [.type "str",.ref tp]) Q E s:=by
 refine call_function_tree F.kind_issubclass F.plain_issubclass F.entry_issubclass (F.args_issubclass_2 _ _) ?_
 exact issubclass_outer (R:=fun r s'=>match r with | .ok (.ret v)=>Q v s' | .ok _=>False | .error e=>E e s') (Ae htp hq)
theorem uP {x:V} {a:Value} {tp:Addr} (I:Inv d ρ cv s st) (hx:VR d.B.heap ρ s.heap x a) (htp:s.heap.get? tp=some (tobj #[.type "str",.type "bytes"] 0)) :
  TriP d ρ cv s (RVal d) (wpAny (model prog w) A (call (.builtin "issubclass") [a,.ref tp])) (issubV x st):=by
 cases x with
 | tstr=>obtain rfl:=hx;exact .ok fun Q E hq=>tq htp (hq _ _ ρ (.bool _) (.refl I))
 | _=>exact .bad
end
section
open PySem.SeqAt
open AutoSeq1 (wpAny_loadPart')
open MeetsSeq MeetsSeq2 MeetsSeq3
section
variable {prog:Program} {w:World} {A:Around} {d:D} {ρ:List Addr} {cv:Option V} {s:Shared} {st:St}
theorem nB (l:List V):∀ {ts:List (List Nat)},strsOf l=some ts→l=ts.map .str:=by
 induction l with
 | nil=>intro ts e;cases e;rfl
 | cons v l ih=>
  intro ts e
  obtain⟨x,ts',rfl,e',rfl⟩:=ku e
  rw [ih e',aZ]
theorem mk_inj {l l':List Nat}:mk l=mk l'↔l=l':=⟨fun h=>congrArg (fun x:Str=>x.cps.toList) h,fun h=>by rw [h]⟩
theorem mk_beq (l l':List Nat):(mk l == mk l')=decide (l=l'):=(oI l l').symm
theorem qP (o:Bool) {B h:Heap} (p:List (List Nat)):∀ {q:List (List Nat)} {xs ys:List Value},VRs B ρ h (p.map .str) xs→VRs B ρ h (q.map .str) ys→Lex o A s (if o then ltS p q else ltS q p) xs ys:=by
 induction p with
 | nil=>
  intro q xs ys r1 r2
  obtain rfl:=r1
  cases q with
  | nil=>obtain rfl:=r2;cases o<;>rfl
  | cons y q=>obtain⟨_,_,_,_,rfl⟩:=r2;cases o<;>rfl
 | cons x p ih=>
  intro q xs ys r1 r2
  obtain⟨_,xs,⟨_,t,rfl⟩,r1,rfl⟩:=r1
  cases q with
  | nil=>obtain rfl:=r2;cases o<;>rfl
  | cons y q=>
   obtain⟨_,ys,⟨_,u,rfl⟩,r2,rfl⟩:=r2
   refine⟨_,EqAt.str_str _ _ _ _,?_⟩
   rw [←oI]
   by_cases h:x=y
   ·subst h
    rw [if_pos (decide_eq_true rfl),ltS,if_pos rfl,ltS,if_pos rfl]
    exact ih r1 r2
   ·rw [if_neg (by rw [decide_eq_true_eq];exact h),ltS,if_neg h,ltS,if_neg (Ne.symm h)]
    intro prog w E Q hq
    cases o with
    | true=>exact PyProof.Rows.lt_str hq
    | false=>exact richCompare_gives (op:=.Gt) (typeIs_str s _ t) (typeIs_str s _ u) F.slot_str_gt F.entry_str_gt (F.args_str_gt_2 _ _) (gives_str_gt _ _ t u) (fun e=>nomatch e) hq
theorem vg (o:Bool) {a b:Addr} {p q:List (List Nat)} {xs ys:Array Value} {n k:Nat} {B:Heap} (h1:s.heap.get? a=some (lobj xs n)) (h2:s.heap.get? b=some (lobj ys k)) (r1:VRs B ρ s.heap (p.map .str) xs.toList) (r2:VRs B ρ s.heap (q.map .str) ys.toList)
  (hu:A.units+1≤cLine):OrdAt o A s (.ref a) (.ref b) (if o then ltS p q else ltS q p):=fun prog w E Q hq=>by
 have fin:∀ {r:Bool},Q (.bool r) s→Value.bool r≠Value.notImplemented∧Q (.bool r) s:=fun h=>⟨fun x=>(nomatch x),h⟩
 cases o with
 | true=>exact richCompare_meets_room (op:=.Lt) ⟨_,h1,rfl⟩ ⟨_,h2,rfl⟩ F.slot_list_lt F.entry_list_lt (F.args_list_lt_2 _ _) (pd _ _ _ _ _ _ _) ⟨h1,h2,qP true p r1 r2,fin hq⟩ hu
 | false=>exact richCompare_meets_room (op:=.Gt) ⟨_,h1,rfl⟩ ⟨_,h2,rfl⟩ F.slot_list_gt F.entry_list_gt (F.args_list_gt_2 _ _) (Aa _ _ _ _ _ _ _) ⟨h1,h2,qP false p r1 r2,fin hq⟩ hu
structure Best (s:Shared) (l:Addr) (items vb:Array Value) (i:Nat) (h:Heap):Prop where
 all:∀ b o,s.heap.get? b=some o→h.get? b=some o
 best:∃ c,h.get? (s.heap.objs.size+1)=some (lobj vb c)
 it:h.IsListIter s.heap.objs.size l i∧h.IsList l items
section
variable {l:Addr} {items vb vb':Array Value} {i j:Nat} {h h':Heap}
theorem Best.sz (b:Best s l items vb i h):s.heap.objs.size≤h.objs.size:=by
 obtain⟨c,e⟩:=b.best
 exact aW (bw (aL _) (au e))
theorem Best.start {l:Addr} {k:Nat} (hl:s.heap.get? l=some (lobj items k)) :
  Best s l items #[] 0 ((s.heap.push { cls:=.type "list_iterator",data:=.fields #[.ref l,.int 0 0] }).push { cls:=.type "list",data:=.seq #[] }) where
 all:=fun _ _ e=>af _ (af _ e)
 best:=⟨0,by
  have:=ao (s.heap.push { cls:=.type "list_iterator",data:=.fields #[.ref l,.int 0 0] }) (o:=lobj #[] 0) rfl
  rw [aH] at this
  exact this⟩
 it:=⟨⟨_,af _ (ao _ rfl),rfl,rfl⟩,((br hl).push _).push _⟩
theorem Best.next (b:Best s l items vb i h) (k:∀ a o,a∉[s.heap.objs.size]→h.get? a=some o→h'.get? a=some o) (it:h'.IsListIter s.heap.objs.size l j∧h'.IsList l items):Best s l items vb j h' where
 all:=fun a o e=>k a o (fun q=>aP (au e) (ay.mp q)) (b.all a o e)
 best:=b.best.imp fun _ e=>k _ _ (fun q=>gT _ (ay.mp q)) e
 it:=it
theorem Best.put (b:Best s l items vb i h) (hl:l < s.heap.objs.size):Best s l items vb' i (h.update (s.heap.objs.size+1) (aR fun _=>vb')) where
 all:=fun a o e=>(aI _ _ (bR (cK (au e)))).trans (b.all a o e)
 best:=b.best.elim fun _ e=>⟨_,bD _ e rfl⟩
 it:=⟨b.it.1.at fun o e=>(aI _ _ (gT _)).trans e,b.it.2.at fun o e=>(aI _ _ (bR (cK hl))).trans e⟩
end
theorem mc:(toString "min"++toString ".loop":String)="min.loop":=by decide
theorem md:(toString "max"++toString ".loop":String)="max.loop":=by decide
section
variable {l:Addr} {v0 v1:Value} {r:Bool} {k:Nat} {Q:Value→Shared→Prop} {E:Value→Shared→Prop}
abbrev EndR (Q:Value→Shared→Prop) (E:Value→Shared→Prop):Result→Shared→Prop:=fun r s'=>match r with | .ok (.ret v)=>Q v s' | .ok _=>False | .error e=>E e s'
abbrev KeptQ (s:Shared) (Q:Shared→Prop):Prop:=∀ h' tk,(∀ b o,s.heap.get? b=some o→h'.get? b=some o)→s.heap.objs.size≤h'.objs.size→Q { s with heap:=h',toks:=tk }
theorem ua (hh:A.handled=none) {vb:Value} {h:Heap} {tk:Nat} (b:Best s l #[v0,v1] #[vb,vb] 2 h) (hl:l < s.heap.objs.size) (hq:KeptQ s (Q vb)) :
  codeAny (model prog w) A (.builtin "min.loop" ⟨[.ref s.heap.objs.size,.none,.ref (s.heap.objs.size+1)],[]⟩) (EndR Q E) { s with heap:=h,toks:=tk }:=by
 have W:=Walks.list (prog:=prog) (w:=w) (A:=A.in1) hh s.heap.objs.size l (aP hl) #[v0,v1]
 obtain⟨c,e⟩:=b.best
 refine codeAny_builtin F.entry_min_loop ?_
 rw [Around.under_plainId F.plain_min_loop _]
 show wpAny _ A.in1 (seqItems? (.ref (s.heap.objs.size+1)) >>= _) _ _ _
 refine wpAny_bind (wpAny_seqItems e rfl ?_)
 show wpAny _ A.in1 (tryCatch (pyNext (.ref s.heap.objs.size)) _ >>= _) _ _ _
 refine wpAny_bind (wpAny_tryCatch (W.done _ _ _ b.it fun h' tk hk'=>?_))
 have e':=hk' _ _ (fun q=>gT _ (ay.mp q)) e
 show wpAny _ A.in1 (updateSeq (s.heap.objs.size+1) (fun _=>#[]) >>= _) _ _ _
 refine wpAny_bind (wpAny_updateSeq e' rfl (wpAny_bind (wpAny_letGo (wpAny_pure (hq _ tk (fun a o q=>?_) ?_)))))
 ·exact (aI _ _ (bR (cK (au q)))).trans (hk' a o (fun z=>aP (au q) (ay.mp z)) (b.all a o q))
 ·rw [aO];exact aW (bw (aL _) (au e'))
theorem xG (hh:A.handled=none) {h:Heap} {tk:Nat} (b:Best s l #[v0,v1] #[v0,v0] 1 h) (hl:l < s.heap.objs.size) (hc:KeptQ s fun s=>OrdAt true A.in1 s v1 v0 r) (hq:KeptQ s (Q (if r then v1 else v0))) :
  codeAny (model prog w) A (.builtin "min.loop" ⟨[.ref s.heap.objs.size,.none,.ref (s.heap.objs.size+1)],[]⟩) (EndR Q E) { s with heap:=h,toks:=tk }:=by
 have W:=Walks.list (prog:=prog) (w:=w) (A:=A.in1) hh s.heap.objs.size l (aP hl) #[v0,v1]
 obtain⟨c,e⟩:=b.best
 refine codeAny_builtin F.entry_min_loop ?_
 rw [Around.under_plainId F.plain_min_loop _]
 show wpAny _ A.in1 (seqItems? (.ref (s.heap.objs.size+1)) >>= _) _ _ _
 refine wpAny_bind (wpAny_seqItems e rfl ?_)
 show wpAny _ A.in1 (tryCatch (pyNext (.ref s.heap.objs.size)) _ >>= _) _ _ _
 refine wpAny_bind (wpAny_tryCatch (W.item 1 _ _ _ (aL 1) b.it fun v h2 tk2 hP2 st2 k2=>?_))
 obtain rfl:v1=v:=Option.some.inj hP2
 have b2:=b.next k2 st2
 obtain⟨c',e'⟩:=b2.best
 show wpAny _ A.in1 (tryCatch (holding [v1,v1] (richCompare .Lt v1 v0 >>= _)) _ >>= _) _ _ _
 refine wpAny_bind (wpAny_tryCatch (wpAny_holding (wpAny_bind (hc _ _ b2.all b2.sz prog w _ _ (wpAny_bind (wpAny_holding (wpAny_truthy_bool (wpAny_bind (wpAny_letGo (wpAny_pure ?_))))))))))
 rw [mc]
 cases r with
 | true=>exact wpAny_bind (wpAny_updateSeq e' rfl (wpAny_bind (wpAny_letGo (wpAny_pure ⟨plainId_quiet F.plain_min_loop _,ua hh (b2.put hl) hl hq⟩))))
 | false=>exact wpAny_bind (wpAny_letGo (wpAny_pure ⟨plainId_quiet F.plain_min_loop _,ua hh b2 hl hq⟩))
theorem yB (hh:A.handled=none) (hl:s.heap.get? l=some (lobj #[v0,v1] k)) (hc:KeptQ s fun s=>OrdAt true A.in1 s v1 v0 r) (hq:KeptQ s (Q (if r then v1 else v0))) :
  wpAny (model prog w) A (call (.builtin "min") [.ref l]) Q E s:=by
 have hlt:=au hl
 have b:=Best.start hl
 obtain⟨c,e⟩:=b.best
 refine call_function_tree F.kind_min F.plain_min F.entry_min (F.args_min1 _) ?_
 show wpAny _ A.in1 (Builtin.Builtins.bindParams "min" ["key","default"] 0 ⟨[],[]⟩ >>= _) _ _ s
 refine wpAny_bind (wpAny_of_eq (show Builtin.Builtins.bindParams "min" ["key","default"] 0 ⟨[],[]⟩=pure [none,none] from rfl) ?_)
 refine wpAny_bind (wpAny_pure (wpAny_bind (wpAny_pyIter_list (br hl) (wpAny_bind (wpAny_newObj_type ?_)))))
 have W:=Walks.list (prog:=prog) (w:=w) (A:=A.in1) hh s.heap.objs.size l (aP hlt) #[v0,v1]
 show wpAny _ A.in1 (again (.builtin _ ⟨[.ref s.heap.objs.size,.none,.ref (s.heap.push _).objs.size],[]⟩)) _ _ _
 rw [mc,aH]
 refine wpAny_pure ⟨plainId_quiet F.plain_min_loop _,codeAny_builtin F.entry_min_loop ?_⟩
 rw [Around.under_plainId F.plain_min_loop _]
 show wpAny _ A.in1 (seqItems? (.ref (s.heap.objs.size+1)) >>= _) _ _ _
 refine wpAny_bind (wpAny_seqItems e rfl ?_)
 show wpAny _ A.in1 (tryCatch (pyNext (.ref s.heap.objs.size)) _ >>= _) _ _ _
 refine wpAny_bind (wpAny_tryCatch (W.item 0 _ _ _ (Nat.zero_lt_succ 1) b.it fun v h1 tk1 hP1 st1 k1=>?_))
 obtain rfl:v0=v:=Option.some.inj hP1
 have b1:=b.next k1 st1
 obtain⟨c',e'⟩:=b1.best
 show wpAny _ A.in1 (updateSeq (s.heap.objs.size+1) (fun _=>#[v0,v0]) >>= _) _ _ _
 rw [mc]
 exact wpAny_bind (wpAny_updateSeq e' rfl (wpAny_pure ⟨plainId_quiet F.plain_min_loop _,xG hh (b1.put hlt) hlt hc hq⟩))
theorem uc (hh:A.handled=none) {vb:Value} {h:Heap} {tk:Nat} (b:Best s l #[v0,v1] #[vb,vb] 2 h) (hl:l < s.heap.objs.size) (hq:KeptQ s (Q vb)) :
  codeAny (model prog w) A (.builtin "max.loop" ⟨[.ref s.heap.objs.size,.none,.ref (s.heap.objs.size+1)],[]⟩) (EndR Q E) { s with heap:=h,toks:=tk }:=by
 have W:=Walks.list (prog:=prog) (w:=w) (A:=A.in1) hh s.heap.objs.size l (aP hl) #[v0,v1]
 obtain⟨c,e⟩:=b.best
 refine codeAny_builtin F.entry_max_loop ?_
 rw [Around.under_plainId F.plain_max_loop _]
 show wpAny _ A.in1 (seqItems? (.ref (s.heap.objs.size+1)) >>= _) _ _ _
 refine wpAny_bind (wpAny_seqItems e rfl ?_)
 show wpAny _ A.in1 (tryCatch (pyNext (.ref s.heap.objs.size)) _ >>= _) _ _ _
 refine wpAny_bind (wpAny_tryCatch (W.done _ _ _ b.it fun h' tk hk'=>?_))
 have e':=hk' _ _ (fun q=>gT _ (ay.mp q)) e
 show wpAny _ A.in1 (updateSeq (s.heap.objs.size+1) (fun _=>#[]) >>= _) _ _ _
 refine wpAny_bind (wpAny_updateSeq e' rfl (wpAny_bind (wpAny_letGo (wpAny_pure (hq _ tk (fun a o q=>?_) ?_)))))
 ·exact (aI _ _ (bR (cK (au q)))).trans (hk' a o (fun z=>aP (au q) (ay.mp z)) (b.all a o q))
 ·rw [aO];exact aW (bw (aL _) (au e'))
theorem xI (hh:A.handled=none) {h:Heap} {tk:Nat} (b:Best s l #[v0,v1] #[v0,v0] 1 h) (hl:l < s.heap.objs.size) (hc:KeptQ s fun s=>OrdAt false A.in1 s v1 v0 r) (hq:KeptQ s (Q (if r then v1 else v0))) :
  codeAny (model prog w) A (.builtin "max.loop" ⟨[.ref s.heap.objs.size,.none,.ref (s.heap.objs.size+1)],[]⟩) (EndR Q E) { s with heap:=h,toks:=tk }:=by
 have W:=Walks.list (prog:=prog) (w:=w) (A:=A.in1) hh s.heap.objs.size l (aP hl) #[v0,v1]
 obtain⟨c,e⟩:=b.best
 refine codeAny_builtin F.entry_max_loop ?_
 rw [Around.under_plainId F.plain_max_loop _]
 show wpAny _ A.in1 (seqItems? (.ref (s.heap.objs.size+1)) >>= _) _ _ _
 refine wpAny_bind (wpAny_seqItems e rfl ?_)
 show wpAny _ A.in1 (tryCatch (pyNext (.ref s.heap.objs.size)) _ >>= _) _ _ _
 refine wpAny_bind (wpAny_tryCatch (W.item 1 _ _ _ (aL 1) b.it fun v h2 tk2 hP2 st2 k2=>?_))
 obtain rfl:v1=v:=Option.some.inj hP2
 have b2:=b.next k2 st2
 obtain⟨c',e'⟩:=b2.best
 show wpAny _ A.in1 (tryCatch (holding [v1,v1] (richCompare .Gt v1 v0 >>= _)) _ >>= _) _ _ _
 refine wpAny_bind (wpAny_tryCatch (wpAny_holding (wpAny_bind (hc _ _ b2.all b2.sz prog w _ _ (wpAny_bind (wpAny_holding (wpAny_truthy_bool (wpAny_bind (wpAny_letGo (wpAny_pure ?_))))))))))
 rw [md]
 cases r with
 | true=>exact wpAny_bind (wpAny_updateSeq e' rfl (wpAny_bind (wpAny_letGo (wpAny_pure ⟨plainId_quiet F.plain_max_loop _,uc hh (b2.put hl) hl hq⟩))))
 | false=>exact wpAny_bind (wpAny_letGo (wpAny_pure ⟨plainId_quiet F.plain_max_loop _,uc hh b2 hl hq⟩))
theorem yC (hh:A.handled=none) (hl:s.heap.get? l=some (lobj #[v0,v1] k)) (hc:KeptQ s fun s=>OrdAt false A.in1 s v1 v0 r) (hq:KeptQ s (Q (if r then v1 else v0))) :
  wpAny (model prog w) A (call (.builtin "max") [.ref l]) Q E s:=by
 have hlt:=au hl
 have b:=Best.start hl
 obtain⟨c,e⟩:=b.best
 refine call_function_tree F.kind_max F.plain_max F.entry_max (F.args_max1 _) ?_
 show wpAny _ A.in1 (Builtin.Builtins.bindParams "max" ["key","default"] 0 ⟨[],[]⟩ >>= _) _ _ s
 refine wpAny_bind (wpAny_of_eq (show Builtin.Builtins.bindParams "max" ["key","default"] 0 ⟨[],[]⟩=pure [none,none] from rfl) ?_)
 refine wpAny_bind (wpAny_pure (wpAny_bind (wpAny_pyIter_list (br hl) (wpAny_bind (wpAny_newObj_type ?_)))))
 have W:=Walks.list (prog:=prog) (w:=w) (A:=A.in1) hh s.heap.objs.size l (aP hlt) #[v0,v1]
 show wpAny _ A.in1 (again (.builtin _ ⟨[.ref s.heap.objs.size,.none,.ref (s.heap.push _).objs.size],[]⟩)) _ _ _
 rw [md,aH]
 refine wpAny_pure ⟨plainId_quiet F.plain_max_loop _,codeAny_builtin F.entry_max_loop ?_⟩
 rw [Around.under_plainId F.plain_max_loop _]
 show wpAny _ A.in1 (seqItems? (.ref (s.heap.objs.size+1)) >>= _) _ _ _
 refine wpAny_bind (wpAny_seqItems e rfl ?_)
 show wpAny _ A.in1 (tryCatch (pyNext (.ref s.heap.objs.size)) _ >>= _) _ _ _
 refine wpAny_bind (wpAny_tryCatch (W.item 0 _ _ _ (Nat.zero_lt_succ 1) b.it fun v h1 tk1 hP1 st1 k1=>?_))
 obtain rfl:v0=v:=Option.some.inj hP1
 have b1:=b.next k1 st1
 obtain⟨c',e'⟩:=b1.best
 show wpAny _ A.in1 (updateSeq (s.heap.objs.size+1) (fun _=>#[v0,v0]) >>= _) _ _ _
 rw [md]
 exact wpAny_bind (wpAny_updateSeq e' rfl (wpAny_pure ⟨plainId_quiet F.plain_max_loop _,xI hh (b1.put hlt) hlt hc hq⟩))
end
theorem p8 (o:Bool) {x:V} {a:Value} (hu:A.units+10 < cLine) (I:Inv d ρ cv s st) (hx:VR d.B.heap ρ s.heap x a) {P:PT Value}
  (hP:∀ (l:Addr) (v0 v1:Value) (k:Nat) (r:Bool) (Q:Value→Shared→Prop) (E:Value→Shared→Prop),a = .ref l→s.heap.get? l=some (lobj #[v0,v1] k)→KeptQ s (fun s=>OrdAt o A.in1 s v1 v0 r)→KeptQ s (Q (if r then v1 else v0))→P Q E s) :
  TriP d ρ cv s (RVal d) P (pickV (fun p q=>if o then ltS q p else ltS p q) x st):=by
 refine TriP.onList I hx fun n l c xs q e L=>.two fun x y exy=>?_
 subst exy
 have r:=L.r
 obtain⟨a,_,rx,⟨b,_,ry,rn,e2⟩,e1⟩:=r
 obtain rfl:=rn
 subst e2
 refine .onLoc rx fun i u' iu ea=>.onLoc ry fun j v' iv eb=>?_
 subst ea eb
 refine TriP.lst I fun l1 u xs1 q1 L1=>TriP.lst I fun l2 v xs2 q2 L2=>.onSome fun p ep=>.onSome fun q' eq=>?_
 obtain rfl:=nB _ ep
 obtain rfl:=nB _ eq
 cases iu.symm.trans L1.i
 cases iv.symm.trans L2.i
 have hxs:xs=#[.ref u',.ref v']:=congrArg kD e1
 refine .ok fun Q E hq=>hP c (.ref u') (.ref v') q (if o then ltS q' p else ltS p q') Q E e (by rw [L.g,hxs]) (fun h' tk kk sz=>?_) fun h' tk kk sz=>hq _ _ ρ ?_ (Post.grown I kk sz)
 ·have pp:=Post.grown (t:=tk) I kk sz
  exact vg o (B:=d.B.heap) (kk _ _ L2.g) (kk _ _ L1.g) (VRs.post I pp L2.r) (VRs.post I pp L1.r) (aW (aC (bP (show 2≤10 by decide) A.units) hu))
 ·show VR d.B.heap ρ h' (.loc (if (if o then ltS q' p else ltS p q')=true then j else i)) _
  cases (if o then ltS q' p else ltS p q') with
  | true=>exact .loc L2.i
  | false=>exact .loc L1.i
theorem zD {x:V} {a:Value} (hh:A.handled=none) (hu:A.units+10 < cLine) (I:Inv d ρ cv s st) (hx:VR d.B.heap ρ s.heap x a):TriP d ρ cv s (RVal d) (wpAny (model prog w) A (call (.builtin "min") [a])) (b1V .min x st):=
 p8 true hu I hx fun l v0 v1 k r Q E e hl hc hq=>by subst e;exact yB hh hl hc hq
theorem zE {x:V} {a:Value} (hh:A.handled=none) (hu:A.units+10 < cLine) (I:Inv d ρ cv s st) (hx:VR d.B.heap ρ s.heap x a):TriP d ρ cv s (RVal d) (wpAny (model prog w) A (call (.builtin "max") [a])) (b1V .max x st):=
 p8 false hu I hx fun l v0 v1 k r Q E e hl hc hq=>by subst e;exact yC hh hl hc hq
end
end
section
variable {N:Nat} {lt:Nat→Nat→Bool}
structure SLt (N:Nat) (lt:Nat→Nat→Bool):Prop where
 asym:∀ i j,i < N→j < N→lt i j=true→lt j i=false
 trans:∀ i j k,i < N→j < N→k < N→lt i j=true→lt j k=true→lt i k=true
 total:∀ i j,i < N→j < N→i≠j→lt i j=true∨lt j i=true
def pcmp (N:Nat) (lt:Nat→Nat→Bool) (i j:Nat) (C:Bool→Shared→Prop) (s:Shared):Prop:=i < N∧j < N∧C (lt i j) s
structure IsP (N:Nat) (p:Array Nat):Prop where
 size:p.size=N
 perm:p.toList.Perm (bZ N)
noncomputable abbrev K (p:Array Nat) (i:Nat):Nat:=p.getD i 0
theorem wf {p:Array Nat} {i:Nat} (h:i < p.size):p[i]?=some (K p i):=by simp [K,wh,h]
theorem K_of {p:Array Nat} {i x:Nat} (h:p[i]?=some x):K p i=x:=by
 have hi:i < p.size:=(fB.mp h).1
 have:=wf hi
 rw [h] at this
 exact (Option.some.inj this).symm
theorem jR {p q:Array Nat} {i j:Nat} (h:p[i]?=q[j]?):K p i=K q j:=by
 unfold K
 rw [mM,mM,h]
theorem IsP.bd {p:Array Nat} (P:IsP N p) {i:Nat} (h:i < N):K p i < N:=by
 have:K p i∈p.toList:=by
  have e:=wf (p:=p) (by rw [P.size];exact h)
  rw [←ba] at e
  exact ac e
 exact cQ.mp (P.perm.mem_iff.mp this)
theorem IsP.ne {p:Array Nat} (P:IsP N p) {i j:Nat} (hi:i < N) (hj:j < N) (h:i≠j):K p i≠K p j:=by
 have nd:p.toList.Nodup:=P.perm.nodup_iff.mpr List.nodup_range
 have e1:=wf (p:=p) (i:=i) (by rw [P.size];exact hi)
 have e2:=wf (p:=p) (i:=j) (by rw [P.size];exact hj)
 rw [←ba] at e1 e2
 intro q
 rw [q] at e1
 exact h ((gg (ag.mp e1).1 nd).mp (e1.trans e2.symm))
theorem IsP.of {p q:Array Nat} (P:IsP N p) (h:q.Perm p):IsP N q:=⟨by rw [h.size_eq,P.size],h.toList.trans P.perm⟩
def Asc (lt:Nat→Nat→Bool) (p:Array Nat) (k:Nat):Prop:=∀ i j,i < j→j < k→lt (K p i) (K p j)=true
theorem SLt.flip (S:SLt N lt):SLt N fun i j=>lt j i:=⟨fun i j hi hj h=>S.asym j i hj hi h,fun i j k hi hj hk h1 h2=>S.trans k j i hk hj hi h2 h1,fun i j hi hj h=>(S.total i j hi hj h).symm⟩
theorem IsP.not (S:SLt N lt) {p:Array Nat} (P:IsP N p) {i j:Nat} (hi:i < N) (hj:j < N) (hij:i≠j) (h:lt (K p i) (K p j)=false):lt (K p j) (K p i)=true:=
 (S.total _ _ (P.bd hi) (P.bd hj) (P.ne hi hj hij)).resolve_left fun q=>by rw [q] at h;cases h
theorem Asc.snoc {p:Array Nat} {k:Nat} (S:SLt N lt) (P:IsP N p) (hk:k < N) (h:Asc lt p k) (hl:0 < k→lt (K p (k - 1)) (K p k)=true):Asc lt p (k+1):=by
 intro i j hij hj
 rcases Nat.lt_succ_iff_lt_or_eq.mp hj with q | rfl
 ·exact h i j hij q
 ·have h0:0 < j:=aC (aD _) hij
  have hj1:j - 1 < j:=im h0 gi
  rcases kj (jl hij) with rfl | e
  ·exact hl h0
  ·exact S.trans _ _ _ (P.bd (bw hij hk)) (P.bd (bw hj1 hk)) (P.bd hk) (h i (j - 1) e hj1) (hl h0)
theorem qv (S:SLt N lt) {p:Array Nat} (P:IsP N p) {Q:Nat→Shared→Prop} {s:Shared} {M:Nat} (hN:M≤N) (hq:∀ m,1≤m→m≤M→Asc lt p m→(m < M→lt (K p m) (K p (m - 1))=true)→Q m s) (f:Nat) :
  ∀ (n:Nat),1≤n→n+f=M→Asc lt p n→(kas_asc p f n).kasWp (pcmp N lt) Q s:=by
 induction f with
 | zero=>intro n h1 hM ha;exact hq n h1 (bS hM) ha fun h=>absurd h (by rw [←hM];exact bx _)
 | succ f ih=>
  intro n h1 hM ha
  have hn:n < M:=by rw [←hM];exact cn (bo f)
  have hnN:=aE hn hN
  have hn1:n - 1 < N:=aC (dJ _ _) hnN
  refine⟨P.bd hnN,P.bd hn1,?_⟩
  cases hc:lt (K p n) (K p (n - 1)) with
  | true=>exact hq n h1 (aW hn) ha fun _=>hc
  | false=>exact ih (n+1) (cG _ _) ((dC n f).trans hM) (ha.snoc S P hnN fun _=>P.not S hnN hn1 (bR (im h1 gi)) hc)
theorem u5 (S:SLt N lt) {p:Array Nat} (P:IsP N p) {Q:Array Nat×Nat×Nat→Shared→Prop} {s:Shared} {M:Nat} (hN:M≤N) (hq:∀ m,1≤m→m≤M→Asc (fun i j=>lt j i) p m→Q (p,m,0) s) (f:Nat) :
  ∀ (n:Nat),1≤n→n+f=M→Asc (fun i j=>lt j i) p n→(kas_desc f p n 0).kasWp (pcmp N lt) Q s:=by
 induction f with
 | zero=>intro n h1 hM ha;exact hq n h1 (bS hM) ha
 | succ f ih=>
  intro n h1 hM ha
  have hn:n < M:=by rw [←hM];exact cn (bo f)
  have hnN:=aE hn hN
  have hn1:n - 1 < N:=aC (dJ _ _) hnN
  refine⟨P.bd hnN,P.bd hn1,?_⟩
  cases hc:lt (K p n) (K p (n - 1)) with
  | true=>exact ih (n+1) (cG _ _) ((dC n f).trans hM) (ha.snoc S.flip P hnN fun _=>hc)
  | false=>
   refine⟨P.bd hn1,P.bd hnN,?_⟩
   rw [P.not S hnN hn1 (bR (im h1 gi)) hc]
   exact hq n h1 (aW hn) ha
theorem AC {p:Array Nat} {n:Nat} (hn:n≤p.size) {i:Nat} (hi:i < n):K (kas_rev p 0 n) i=K p (n - 1 - i):=by
 have e:=getElem?_mirror_all (xs:=p) (i:=0) (j:=n) hn i
 rw [if_pos ⟨aD _,hi⟩] at e
 unfold kas_rev
 refine jR (e.trans (congrArg (p[·]?) ?_))
 rw [cJ]
theorem zW {p:Array Nat} {n:Nat} (hn:n≤p.size) (h:Asc (fun i j=>lt j i) p n):Asc lt (kas_rev p 0 n) n:=by
 intro i j hij hj
 rw [AC hn (bw hij hj),AC hn hj]
 have h1:i < n - 1:=aE hij (jl hj)
 exact h _ _ (Nat.sub_lt_sub_left h1 hij) (aC (dJ _ _) (im (aC (aD _) hj) gi))
structure Run (N:Nat) (lt:Nat→Nat→Bool) (r:Nat×Array Nat):Prop where
 p:IsP N r.2
 one:1≤r.1
 le:r.1≤N
 asc:Asc lt r.2 r.1
theorem sC (S:SLt N lt) {p:Array Nat} (P:IsP N p) {Q:Nat×Array Nat→Shared→Prop} {s:Shared} {n:Nat} (h1:1≤n) (hN:n≤N) (hd:Asc (fun i j=>lt j i) p n) (hq:∀ r,Run N lt r→Q r s) :
  (kas_tail3 n N p).kasWp (pcmp N lt) Q s:=by
 unfold kas_tail3
 rw [KasT.kasWp_bind]
 have P':IsP N (kas_rev p 0 n):=P.of (mirror_perm _ _ _ _)
 exact qv S P' (am N) (fun m a b c _=>hq _ ⟨P',a,b,c⟩) _ _ h1 (fu hN) (zW (by rw [P.size];exact hN) hd)
theorem uo {p:Array Nat}:Asc lt p 1:=fun i j h1 h2=>absurd (aE h1 (cL h2)) (cF _)
theorem sE (S:SLt N lt) {p:Array Nat} (P:IsP N p) {Q:Nat×Array Nat→Shared→Prop} {s:Shared} (h2:2≤N) (hq:∀ r,Run N lt r→Q r s):(kas_count N p).kasWp (pcmp N lt) Q s:=by
 unfold kas_count
 rw [KasT.kasWp_bind]
 have h1N:1≤N:=Nat.le_of_succ_le h2
 refine qv S P (am N) (fun n a b c d=>?_) (N - 1) 1 (am _) (fu h1N) uo
 split
 ·exact hq _ ⟨P,a,b,c⟩
 ·rename_i hne
  have hn:n < N:=Nat.lt_of_le_of_ne b fun e=>hne (by rw [e];exact beq_self_eq_true N)
  split
  ·rename_i hgt
   refine⟨P.bd h1N,P.bd (aC (dJ _ _) hn),?_⟩
   have:lt (K p 0) (K p (n - 1))=true:=c 0 (n - 1) (Nat.sub_pos_of_lt hgt) (im a gi)
   rw [this]
   exact hq _ ⟨P,a,b,c⟩
  ·rename_i hgt
   obtain rfl:n=1:=db (dq hgt) a
   have hd:Asc (fun i j=>lt j i) p 2:=uo.snoc S.flip P hn fun _=>d hn
   unfold kas_descPart
   rw [KasT.kasWp_bind]
   refine u5 S P (am N) (fun m a' b' c'=>?_) _ 2 (bv 1) (fu h2) hd
   exact sC S P a' b' c' hq
theorem BG {l r:Nat} (h:l < r):l≤(l+r) / 2:=(Nat.le_div_iff_mul_le Nat.two_pos).mpr (by rw [Nat.mul_two];exact bP (aW h) l)
theorem BF {l r:Nat} (h:l < r):(l+r) / 2 < r:=(Nat.div_lt_iff_lt_mul Nat.two_pos).mpr (by rw [Nat.mul_two];exact Nat.add_lt_add_right h r)
theorem sD (S:SLt N lt) {p:Array Nat} (P:IsP N p) {Q:Nat→Shared→Prop} {s:Shared} {k:Nat} (hk:k < N) (ha:Asc lt p k)
  (hq:∀ m,m≤k→(∀ i,i < m→lt (K p i) (K p k)=true)→(∀ i,m≤i→i < k→lt (K p k) (K p i)=true)→Q m s) (f:Nat):∀ (l r:Nat),r≤l+f→l≤r→r≤k →
  (∀ i,i < l→lt (K p i) (K p k)=true)→(∀ i,r≤i→i < k→lt (K p k) (K p i)=true)→(kas_place p k f l r).kasWp (pcmp N lt) Q s:=by
 induction f with
 | zero=>
  intro l r hf hl hr h1 h2
  obtain rfl:l=r:=db hl hf
  exact hq l hr h1 h2
 | succ f ih=>
  intro l r hf hl hr h1 h2
  unfold kas_place
  split
  ·rename_i hlr
   obtain rfl:l=r:=db hl (dq fun q=>by first | exact absurd q hlr | exact absurd hlr (kh.mpr q) | (simp at hlr;grind))
   exact hq l hr h1 h2
  ·rename_i hlr
   have hlt:l < r:=by first | exact hlr | exact Nat.lt_of_not_le hlr | (simp at hlr;grind)
   have g1:=BG hlt
   have g2:=BF hlt
   have g3:=aE g2 hr
   have g4:=bw g3 hk
   refine⟨P.bd hk,P.bd g4,?_⟩
   cases hc:lt (K p k) (K p ((l+r) / 2)) with
   | true=>
    refine ih l _ (cL (aE g2 hf)) g1 (aW g3) h1 fun i hi hik=>?_
    rcases kj hi with rfl | e
    ·exact hc
    ·exact S.trans _ _ _ (P.bd hk) (P.bd g4) (P.bd (bw hik hk)) hc (ha _ _ e hik)
   | false=>
    have:=P.not S hk g4 (bR g3) hc
    refine ih _ r (aj hf (by rw [dC];exact Nat.add_le_add_right g1 _)) g2 hr (fun i hi=>?_) h2
    rcases kj (cL hi) with rfl | e
    ·exact this
    ·exact S.trans _ _ _ (P.bd (bw e g4)) (P.bd g4) (P.bd hk) (ha _ _ e g3) this
section
variable {p:Array Nat} {k l:Nat} (hk:k < p.size) (hl:l≤k)
include hk hl
theorem jj (j:Nat):(bubble p k (k - l))[j]?=if j=l then p[k]? else if l < j∧j≤k then p[j - 1]? else p[j]?:=by
 have e:=getElem?_bubble hk (k - l) (dJ _ _) j
 rw [Nat.sub_sub_self hl] at e
 exact e
theorem iI {j:Nat} (h:j < l):K (bubble p k (k - l)) j=K p j:=jR ((jj hk hl j).trans ((if_neg (aP h)).trans (if_neg fun q=>Nat.lt_asymm h q.1)))
theorem oh:K (bubble p k (k - l)) l=K p k:=jR ((jj hk hl l).trans (if_pos rfl))
theorem og {j:Nat} (h:l < j) (h':j≤k):K (bubble p k (k - l)) j=K p (j - 1):=jR ((jj hk hl j).trans ((if_neg (bR h)).trans (if_pos ⟨h,h'⟩)))
end
theorem tw {p:Array Nat} {k l:Nat} (hk:k < p.size) (hl:l≤k) (ha:Asc lt p k) (h1:∀ i,i < l→lt (K p i) (K p k)=true) (h2:∀ i,l≤i→i < k→lt (K p k) (K p i)=true):Asc lt (bubble p k (k - l)) (k+1):=by
 intro i j hij hj
 have hj:=cL hj
 rcases kL j l with q | rfl | q
 ·rw [iI hk hl q,iI hk hl (bw hij q)]
  exact ha _ _ hij (aE q hl)
 ·rw [oh hk hl,iI hk hl hij]
  exact h1 i hij
 ·have j0:=aC (aD _) q
  have j1:l≤j - 1:=jl q
  have j2:j - 1 < k:=aE (im j0 gi) hj
  rw [og hk hl q hj]
  rcases kL i l with e | rfl | e
  ·rw [iI hk hl e];exact ha _ _ (aE e j1) j2
  ·rw [oh hk hl];exact h2 _ j1 j2
  ·rw [og hk hl e (aW (aE hij hj))]
   exact ha _ _ (Nat.sub_lt_sub_right (aC (aD _) e) hij) j2
theorem xy (S:SLt N lt) {Q:Array Nat→Shared→Prop} {s:Shared} (hq:∀ p,IsP N p→Asc lt p N→Q p s) (f:Nat):∀ (p:Array Nat) (k:Nat),IsP N p→k+f=N→Asc lt p k →
  (kas_bin f p k).kasWp (pcmp N lt) Q s:=by
 induction f with
 | zero=>intro p k P hf ha;exact hq p P (by rw [←hf];exact ha)
 | succ f ih=>
  intro p k P hf ha
  have hk:k < N:=by rw [←hf];exact cn (bo f)
  unfold kas_bin
  rw [KasT.kasWp_bind]
  exact sD S P hk ha (fun l hl h1 h2=>ih _ (k+1) (P.of (bubble_perm _ _ _)) ((dC k f).trans hf) (tw (by rw [P.size];exact hk) hl ha h1 h2)) k 0 k
   (by rw [cJ];exact am _) (aD _) (am _) (fun i h=>absurd h (cF _)) fun i h1 h2=>absurd h2 (bf.mpr h1)
theorem u4 (S:SLt N lt) {Q:Array Nat→Shared→Prop} {s:Shared} (h2:2≤N) (hq:∀ p,IsP N p→Asc lt p N→Q p s):(kas_sort N).kasWp (pcmp N lt) Q s:=by
 unfold kas_sort
 rw [KasT.kasWp_bind]
 have P0:IsP N (bZ N).toArray:=⟨by simp,by simp⟩
 refine sE S P0 h2 fun r hr=>?_
 obtain⟨P,a,b,c⟩:=hr
 have e:max r.1 1=r.1:=Nat.max_eq_left a
 split
 ·rw [e]
  exact xy S hq _ _ _ P (fu b) c
 ·rename_i hge
  refine hq _ P ?_
  rw [show N=r.1 from db (by grind) b]
  exact c
theorem qR {α:Type} {cmp:Nat→Nat→(Bool→Shared→Prop)→Shared→Prop} (J:Shared→Prop)
  (h:∀ i j (C:Bool→Shared→Prop) s,i < N→j < N→J s→(∀ s',J s'→C (lt i j) s')→cmp i j C s) {Q Q':α→Shared→Prop}:∀ (t:KasT α) (s s₀:Shared),J s →
  t.kasWp (pcmp N lt) Q s₀→(∀ a s',J s'→Q a s₀→Q' a s')→t.kasWp cmp Q' s
 | .ret a,s,s₀,hJ,hp,hq=>hq a s hJ hp
 | .ask i j k,s,s₀,hJ,hp,hq=>h i j _ s hp.1 hp.2.1 hJ fun s' hs'=>qR J h (k (lt i j)) s' s₀ hs' hp.2.2 hq
end
theorem uniq {α:Type} {R:α→α→Prop}:∀ {a b:List α},a.Perm b→a.Pairwise R→b.Pairwise R→(∀ x∈a,∀ y∈a,R x y→R y x→False)→a=b
 | [],b,p,_,_,_=>by rw [List.nil_perm] at p;exact p.symm
 | x::r,b,p,ha,hb,hs=>by
  cases b with
  | nil=>exact absurd (List.perm_nil.mp p) (by simp)
  | cons y t=>
   have hx:x∈y::t:=p.mem_iff.mp (.head _)
   have hy:y∈x::r:=p.mem_iff.mpr (.head _)
   have e:x=y:=by
    rcases az.mp hx with h | h
    ·exact h
    ·rcases az.mp hy with h' | h'
     ·exact h'.symm
     ·exact (hs x (.head _) y (.tail _ h') ((bn.mp ha).1 y h') ((bn.mp hb).1 x h)).elim
   subst e
   rw [uniq (List.perm_cons x |>.mp p) (bn.mp ha).2 (bn.mp hb).2 fun u hu v hv=>hs u (.tail _ hu) v (.tail _ hv)]
theorem ie (lt:V→V→Bool) (k:V×V):∀ l,(insOne lt k l).Perm (k::l)
 | []=>.refl _
 | y::ys=>by
  rw [insOne]
  split
  ·exact .refl _
  ·exact ((ie lt k ys).cons y).trans (.swap k y ys)
theorem ig (lt:V→V→Bool):∀ l,(insAll lt l).Perm l
 | []=>.refl _
 | x::xs=>(ie lt x _).trans ((ig lt xs).cons x)
theorem iU {lt:V→V→Bool} {k:V×V}:∀ {l:List (V×V)},(∀ x∈l,lt k.1 x.1=true∨lt x.1 k.1=true)→(∀ x∈l,∀ y∈l,lt k.1 x.1=true→lt x.1 y.1=true→lt k.1 y.1=true) →
  l.Pairwise (fun a b=>lt a.1 b.1=true)→(insOne lt k l).Pairwise (fun a b=>lt a.1 b.1=true)
 | [],_,_,_=>by simp [insOne]
 | y::ys,h1,h2,hp=>by
  rw [insOne]
  have hp':=bn.mp hp
  split
  ·rename_i hk
   refine bn.mpr ⟨fun z hz=>?_,hp⟩
   rcases az.mp hz with rfl | hz
   ·exact hk
   ·exact h2 y (.head _) z (.tail _ hz) hk (hp'.1 z hz)
  ·rename_i hk
   refine bn.mpr ⟨fun z hz=>?_,iU (fun x hx=>h1 x (.tail _ hx)) (fun x hx z hz=>h2 x (.tail _ hx) z (.tail _ hz)) hp'.2⟩
   rcases az.mp ((ie lt k ys).mem_iff.mp hz) with rfl | hz
   ·exact (h1 y (.head _)).resolve_left hk
   ·exact hp'.1 z hz
noncomputable def kAt (ks:List V) (i:Nat):V:=ks.getD i .none
noncomputable def ltI (σ:Hp) (ks:List V) (i j:Nat):Bool:=ltB σ (kAt ks i) (kAt ks j)
theorem gF {ks:List V} {i:Nat} (h:i < ks.length):kAt ks i∈ks:=by
 unfold kAt
 rw [bK,ak h]
 exact cy h
theorem mH {σ:Hp}:∀ {ks:List V},apart σ ks=true→∀ i j,i < j→j < ks.length→ltI σ ks i j=true∨ltI σ ks j i=true
 | [],_,i,j,_,h=>by simp at h
 | a::r,h,i,j,hij,hj=>by
  rw [apart,aS] at h
  cases j with
  | zero=>grind
  | succ j=>
   cases i with
   | zero=>
    have:=ax.mp h.1 (kAt r j) (gF (by simpa using hj))
    rw [eK] at this
    exact this
   | succ i=>exact mH h.2 i j (by grind) (by simpa using hj)
theorem sr {σ:Hp} {ks:List V} (h1:strict σ ks=true) (h2:apart σ ks=true):SLt ks.length (ltI σ ks):=by
 unfold strict at h1
 rw [aS,aS] at h1
 obtain⟨⟨_,hir⟩,htr⟩:=h1
 have irr:∀ i,i < ks.length→ltI σ ks i i=false:=fun i hi=>by
  have:=ax.mp hir _ (gF hi)
  simpa [ltI] using this
 have tr:∀ i j k,i < ks.length→j < ks.length→k < ks.length→ltI σ ks i j=true→ltI σ ks j k=true→ltI σ ks i k=true:=fun i j k hi hj hk a b=>by
  have:=ax.mp (ax.mp (ax.mp htr _ (gF hi)) _ (gF hj)) _ (gF hk)
  unfold ltI at a b ⊢
  rw [a,b] at this
  simpa using this
 refine⟨fun i j hi hj a=>?_,tr,fun i j hi hj hne=>?_⟩
 ·cases q:ltI σ ks j i with
  | false=>rfl
  | true=>have:=tr i j i hi hj hi a q;rw [irr i hi] at this;cases this
 ·rcases fP hne with h | h
  ·exact mH h2 i j h hj
  ·exact (mH h2 j i h hi).symm
theorem mU {σ:Hp}:∀ (ps:List (V×V)),strict σ (ps.map (·.1))=true→apart σ (ps.map (·.1))=true→(insAll (ltB σ) ps).Pairwise (fun a b=>ltB σ a.1 b.1=true):=by
 intro ps h1 h2
 have tr:∀ x∈ps,∀ y∈ps,∀ z∈ps,ltB σ x.1 y.1=true→ltB σ y.1 z.1=true→ltB σ x.1 z.1=true:=by
  unfold strict at h1
  rw [aS,aS] at h1
  intro x hx y hy z hz a b
  have:=ax.mp (ax.mp (ax.mp h1.2 _ (dw hx)) _ (dw hy)) _ (dw hz)
  rw [a,b] at this
  simpa using this
 clear h1
 induction ps with
 | nil=>simp [insAll]
 | cons p ps ih=>
  rw [aZ,apart,aS] at h2
  rw [insAll]
  have mem:∀ x,x∈insAll (ltB σ) ps→x∈ps:=fun x hx=>(ig _ ps).mem_iff.mp hx
  refine iU (fun x hx=>?_) (fun x hx y hy=>tr p (.head _) x (.tail _ (mem x hx)) y (.tail _ (mem y hy))) (ih h2.2 fun x hx y hy z hz=>tr x (.tail _ hx) y (.tail _ hy) z (.tail _ hz))
  have:=ax.mp h2.1 _ (dw (f:=(·.1)) (mem x hx))
  rw [eK] at this
  exact this
theorem sX {α:Type} (l:List α) (x:α):(bZ l.length).map (fun i=>l.getD i x)=l:=by
 refine List.ext_getElem (by simp) fun i h1 h2=>?_
 simp [h2]
theorem uX {σ:Hp} {ps:List (V×V)} {p:Array Nat} (h1:strict σ (ps.map (·.1))=true) (h2:apart σ (ps.map (·.1))=true) (P:IsP ps.length p) (ha:Asc (ltI σ (ps.map (·.1))) p ps.length) :
  p.toList.map (fun i=>ps.getD i (.none,.none))=insAll (ltB σ) ps:=by
 have S:=sr h1 h2
 rw [ae] at S
 have key:∀ i,kAt (ps.map (·.1)) i=(ps.getD i (.none,.none)).1:=fun i=>by
  unfold kAt
  rw [bK,aN,bK]
  cases ps[i]?<;>rfl
 refine uniq (R:=fun a b=>ltB σ a.1 b.1=true) ?_ ?_ (mU ps h1 h2) fun x hx y hy a b=>?_
 ·refine ((P.perm.map _).trans ?_).trans (ig _ ps).symm
  rw [sX]
 ·rw [kF,fR]
  intro i j hi hj hij
  have:=ha i j hij (by rw [cu,P.size] at hj;exact hj)
  unfold ltI at this
  rw [key,key] at this
  have e1:p.toList[i]=K p i:=by
   have:=wf (p:=p) (i:=i) (by simpa using hi)
   rw [←ba,ak hi] at this
   exact Option.some.inj this
  have e2:p.toList[j]=K p j:=by
   have:=wf (p:=p) (i:=j) (by simpa using hj)
   rw [←ba,ak hj] at this
   exact Option.some.inj this
  rw [e1,e2]
  exact this
 ·obtain⟨i,hi,rfl⟩:=bE.mp hx
  obtain⟨j,hj,rfl⟩:=bE.mp hy
  have hi':i < ps.length:=cQ.mp (P.perm.mem_iff.mp hi)
  have hj':j < ps.length:=cQ.mp (P.perm.mem_iff.mp hj)
  have:=S.asym i j hi' hj' (by unfold ltI;rw [key,key];exact a)
  unfold ltI at this
  rw [key,key,b] at this
  cases this
section
variable {α:Type} {prog:Program} {w:World} {A:Around} {E:Value→Shared→Prop} {s:Shared}
theorem li (ks vs:List Value) (i:Nat) (hk:i < ks.length) (hv:i < vs.length):kas_item (ks.toArray.zip vs.toArray) i=(ks.getD i .none,vs.getD i .none):=by
 unfold kas_item
 have:i < min ks.length vs.length:=by grind
 simp [wh,hk,hv,this]
def Sorted (lt:Nat→Nat→Bool) (ks vs:List Value) (st':SortSt):Prop:=
 ∃ p:Array Nat,IsP vs.length p∧Asc lt p vs.length∧arrOf st'=p.map (kas_item (ks.toArray.zip vs.toArray))∧failedOf st'=none
theorem tZ (κ:SortKind) {ks vs:List Value} (hn:ks.length=vs.length):SortSt.mk' κ (ks.toArray.zip vs.toArray) #[] 7 none=kas_st κ (ks.toArray.zip vs.toArray) (kD (bZ vs.length)):=by
 have hzip:(ks.toArray.zip vs.toArray).size=vs.length:=by simp [hn]
 have e:=kas_range (ks.toArray.zip vs.toArray)
 rw [hzip] at e
 show _=SortSt.mk' κ ((kD (bZ vs.length)).map (kas_item (ks.toArray.zip vs.toArray))) #[] 7 none
 rw [e]
theorem lL {κ:SortKind} {ks vs:List Value} {lt:Nat→Nat→Bool} (hn:ks.length=vs.length) (h2:vs.length < 2):Sorted lt ks vs (SortSt.mk' κ (ks.toArray.zip vs.toArray) #[] 7 none):=by
 rw [tZ κ hn]
 exact⟨kD (bZ vs.length),⟨by simp,by simp⟩,fun i j a b=>by grind,rfl,rfl⟩
theorem nH {ks vs:List Value} {lt:Nat→Nat→Bool} (hn:ks.length=vs.length) (h2:¬vs.length < 2) (h64:vs.length < 64) (S:SLt vs.length lt)
  (hlt:∀ (i j:Nat) (C:Bool→Shared→Prop),i < vs.length→j < vs.length→C (lt i j) s→wpAny (model prog w) A (keyLt' oneType' (ks.getD i Value.none) (ks.getD j Value.none)) C (fun _ _=>False) s) :
  wpAny (model prog w) A (sortRuns'.run (SortSt.mk' oneType' (ks.toArray.zip vs.toArray) #[] 7 none)) (fun r s'=>s'=s∧Sorted lt ks vs r.2) E s:=by
 have run:=kas_runs (E:=E) (prog:=prog) (w:=w) (A:=A) (κ:=oneType') (it:=ks.toArray.zip vs.toArray) (G:=fun p s'=>s'=s∧IsP vs.length p∧Asc lt p vs.length)
  (Q:=fun _ st' s'=>s'=s∧Sorted lt ks vs st')
  (by grind:2≤vs.length) h64 (fun p' st' s' a1 a2 a3 a4=>⟨a4.1,p',a4.2.1,a4.2.2,a2,a3⟩)
  (qR (N:=vs.length) (lt:=lt) (fun s'=>s'=s) (fun i j C s' hi hj hs hC=>by
   subst hs
   show wpAny _ _ (keyLt' oneType' (kas_item (ks.toArray.zip vs.toArray) i).1 (kas_item (ks.toArray.zip vs.toArray) j).1) C _ _
   rw [li ks vs i (by grind) hi,li ks vs j (by grind) hj]
   exact hlt i j C hi hj (hC _ rfl)) _ s s rfl (u4 (Q:=fun p _=>IsP vs.length p∧Asc lt p vs.length) S (by grind) fun p a b=>⟨a,b⟩) fun p s' hs hp=>⟨hs,hp⟩)
 rw [tZ oneType' hn]
 exact run
end
structure But (a:Addr) (h h':Heap):Prop where
 old:∀ b o,b≠a→h.get? b=some o→h'.get? b=some o
 size:h.objs.size≤h'.objs.size
theorem But.trans {a:Addr} {h h' h'':Heap} (x:But a h h') (y:But a h' h''):But a h h'':=⟨fun b o n e=>y.old b o n (x.old b o n e),aj x.size y.size⟩
theorem But.upd {a:Addr} {h:Heap} (f:Obj→Obj):But a h (h.update a f):=⟨fun b o n e=>(aI _ _ (Ne.symm n)).trans e,by rw [aO];exact am _⟩
theorem But.push {a:Addr} {h:Heap} (o:Obj):But a h (h.push o):=⟨fun b o' _ e=>af _ e,by rw [aH];exact bv _⟩
theorem qz (ks vs:List Value) (p:Array Nat) (n:Nat) (hk:ks.length=n) (hv:vs.length=n) (P:IsP n p) :
  (p.map (kas_item (ks.toArray.zip vs.toArray))).map (·.2)=(p.toList.map fun i=>vs.getD i .none).toArray:=by
 apply Array.toList_inj.mp
 rw [Array.map_map,Array.toList_map]
 refine cO fun i hi=>?_
 have:i < n:=cQ.mp (P.perm.mem_iff.mp hi)
 show (kas_item (ks.toArray.zip vs.toArray) i).2=_
 rw [li ks vs i (by rw [hk];exact this) (by rw [hv];exact this)]
section
variable {prog:Program} {w:World} {A:Around} {E:Value→Shared→Prop} {s:Shared}
theorem line64 {n:Nat} (h:n < 64):n≤sizeLine:=aj (aW h) (by rw [pf];decide)
theorem qN {a:Addr} {vs:List Value} {n:Nat} {lt:Nat→Nat→Bool} {P:PySem.Fin→Shared→Prop} (ho:s.heap.get? a=some (lobj vs.toArray n)) (h64:vs.length < 64) (S:SLt vs.length lt)
  (hT:∀ h',But a s.heap h'→2≤vs.length→∃ T:Value,(∀ v∈vs,Looks (model prog w) h' (typeOf v) T)∧(T != Value.type "tuple")=true∧(T == T)=true)
  (hlt:∀ h',But a s.heap h'→∀ (i j:Nat) (C:Bool→Shared→Prop),i < vs.length→j < vs.length→C (lt i j) { s with heap:=h' } →
   wpAny (model prog w) A (keyLt' oneType' (vs.getD i Value.none) (vs.getD j Value.none)) C (fun _ _=>False) { s with heap:=h' })
  (h:∀ h' p c,But a s.heap h'→IsP vs.length p→Asc lt p vs.length→h'.get? a=some (lobj (p.toList.map fun i=>vs.getD i .none).toArray c)→P (.done (.ret .none)) { s with heap:=h' }) :
  wpAny (model prog w) A (Builtin.«list.sort» ⟨[.ref a],[]⟩) P E s:=by
 have ha:a < s.heap.objs.size:=au ho
 rw [list_sort_plain]
 refine wpAny_bind (listItems_at ho rfl ?_)
 refine wpAny_bind (listUpdate_at ho rfl ?_ (by rw [cH];exact line64 h64) (aD _))
 obtain⟨e1,ho1⟩:∃ e1,(s.heap.update a (aR fun _=>(#[]:Array Value))).get? a=some (lobj #[] e1):=⟨_,get?_update_seq ho fun _=>#[]⟩
 refine wpAny_bind (seqEpoch_at ho1 rfl ?_)
 refine wpAny_bind (wpAny_newTuple ?_ (line64 h64))
 refine wpAny_bind (wpAny_newList ?_ (aD _))
 refine wpAny_holding ?_
 have B3:But a s.heap (((s.heap.update a (aR fun _=>(#[]:Array Value))).push (tobj vs.toArray 0)).push (lobj #[] 0)):=((But.upd _).trans (.push _)).trans (.push _)
 have ho3:(((s.heap.update a (aR fun _=>(#[]:Array Value))).push (tobj vs.toArray 0)).push (lobj #[] 0)).get? a=some (lobj #[] e1):=af _ (af _ ho1)
 show wpAny (model prog w) A _ P E { s with heap:=((s.heap.update a (aR fun _=>(#[]:Array Value))).push (tobj vs.toArray 0)).push (lobj #[] 0) }
 generalize ((s.heap.update a (aR fun _=>(#[]:Array Value))).push (tobj vs.toArray 0)).push (lobj #[] 0)=h3 at B3 ho3
 dsimp only
 have hsz:vs.toArray.size=vs.length:=cH ..
 have fin:∀ st',Sorted lt vs vs st'→∀ tail:Sem PySem.Fin,tail=(do
   let sorted:=(arrOf st').map (·.2)
   let touched:=(← seqEpoch a) != e1
   Builtin.List.listUpdate (.ref a) fun _=>sorted
   if let some e:=failedOf st' then rule "list.sort.comparison-raised";throw e
   if touched then rule "list.sort.modified";raiseError "ValueError" "list modified during sort"
   ret .none)→wpAny (model prog w) A tail P E { s with heap:=h3 }:=by
  rintro st' ⟨p,IP,ap,har,hf⟩ tail rfl
  rw [har,qz vs vs p _ rfl rfl IP]
  refine wpAny_bind (seqEpoch_at ho3 rfl ?_)
  have hz:(p.toList.map fun i=>vs.getD i Value.none).toArray.size=vs.length:=by rw [cH,ae,cu,IP.size]
  refine wpAny_bind (listUpdate_at ho3 rfl ?_ (aD _) (aj (bS hz) (cq (line64 h64))))
  rw [hf]
  simp only [bne_self_eq_false,be,if_false]
  obtain⟨c,hc⟩:∃ c,(h3.update a (aR fun _=>(p.toList.map fun i=>vs.getD i Value.none).toArray)).get? a=some (lobj (p.toList.map fun i=>vs.getD i Value.none).toArray c):=⟨_,get?_update_seq ho3 fun _=>_⟩
  exact wpAny_pure (h _ p c (B3.trans (.upd _)) IP ap hc)
 by_cases h2:vs.length < 2
 ·rw [if_pos (by rw [hsz];exact h2)]
  refine wpAny_bind (wpAny_pure ?_)
  simp only [if_pos (show vs.toArray.size < 2 by rw [hsz];exact h2)]
  refine wpAny_bind (wpAny_pure ?_)
  exact fin _ (lL rfl h2) _ rfl
 ·rw [if_neg (by rw [hsz];exact h2)]
  obtain⟨T,t1,t2,t3⟩:=hT h3 B3 (dq h2)
  refine wpAny_bind (kas_kind (dq h2) t1 t2 t3 ?_)
  simp only [if_neg (show ¬vs.toArray.size < 2 by rw [hsz];exact h2)]
  refine wpAny_bind (wpAny_mono (nH rfl h2 h64 S (hlt h3 B3)) ?_ fun _ _ e=>e)
  rintro⟨⟨⟩,st'⟩ s' ⟨rfl,hs⟩
  exact fin _ hs _ rfl
theorem nG {l:Addr} {vs:List Value} {kw:List (Str×Value)} {Q:Value→Shared→Prop} (hl:s.heap.IsList l vs.toArray) (h64:vs.length < 64)
  (ha1:argsOk "sorted" ⟨[.ref l],kw⟩) (ha2:∀ x,argsOk "list.sort" ⟨[.ref x],kw⟩)
  (h:∀ D h',(∀ b o,s.heap.get? b=some o→h'.get? b=some o)→s.heap.objs.size≤D→D < h'.objs.size→h'.get? D=some (lobj vs.toArray 0) →
   wpAny (model prog w) A.in1.in1 (Builtin.«list.sort» ⟨[.ref D],kw⟩) (fun fin s'=>fin = .done (.ret .none)∧Q (.ref D) s') E { s with heap:=h' }) :
  wpAny (model prog w) A (call (.builtin "sorted") [.ref l] kw) Q E s:=by
 refine call_function_entry_kw kind_sorted plain_sorted entry_sorted ha1 ?_
 unfold Builtin.«sorted»
 refine wpAny_bind (m:=checkCount "sorted" 1 1 _) (wpAny_pure ?_)
 refine wpAny_bind (collect_list hl ?_ (line64 h64))
 refine wpAny_bind (wpAny_newList ?_ (line64 h64))
 have hsz:((s.heap.push (seqObj "list" #[] 0)).update s.heap.objs.size (aR (·++vs.toArray))).objs.size=s.heap.objs.size+1:=by
  rw [Heap.size_update,size_push']
 have hoL:(((s.heap.push (seqObj "list" #[] 0)).update s.heap.objs.size (aR (·++vs.toArray))).push (seqObj "list" vs.toArray 0)).get? (s.heap.objs.size+1)=some (seqObj "list" vs.toArray 0):=by
  rw [←hsz];exact ao _ rfl
 have keep:∀ b o,s.heap.get? b=some o→(((s.heap.push (seqObj "list" #[] 0)).update s.heap.objs.size (aR (·++vs.toArray))).push (seqObj "list" vs.toArray 0)).get? b=some o:=fun b o q=>by
  have hlt:b < s.heap.objs.size:=au q
  rw [yU _ _ _ (by rw [hsz];exact aP (cK hlt)),Heap.get?_update_ne _ _ _ _ (aP hlt),yU _ _ _ (aP hlt)]
  exact q
 show wpAny _ _ _ _ _ { s with heap:=((s.heap.push (seqObj "list" #[] 0)).update s.heap.objs.size (aR (·++vs.toArray))).push (seqObj "list" vs.toArray 0) }
 rw [hsz]
 refine wpAny_bind (wpAny_holding (wpAny_call_entry_kw slot_list_sort ⟨_,hoL,rfl⟩ entry_list_sort ?body (ha2 _)))
 exact wpAny_mono (h _ _ keep (bv _) (au hoL) hoL) (fun fin s' hq=>by
  obtain⟨rfl,hq⟩:=hq
  exact⟨_,rfl,wpAny_pure ⟨_,rfl,hq⟩⟩) fun _ _ e=>e
theorem z9 {a b:Addr} {xs ys:Array Value} {n k:Nat} {r:Bool} {Q:Bool→Shared→Prop} (hu:A.units < cLine) (h1:s.heap.get? a=some (lobj xs n)) (h2:s.heap.get? b=some (lobj ys k)) (hx:Lex true A.in1 s r xs.toList ys.toList) (hq:Q r s) :
  wpAny (model prog w) A (keyLt' oneType' (.ref a) (.ref b)) Q E s:=by
 rw [keyLt'_oneType,oneLt'_eq]
 simp only [if_true]
 refine wpAny_bind (wpAny_cRoomFor hu ?_)
 exact wpAny_bind (wpAny_callSpecialIfBound?_slot (T:="list") ⟨_,h1,rfl⟩ F.slot_list_lt (call_meets F.slot_list_lt ⟨_,h1,rfl⟩ F.entry_list_lt (F.args_list_lt_2 _ _) (pd _ _ _ _ _ _ r) ⟨h1,h2,hx,wpAny_truthy_bool hq⟩))
end
section
variable {prog:Program} {w:World} {A:Around} {B:Shared} {fs:List Env} {hd:Option Value} {σ:Hp} {ρ:List Addr} {s:Shared}
structure SortOk (σ:Hp) (ps:List (V×V)) (r:List V):Prop where
 n:ps.length < 60
 kind:(∀ k∈ps.map (·.1),kindV k=1)∨(∀ k∈ps.map (·.1),kindV k=2)
 strict:strict σ (ps.map (·.1))=true
 apart:apart σ (ps.map (·.1))=true
 e:r=(insAll (ltB σ) ps).map (·.2)
theorem iP {ps:List (V×V)} {r:List V} (h:sortPairs σ ps=some r):SortOk σ ps r:=by
 unfold sortPairs at h
 dsimp only at h
 split at h
 ·rename_i hc
  obtain⟨a,b,c,d⟩:=hc
  exact⟨a,(jn.mp b).imp (fun b k hk=>eq_of_beq (ax.mp b k hk)) (fun b k hk=>eq_of_beq (ax.mp b k hk)),c,d,(Option.some.inj h).symm⟩
 ·cases h
theorem kind1 {v:V} (h:kindV v=1):∃ l,v = .str l:=by
 refine opq fun G kk=>?_
 cases v with
 | str l=>exact kk ⟨l,rfl⟩
 | _=>exact eZ h rfl
theorem kind2 {v:V} (h:kindV v=2):∃ n,v = .loc n:=by
 refine opq fun G kk=>?_
 cases v with
 | loc l=>exact kk ⟨l,rfl⟩
 | _=>exact eZ h rfl
theorem VRs.getD {B h:Heap} {l:List V} {xs:List Value} (r:VRs B ρ h l xs) {i:Nat} (hi:i < l.length):VR B ρ h (l.getD i .none) (xs.getD i .none):=by
 obtain⟨x,h1,h2⟩:=r.get (ak hi)
 rw [bK,ak hi,bK,h1]
 exact h2
theorem VRs.pick {B h:Heap} {l:List V} {xs:List Value} (r:VRs B ρ h l xs):∀ (is:List Nat),(∀ i∈is,i < l.length)→VRs B ρ h (is.map fun i=>l.getD i .none) (is.map fun i=>xs.getD i .none)
 | [],_=>.nil
 | i::is,h=>.cons (r.getD (h i (.head _))) (VRs.pick r is fun j hj=>h j (.tail _ hj))
theorem nX (I:InvH B fs hd ρ s σ) {ks:List V} {xs:List Value} (r:VRs B.heap ρ s.heap ks xs) (hk:(∀ k∈ks,kindV k=1)∨(∀ k∈ks,kindV k=2)) :
  ∃ T:Value,(∀ v∈xs,Looks (model prog w) s.heap (typeOf v) T)∧(T != Value.type "tuple")=true∧(T == T)=true:=by
 have at_:∀ v∈xs,∃ k∈ks,VR B.heap ρ s.heap k v:=fun v hv=>by
  obtain⟨i,hi⟩:=bJ hv
  have hlt:i < ks.length:=by rw [←r.length];exact (ag.mp hi).1
  obtain⟨x,h1,h2⟩:=r.get (ak hlt)
  rw [hi] at h1;cases h1
  exact⟨_,cy hlt,h2⟩
 rcases hk with hk | hk
 ·refine⟨.type "str",fun v hv=>?_,by decide,by decide⟩
  obtain⟨k,h1,h2⟩:=at_ v hv
  obtain⟨l,rfl⟩:=kind1 (hk k h1)
  obtain⟨_,t,rfl⟩:=h2
  exact Looks.of_pure rfl
 ·refine⟨.type "list",fun v hv=>?_,by decide,by decide⟩
  obtain⟨k,h1,h2⟩:=at_ v hv
  obtain⟨n,rfl⟩:=kind2 (hk k h1)
  obtain⟨_,ha,rfl⟩:=h2
  obtain⟨xs,q,e⟩:=I.at (ac ha)
  exact (Looks.ld (part:=none) e).andThen .now
theorem ui (I:InvH B fs hd ρ s σ) {ks:List V} {xs:List Value} (r:VRs B.heap ρ s.heap ks xs) (hk:(∀ k∈ks,kindV k=1)∨(∀ k∈ks,kindV k=2)) (hs:strict σ ks=true) (hu:A.units+10 < cLine) {i j:Nat} (hi:i < ks.length) (hj:j < ks.length)
  {C:Bool→Shared→Prop} {E:Value→Shared→Prop} (hC:C (ltI σ ks i j) s):wpAny (model prog w) A (keyLt' oneType' (xs.getD i Value.none) (xs.getD j Value.none)) C E s:=by
 have r1:=r.getD hi
 have r2:=r.getD hj
 have m1:ks.getD i .none∈ks:=gF hi
 have m2:ks.getD j .none∈ks:=gF hj
 have hv:vlt σ DEPTH (ks.getD i .none) (ks.getD j .none)=some (ltI σ ks i j):=by
  unfold strict at hs
  rw [aS,aS] at hs
  have:=ax.mp (ax.mp hs.1.1 _ m1) _ m2
  obtain⟨b,e⟩:=Option.isSome_iff_exists.mp this
  show _=some (ltB σ (ks.getD i .none) (ks.getD j .none))
  unfold ltB
  rw [e]
  rfl
 generalize ks.getD i .none=x at r1 m1 hv
 generalize ks.getD j .none=y at r2 m2 hv
 generalize ltI σ ks i j=b at hC hv
 rcases hk with hk | hk
 ·obtain⟨p,rfl⟩:=kind1 (hk x m1)
  obtain⟨q,rfl⟩:=kind1 (hk y m2)
  obtain⟨_,t,e1⟩:=r1
  obtain⟨_,u,e2⟩:=r2
  rw [e1,e2]
  rw [←Option.some.inj hv] at hC
  exact kas_lt_str hC
 ·obtain⟨p,rfl⟩:=kind2 (hk x m1)
  obtain⟨q,rfl⟩:=kind2 (hk y m2)
  obtain⟨_,h1,e1⟩:=r1
  obtain⟨_,h2,e2⟩:=r2
  rw [e1,e2]
  cases gw hv with
  | loc _ _ l l' q1 q2 hv=>
   obtain⟨a1,xs1,k,f1,f2,f3,_⟩:=I.list _ _ q1
   obtain⟨a2,ys,k',g1,g2,g3,_⟩:=I.list _ _ q2
   cases h1.symm.trans f1
   cases h2.symm.trans g1
   have hu':A.in1.units+3 < cLine:=aC (by rw [show A.in1.units+3=A.units+4 from km _ 1 3];exact bP (show 4≤10 by decide) _) hu
   exact z9 (aC (aX _ _) hu) f2 g2 (pc (A:=A.in1) (fun q u v=>(lE I 3 hu' q u v).eq) (fun q u v=>wR I 3 hu' q u v) l hv f3 g3) hC
end
section
variable {prog:Program} {w:World} {A:Around} {d:D} {ρ:List Addr} {cv:Option V} {s:Shared} {st:St} {B:Shared} {fs:List Env} {hd:Option Value} {σ:Hp}
theorem InvH.up (I:InvH B fs hd ρ s σ) {h':Heap} {t:Nat} (k:∀ b o,s.heap.get? b=some o→h'.get? b=some o) (hs:s.heap.objs.size≤h'.objs.size):InvH B fs hd ρ { s with heap:=h',toks:=t } σ:=
 I.keep (fun b o _ e=>k b o e) (.of_all k hs) (fun a ha=>let ⟨_,_,e⟩:=I.at ha; (k a _ e).trans e.symm) rfl rfl
theorem VRs.up {B h h':Heap} {l:List V} {xs:List Value} (r:VRs B ρ h l xs) (k:∀ b o,h.get? b=some o→h'.get? b=some o) (hs:h.objs.size≤h'.objs.size):VRs B ρ h' l xs:=
 VRs.keep (.of_all k hs) dX (fun _ _ e=>e) r
theorem u8 {ps:List (V×V)} {p:Array Nat} (h1:strict σ (ps.map (·.1))=true) (h2:apart σ (ps.map (·.1))=true) (P:IsP ps.length p) (ha:Asc (ltI σ (ps.map (·.1))) p ps.length) :
  (insAll (ltB σ) ps).map (·.2)=p.toList.map fun i=>(ps.map (·.2)).getD i .none:=by
 rw [←uX h1 h2 P ha,c6]
 refine cO fun i _=>?_
 show (ps.getD i (.none,.none)).2=_
 rw [bK,bK,aN]
 cases ps[i]?<;>rfl
theorem ng (a:Value):argsOk "sorted" ⟨[a],[]⟩:=by unfold argsOk;kernel_rfl
theorem pL (a:Value):argsOk "list.sort" ⟨[a],[]⟩:=by unfold argsOk;kernel_rfl
theorem lY {B h:Heap} {ks l r:List V} {xs:List Value} {p:Array Nat} (c:SortOk σ (ks.zip l) r) (hkl:ks.length=l.length) (g:VRs B ρ h l xs) (P:IsP l.length p) (ha:Asc (ltI σ ks) p l.length):VRs B ρ h r (p.toList.map fun i=>xs.getD i .none):=by
 have h1:(ks.zip l).map (·.1)=ks:=eo (bS hkl)
 have h2:(ks.zip l).map (·.2)=l:=List.map_snd_zip (bS hkl.symm)
 have hz:(ks.zip l).length=l.length:=by rw [ip,hkl,io]
 rw [c.e,u8 c.strict c.apart (by rw [hz];exact P) (by rw [h1,hz];exact ha),h2]
 exact g.pick p.toList fun i hi=>cQ.mp (P.perm.mem_iff.mp hi)
theorem zb (l:List V):(l.map fun v=>(v,v))=l.zip l:=by
 induction l with
 | nil=>rfl
 | cons x l ih=>exact congrArg ((x,x)::·) ih
theorem r6 {x:V} {a:Value} (hu:A.units+20 < cLine) (I:Inv d ρ cv s st) (hx:VR d.B.heap ρ s.heap x a):TriP d ρ cv s (RVal d) (wpAny (model prog w) A (call (.builtin "sorted") [a])) (sortedV x st):=by
 refine TriP.onList I hx fun n l c1 xs q e L=>.onSome fun r er=>?_
 subst e
 have c:=iP er
 rw [zb] at c
 have hm:(l.zip l).map (·.1)=l:=eo (am _)
 have hk:=c.kind
 have hst:=c.strict
 have S:=sr c.strict c.apart
 rw [hm] at hk hst S
 have hlen:xs.toList.length=l.length:=L.r.length
 have h64:xs.toList.length < 64:=by rw [hlen];have:=c.n;rw [ip,io] at this;exact bw this (by decide)
 refine jB fun hl Q E hq=>nG (vs:=xs.toList) L.is h64 (ng _) (fun _=>pL _) fun D h2 k2 hD1 hD2 hD=>?_
 have all:∀ {h'},But D h2 h'→∀ b o,s.heap.get? b=some o→h'.get? b=some o:=fun bt b o e=>bt.old b o (fun q=>absurd (au e) (bf.mpr (by rw [q];exact hD1))) (k2 b o e)
 have sz:∀ {h'},But D h2 h'→s.heap.objs.size≤h'.objs.size:=fun bt=>aj (aj hD1 (aW hD2)) bt.size
 have hu':A.in1.in1.units+10 < cLine:=aC (by rw [show A.in1.in1.units+10=A.units+12 from by show A.units+1+1+10=_;rw [gO,gO]];exact bP (show 12≤20 by decide) _) hu
 refine qN (s:={ s with heap:=h2 }) (lt:=ltI st.hp l) hD h64 (by rw [hlen];exact S) (fun h' bt _=>?_) (fun h' bt i j C hi hj hC=>?_) fun h' p c' bt IP ap hD'=>?_
 ·exact nX (prog:=prog) (w:=w) (I.h.up (t:=s.toks) (all bt) (sz bt)) (L.r.up (all bt) (sz bt)) hk
 ·exact ui (I.h.up (t:=s.toks) (all bt) (sz bt)) (L.r.up (all bt) (sz bt)) hk hst hu' (by rw [←hlen];exact hi) (by rw [←hlen];exact hj) hC
 ·rw [hlen] at IP ap
  exact⟨rfl,hq (.ref D) _ _ (VR.new I.h.len) (Post.new I (all bt) (sz bt) hD1 hD' (lY c rfl L.r IP ap) hl)⟩
structure COk (A:Around) (fs:List Env) (n:Nat):Prop where
 frames:A.frames=some fs
 handled:A.handled=none
 units:A.units+100 * n+100≤cLine
 depth:A.depth+n < recursionLimit
 kinds:∀ e∈fs,e.scope.kind ≠ .module
def CallC (prog:Program) (w:World) (B:Shared) (n:Nat) (fa:Addr) (call:List V→Hp→Option (V×Hp)):Prop:=
 ∀ (fs:List Env) (A:Around),COk A fs n→∀ (ρ:List Addr) (s:Shared) (σ:Hp) (vs:List V) (xs:List Value) (v:V) (σ':Hp),InvH B fs none ρ s σ→VRs B.heap ρ s.heap vs xs→0 < s.toks→call vs σ=some (v,σ') →
  ∀ (Q:Value→Shared→Prop) (E:Value→Shared→Prop),(∀ a s' ρ',InvH B fs none ρ' s' σ'→Keep (·∈ρ) s.heap s'.heap→Grow ρ s.heap ρ'→VR B.heap ρ' s'.heap v a→0 < s'.toks→Q a s') →
   wpAny (model prog w) A (PySem.call (.ref fa) xs) Q E s
theorem w6 {n:Nat} {f:Nat} {fa:Addr} {call:CallT} {vs:List V} {xs:List Value} (hC:CallC prog w d.B n fa (call f)) (hA:COk A d.fs n) (hd0:d.hd=none) (I:Inv d ρ cv s st) (hx:VRs d.B.heap ρ s.heap vs xs) :
  TriP d ρ cv s (RVal d) (wpAny (model prog w) A (PySem.call (.ref fa) xs)) (callR call f vs st):=by
 refine .onSome fun r e=>?_
 intro _ h0 Q E hq _
 exact hC d.fs A hA ρ s st.hp vs xs r.1 r.2 (by rw [←hd0];exact I.h) hx h0 e Q E fun a s' ρ' H k g v _=>hq r.1 _ a s' ρ' rfl v (Post.step I k g (by rw [hd0];exact H))
end
section
variable {prog:Program} {w:World} {A:Around} {d:D} {ρ:List Addr} {cv:Option V} {s:Shared} {st:St} {B:Shared} {fs:List Env} {hd:Option Value} {σ:Hp} {E:Value→Shared→Prop}
theorem dS {h:Heap} {a:Addr} {xs:Array Value} {n:Nat} (ho:h.get? a=some (lobj xs n)):Writ (fun b=>b=a) h:=fun b o e hb=>by
 subst hb
 exact gn e ho ⟨fun _ _ _=>rfl,fun vs q=>(nomatch q)⟩
theorem InvH.other (I:InvH B fs hd ρ s σ) {a:Addr} {xs:Array Value} {n:Nat} {h':Heap} {t:Nat} (na:a∉ρ) (hB:B.heap.get? a=none) (ho:s.heap.get? a=some (lobj xs n)) (hs:bk a s.heap h') :
  InvH B fs hd ρ { s with heap:=h',toks:=t } σ where
 base:=fun b o e=>(hs.2 b (fun q=>by rw [q,hB] at e;cases e)).trans (I.base b o e)
 gens:=I.gens
 os:=I.os
 len:=I.len
 list:=fun n' l e=>(I.list n' l e).keep (W:=fun b=>b=a) (.sameBut hs fun _=>rfl) (dS ho) (fun _ _ e=>e) fun b hb z=>na (by rw [←z];exact hb)
 nodup:=I.nodup
 fresh:=I.fresh
 frames:=fun e he=>(I.frames e he).keep (W:=fun b=>b=a) (.sameBut hs fun _=>rfl) fun L m _ h2 z=>by
  obtain⟨o,es,ep,e',hd,_⟩:=h2
  rw [z,ho] at e';cases e';cases hd
 hok:=I.hok.keep (W:=fun b=>b=a) (.sameBut hs fun _=>rfl) (dS ho)
theorem InvH.addL (I:InvH B fs hd ρ s σ) {a:Addr} {xs:Array Value} {k:Nat} {l:List V} (na:a∉ρ) (e:s.heap.get? a=some (lobj xs k)) (hB:B.heap.get? a=none) (r:VRs B.heap ρ s.heap l xs.toList) (hz:l.length≤LIM) :
  InvH B fs hd (ρ++[a]) s (σ++[l]):=I.newV (W:=fun _=>False) (h':=s.heap) (t:=s.toks) .refl dX I.base (fun _ _ f=>f) I.frames na hB e r hz
theorem m9 (a v:Value):argsOk "sorted" ⟨[a],[(bF "key",v)]⟩:=ksk_s1 a v
theorem pK (a v:Value):argsOk "list.sort" ⟨[a],[(bF "key",v)]⟩:=ksk_l1 a v
theorem dk {α β:Type} {r:Res α} {f:α→St→Res β} {b:β} {st':St} (h:r.bind f = .ok b st'):∃ a st1,r = .ok a st1∧f a st1 = .ok b st':=by
 cases r with
 | ok a st1=>exact⟨a,st1,rfl,h⟩
 | ex s=>cases h
 | bad=>cases h
theorem j4 {α β:Type} {o:Option α} {f:α→Res β} {b:β} {st':St} (h:onSome o f = .ok b st'):∃ a,o=some a∧f a = .ok b st':=by
 cases o with
 | none=>cases h
 | some a=>exact⟨a,rfl,h⟩
theorem nV {g:V→St→Res V} {x:V} {xs:List V} {ks:List V} {st st':St} (h:mapR g (x::xs) st = .ok ks st') :
  ∃ k st1 ks',g x st = .ok k st1∧mapR g xs st1 = .ok ks' st'∧ks=k::ks':=by
 obtain⟨k,st1,e1,h⟩:=dk h
 obtain⟨ks',st2,e2,h⟩:=dk h
 cases h
 exact⟨k,st1,ks',e1,e2,rfl⟩
theorem rq {call:CallT} {f:Nat} {vs:List V} {st st':St} {v:V} (h:callR call f vs st = .ok v st'):∃ σ',call f vs st.hp=some (v,σ')∧st'={ st with hp:=σ' }:=by
 obtain⟨r,e,h⟩:=j4 h
 cases h
 exact⟨r.2,e,rfl⟩
theorem tt {call:CallT} {f:Nat} {vs:List V} {st st':St}:callR call f vs st ≠ .ex st':=by
 unfold callR
 cases call f vs st.hp with
 | none=>exact fun h=>nomatch h
 | some r=>exact fun h=>nomatch h
section
variable {call:CallT} {f:Nat}
theorem qM {stF:St} (l:List V):∀ {ks:List V} {st:St},mapR (fun y st=>callR call f [y] st) l st = .ok ks stF→ks.length=l.length∧st.fv=stF.fv:=by
 induction l with
 | nil=>intro ks st e;cases e;exact⟨rfl,rfl⟩
 | cons x l ih=>
  intro ks st e
  obtain⟨k,st1,ks',a,b,rfl⟩:=nV e
  obtain⟨σ',_,rfl⟩:=rq a
  exact⟨congrArg (·+1) (ih b).1,(ih b).2⟩
theorem vm {st':St} (l:List V):∀ {st:St},mapR (fun y st=>callR call f [y] st) l st ≠ .ex st':=by
 induction l with
 | nil=>intro st e;cases e
 | cons y l ih=>
  intro st
  unfold mapR
  cases hg:callR call f [y] st with
  | ok k st2=>
   show (mapR (fun y st=>callR call f [y] st) l st2).bind _≠_
   cases hm:mapR (fun y st=>callR call f [y] st) l st2 with
   | ok ks st3=>exact fun e=>nomatch e
   | ex st3=>intro e;cases e;exact ih hm
   | bad=>exact fun e=>nomatch e
  | ex st2=>exact absurd hg tt
  | bad=>exact fun e=>nomatch e
end
theorem Grow.fresh {ρ ρ':List Addr} {h:Heap} (g:Grow ρ h ρ') {x:Addr} (n:x∉ρ) (hx:x < h.objs.size):x∉ρ':=by
 obtain⟨δ,rfl,hδ⟩:=g
 exact fun q=>(aU.mp q).elim n fun q=>absurd (hδ x q) (kh.mpr hx)
theorem Grow.keep {ρ ρ':List Addr} {h h1 h2:Heap} (g:Grow ρ h ρ') (k:Keep (·∈ρ) h h1) (k':Keep (·∈ρ') h1 h2):Keep (·∈ρ) h h2:=by
 obtain⟨δ,rfl,hδ⟩:=g
 exact k.trans k' fun b hb q=>(aU.mp q).elim id fun q=>absurd (hδ b q) (kh.mpr hb)
theorem Keep.other {W:Addr→Prop} {h h1 h2:Heap} {a:Addr} (k:Keep W h h1) (sb:bk a h1 h2) (ha:h.objs.size≤a):Keep W h h2:=
 k.trans (W':=fun b=>b=a) (.sameBut sb fun _=>rfl) fun b hb q=>absurd hb (bf.mpr (by rw [q];exact ha))
theorem Keep.exact {W:Addr→Prop} {h h':Heap} (k:Keep W h h') {a:Addr} {xs:Array Value} {c:Nat} (e:h.get? a=some (lobj xs c)) (nw:¬W a):h'.get? a=some (lobj xs c):=by
 obtain⟨o',e',_,_,_,x⟩:=k.old a _ e nw
 rw [x (.seq _ _ rfl)] at e'
 exact e'
inductive KeyI (B:Shared) (fs:List Env) (ρ₀:List Addr) (h₀:Heap) (D kS:Addr) (e1:Nat) (g:V→St→Res V) (ks:List V) (stF:St) (rest:List Value) (s':Shared):Prop
 | mk (ρ':List Addr) (st':St) (l' done ks':List V) (kA:Array Value) (c:Nat) (tk:0 < s'.toks) (H:InvH B fs none ρ' s' st'.hp) (K:Keep (·∈ρ₀) h₀ s'.heap) (G:Grow ρ₀ h₀ ρ')
  (hD:s'.heap.get? D=some (lobj #[] e1)) (hk:s'.heap.get? kS=some (lobj kA c)) (nD:D∉ρ') (nk:kS∉ρ') (rd:VRs B.heap ρ' s'.heap done kA.toList) (rl:VRs B.heap ρ' s'.heap l' rest) (hm:mapR g l' st' = .ok ks' stF) (e:ks=done++ks')
section
variable {D kS:Addr} {e1:Nat} {ks:List V} {stF:St} {call:CallT} {f:Nat} {s0:Shared}
inductive KeyT (B:Shared) (fs:List Env) (ρ₀:List Addr) (h₀:Heap) (D kS:Addr) (e1:Nat) (call:CallT) (f:Nat) (ks:List V) (stF:St) (x:Value) (rest:List Value) (s':Shared):Prop
 | mk (ρ':List Addr) (σ1 σ2:Hp) (y k:V) (H:InvH B fs none ρ' s' σ1) (r:VRs B.heap ρ' s'.heap [y] [x]) (tk:0 < s'.toks) (hc:call f [y] σ1=some (k,σ2))
  (next:∀ a s1 ρ1,InvH B fs none ρ1 s1 σ2→Keep (·∈ρ') s'.heap s1.heap→Grow ρ' s'.heap ρ1→VR B.heap ρ1 s1.heap k a→0 < s1.toks →
   ∃ kA c,s1.heap.get? kS=some (lobj kA c)∧kA.size < ks.length∧KeyI B fs ρ₀ h₀ D kS e1 (fun y st=>callR call f [y] st) ks stF rest { s1 with heap:=s1.heap.update kS (aR (·.push a)) })
theorem KeyI.turn (hDk:D≠kS) (hB:B.heap.get? kS=none) (hkS:s0.heap.objs.size≤kS) {x:Value} {rest:List Value} {s':Shared} (hI:KeyI B fs ρ s0.heap D kS e1 (fun y st=>callR call f [y] st) ks stF (x::rest) s') :
  KeyT B fs ρ s0.heap D kS e1 call f ks stF x rest s':=by
 obtain⟨ρ',st',l',done,ks',kA,c,htk,H,K,G,hD',hk',nD,nk,rd,rl,hm',hks⟩:=hI
 cases l' with
 | nil=>cases rl
 | cons y l'=>
  obtain⟨_,_,ry,rl,e⟩:=rl
  cases e
  obtain⟨k,st1,ks1,q1,q2,q3⟩:=nV hm'
  obtain⟨σ1,q4,q5⟩:=rq q1
  subst q5
  refine⟨ρ',_,σ1,y,k,H,.cons ry .nil,htk,q4,fun a s1 ρ1 H1 K1 G1 r1 ht1=>?_⟩
  have hk1:=K1.exact hk' nk
  have sb:=Heap.SameBut.update s1.heap kS (aR (·.push a))
  have K2:Keep (fun b=>b=kS) s1.heap (s1.heap.update kS (aR (·.push a))):=.sameBut sb fun _=>rfl
  have wr:=dS hk1
  have up:∀ {l:List V} {xs:List Value},VRs B.heap ρ' s'.heap l xs→VRs B.heap ρ1 (s1.heap.update kS (aR (·.push a))) l xs:=fun r=>VRs.keep K2 wr (fun _ _ e=>e) (VRs.keep K1 H.writ (fun _ _=>G1.get) r)
  refine⟨kA,c,hk1,by rw [hks,lens rd,aa,q3];exact cn (bo _),?_⟩
  refine⟨ρ1,_,l',done++[k],ks1,kA.push a,_,ht1,H1.other (G1.fresh nk (au hk')) hB hk1 sb,(G.keep K K1).other sb hkS,G.trans G1 K.size,(sb.2 D hDk).trans (K1.exact hD' nD),get?_update_seq hk1 (·.push a),G1.fresh nD (au hD'),G1.fresh nk (au hk'),?_,up rl,q2,by rw [hks,q3,aw];rfl⟩
  rw [dc]
  exact (VRs.cons (VR.keep K2 wr (fun _ _ e=>e) r1) .nil).append (up rd)
inductive KeyE (B:Shared) (fs:List Env) (ρ₀:List Addr) (h₀:Heap) (D kS:Addr) (e1:Nat) (ks:List V) (σF:Hp) (s':Shared):Prop
 | mk (ρ':List Addr) (kA:Array Value) (c:Nat) (H:InvH B fs none ρ' s' σF) (K:Keep (·∈ρ₀) h₀ s'.heap) (G:Grow ρ₀ h₀ ρ') (hD:s'.heap.get? D=some (lobj #[] e1)) (hk:s'.heap.get? kS=some (lobj kA c)) (nD:D∉ρ') (nk:kS∉ρ') (rd:VRs B.heap ρ' s'.heap ks kA.toList)
theorem KeyI.end {s':Shared} (hI:KeyI B fs ρ s0.heap D kS e1 (fun y st=>callR call f [y] st) ks stF [] s'):KeyE B fs ρ s0.heap D kS e1 ks stF.hp s':=by
 obtain⟨ρ',st',l',done,ks',kA,c,htk,H,K,G,hD',hk',nD,nk,rd,rl,hm',hks⟩:=hI
 cases l' with
 | nil=>
  cases hm'
  rw [al] at hks
  subst hks
  exact⟨ρ',kA,c,H,K,G,hD',hk',nD,nk,rd⟩
 | cons y l'=>obtain⟨_,_,_,_,e⟩:=rl;cases e
theorem Ac {ρ':List Addr} {kA ys:Array Value} {c:Nat} {s':Shared} {σF:Hp} {r:List V} (H:InvH B fs none ρ' s' σF) (K:Keep (·∈ρ) s0.heap s'.heap) (hD:s'.heap.get? D=some (lobj #[] e1)) (hk:s'.heap.get? kS=some (lobj kA c)) (nD:D∉ρ') (nk:kS∉ρ')
  (hDk:D≠kS) (hB:B.heap.get? kS=none) (hBD:B.heap.get? D=none) (hkS:s0.heap.objs.size≤kS) (hDs:s0.heap.objs.size≤D) (rr:VRs B.heap ρ' s'.heap r ys.toList) {h1 h2:Heap} (sb1:bk kS s'.heap h1) (sb2:bk D h1 h2) :
  InvH B fs none ρ' { s' with heap:=h2 } σF∧Keep (·∈ρ) s0.heap h2∧VRs B.heap ρ' h2 r ys.toList∧h1.get? D=some (lobj #[] e1):=by
 have hD2:h1.get? D=some (lobj #[] e1):=(sb1.2 D hDk).trans hD
 have H2:=(H.other (t:=s'.toks) nk hB hk sb1).other (t:=s'.toks) nD hBD hD2 sb2
 exact⟨H2,(K.other sb1 hkS).other sb2 hDs,VRs.keep (W:=fun b=>b=D) (.sameBut sb2 fun _=>rfl) (dS hD2) (fun _ _ e=>e) (VRs.keep (W:=fun b=>b=kS) (.sameBut sb1 fun _=>rfl) (dS hk) (fun _ _ e=>e) rr),hD2⟩
end
theorem vn {D fa:Addr} {n f:Nat} {call:CallT} {l ks:List V} {vs:List Value} {stF:St} {s0:Shared} {P:PySem.Fin→Shared→Prop} {h2:Heap} (hC:CallC prog w B n fa (call f)) (hA:COk A fs n)
  (I:InvH B fs none ρ s0 st.hp) (hk0:∀ b o,s0.heap.get? b=some o→h2.get? b=some o) (hDs:s0.heap.objs.size≤D) (h0:0 < s0.toks)
  (ho:h2.get? D=some (lobj vs.toArray 0)) (r:VRs B.heap ρ s0.heap l vs) (hm:mapR (fun y st=>callR call f [y] st) l st = .ok ks stF) (rr:List V) (hsp:SortOk stF.hp (ks.zip l) rr)
  (h:∀ s' ρ' ys c,InvH B fs none ρ' s' stF.hp→Keep (·∈ρ) s0.heap s'.heap→Grow ρ s0.heap ρ'→D∉ρ'→s'.heap.get? D=some (lobj ys c)→VRs B.heap ρ' s'.heap rr ys.toList→P (.done (.ret .none)) s') :
  wpAny (model prog w) A (Builtin.«list.sort» ⟨[.ref D],[(bF "key",.ref fa)]⟩) P E { s0 with heap:=h2 }:=by
 have hkl:=(qM l hm).1
 have hlv:vs.length=l.length:=r.length
 have h60:vs.length < 60:=by have:=hsp.n;rw [ip,hkl,io] at this;rw [hlv];exact this
 have h64:=line64 (bw h60 (show 60 < 64 by decide))
 have hD:D < h2.objs.size:=au ho
 have hs1:s0.heap.objs.size≤h2.objs.size:=aj hDs (aW hD)
 rw [ksk_t1]
 unfold ksk_tree
 refine wpAny_bind (listItems_at ho rfl (wpAny_bind (listUpdate_at ho rfl ?_ h64 (aD _))))
 obtain⟨e1,ho1⟩:∃ e1,(h2.update D (aR fun _=>(#[]:Array Value))).get? D=some (lobj #[] e1):=⟨_,get?_update_seq ho fun _=>#[]⟩
 refine wpAny_bind (seqEpoch_at ho1 rfl (wpAny_bind (wpAny_newTuple (wpAny_bind (wpAny_newList (wpAny_holding ?_) (aD _))) h64)))
 show wpAny (model prog w) A _ P E { s0 with heap:=((h2.update D (aR fun _=>(#[]:Array Value))).push (tobj vs.toArray 0)).push (lobj #[] 0) }
 have ho3:=af (lobj #[] 0) (af (tobj vs.toArray 0) ho1)
 have all3:∀ b o,s0.heap.get? b=some o→(((h2.update D (aR fun _=>(#[]:Array Value))).push (tobj vs.toArray 0)).push (lobj #[] 0)).get? b=some o:=fun b o e=>
  af _ (af _ ((aI _ _ (fun q=>absurd (au e) (bf.mpr (by rw [←q];exact hDs)))).trans (hk0 b o e)))
 have kSe:((h2.update D (aR fun _=>(#[]:Array Value))).push (tobj vs.toArray 0)).objs.size=h2.objs.size+1:=by rw [aH,aO]
 have hkS3:=ao ((h2.update D (aR fun _=>(#[]:Array Value))).push (tobj vs.toArray 0)) (o:=lobj #[] 0) rfl
 rw [kSe] at hkS3 ⊢
 have sz3:s0.heap.objs.size≤(((h2.update D (aR fun _=>(#[]:Array Value))).push (tobj vs.toArray 0)).push (lobj #[] 0)).objs.size:=by
  rw [aH,kSe];exact aj hs1 (aX _ 2)
 generalize ((h2.update D (aR fun _=>(#[]:Array Value))).push (tobj vs.toArray 0)).push (lobj #[] 0)=h3 at ho3 all3 hkS3 sz3
 have hkSs:s0.heap.objs.size≤h2.objs.size+1:=cq hs1
 have hDk:D≠h2.objs.size+1:=aP (cK hD)
 generalize h2.objs.size+1=kS at hkS3 hkSs hDk
 have hBk:=I.b_new hkSs
 unfold ksk_rest
 refine wpAny_bind (wpAny_rule (wpAny_bind (wpAny_mono (wpAny_forIn_array' _ (fun rest _ s'=>KeyI B fs ρ s0.heap D kS e1 (fun y st=>callR call f [y] st) ks stF rest s') (fun _ s'=>KeyI B fs ρ s0.heap D kS e1 (fun y st=>callR call f [y] st) ks stF [] s') ?turn (fun _ _ h=>h) _ _ ?init) ?fin fun _ _ e=>e)))
 case init=>exact⟨ρ,st,l,[],ks,#[],0,h0,I.up all3 sz3,.of_all all3 sz3,.refl,ho3,hkS3,I.ne_new hDs,I.ne_new hkSs,.nil,r.up all3 sz3,hm,rfl⟩
 case turn=>
  intro x rest u s' hI
  obtain⟨ρ',σ1,σ2,y,k,H,rx,htk,hc,next⟩:=hI.turn hDk hBk hkSs
  refine wpAny_bind (wpAny_attempt (hC fs A hA ρ' _ σ1 [y] [x] k σ2 H rx htk hc _ _ fun a s1 ρ1 H1 K1 G1 r1 ht1=>?_))
  obtain⟨kA,c,hk1,hz,hI'⟩:=next a s1 ρ1 H1 K1 G1 r1 ht1
  have hz:kA.size < sizeLine:=aE hz (by rw [hkl,←hlv];exact h64)
  exact wpAny_bind (listUpdate_at hk1 rfl (wpAny_pure hI') (aW hz) (by rw [y9];exact cq hz))
 case fin=>
  intro u s' hI
  obtain⟨ρ',kA,c,H,K,G,hD',hk',nD,nk,rd⟩:=hI.end
  have hkA:kA.toList.length=vs.length:=rd.length.trans (hkl.trans hlv.symm)
  have hm1:(ks.zip l).map (·.1)=ks:=eo (bS hkl)
  have hkind:=hsp.kind
  have hst:=hsp.strict
  have S:=sr hsp.strict hsp.apart
  rw [hm1] at hkind hst S
  rw [hkl,←hlv] at S
  refine wpAny_bind (listItems_at hk' rfl ?_)
  unfold ksk_end
  have fin:∀ stt,Sorted (ltI stF.hp ks) kA.toList vs stt→wpAny (model prog w) A (ksk_tail D false e1 (.ref kS) stt) P E s':=by
   rintro stt ⟨p,IP,ap,har,hf⟩
   unfold ksk_tail
   rw [har,qz kA.toList vs p _ hkA rfl IP]
   have hz:(p.toList.map fun i=>vs.getD i Value.none).toArray.size=vs.length:=by rw [cH,ae,cu,IP.size]
   have sb1:=Heap.SameBut.update s'.heap kS (aR fun _=>(#[]:Array Value))
   have sb2:=Heap.SameBut.update (s'.heap.update kS (aR fun _=>(#[]:Array Value))) D (aR fun _=>(p.toList.map fun i=>vs.getD i Value.none).toArray)
   rw [hlv] at IP ap
   obtain⟨H2,K2,r2,hD2⟩:=Ac H K hD' hk' nD nk hDk hBk (I.b_new hDs) hkSs hDs (ys:=(p.toList.map fun i=>vs.getD i Value.none).toArray) (lY hsp hkl (VRs.keep K I.writ (fun _ _=>G.get) r) IP ap) sb1 sb2
   refine wpAny_bind (listUpdate_at hk' rfl (wpAny_bind (wpAny_letGo (wpAny_bind (seqEpoch_at hD2 rfl (wpAny_bind (listUpdate_at hD2 rfl ?_ (aD _) (aj (bS hz) (cq h64)))))))) (by rw [lens rd,hkl,←hlv];exact h64) (aD _))
   rw [hf]
   simp only [bne_self_eq_false,be,if_false]
   exact wpAny_pure (h _ ρ' _ _ H2 K2 G nD (get?_update_seq hD2 fun _=>_) r2)
  have hsz:vs.toArray.size=vs.length:=cH ..
  simp only [be,if_false]
  by_cases h2:vs.length < 2
  ·rw [if_pos (by rw [hsz];exact h2)]
   refine wpAny_bind (wpAny_pure ?_)
   simp only [if_pos (show vs.toArray.size < 2 by rw [hsz];exact h2)]
   exact wpAny_bind (wpAny_pure (fin _ (lL hkA h2)))
  ·rw [if_neg (by rw [hsz];exact h2)]
   obtain⟨T,t1,t2,t3⟩:=nX (prog:=prog) (w:=w) H rd hkind
   refine wpAny_bind (kas_kind (vs:=kA.toList) (by rw [hkA];exact dq h2) t1 t2 t3 ?_)
   simp only [if_neg (show ¬vs.toArray.size < 2 by rw [hsz];exact h2)]
   have hu:A.units+10 < cLine:=by have:=hA.units;grind
   refine wpAny_bind (wpAny_mono (nH (lt:=ltI stF.hp ks) hkA h2 (bw h60 (by decide)) S fun i j C hi hj hC=>ui H rd hkind hst hu (by rw [hkl,←hlv];exact hi) (by rw [hkl,←hlv];exact hj) hC) ?_ fun _ _ e=>e)
   rintro⟨⟨⟩,stt⟩ s'' ⟨rfl,hs⟩
   exact fin _ hs
theorem uO {n f:Nat} {fa:Addr} {call:CallT} {x:V} {a:Value} (hC:CallC prog w d.B n fa (call f)) (hA:COk A.in1.in1 d.fs n) (hd0:d.hd=none) (I:Inv d ρ cv s st) (hx:VR d.B.heap ρ s.heap x a) :
  TriP d ρ cv s (RVal d) (wpAny (model prog w) A (PySem.call (.builtin "sorted") [a] [(bF "key",.ref fa)])) (sortKV call f x st):=by
 refine TriP.onList I hx fun m l c1 xs q e L=>?_
 subst e
 cases hm:mapR (fun y st=>callR call f [y] st) l st with
 | bad=>exact .bad
 | ex st1=>exact absurd hm (vm l)
 | ok ks stF=>
  refine TriP.onSome fun r er=>.ifb fun hl=>?_
  have c:=iP er
  obtain⟨hkl,hfv⟩:=qM l hm
  have h64:xs.toList.length < 64:=by have:=c.n;rw [ip,hkl,io] at this;rw [L.r.length];exact bw this (by decide)
  intro _ h0 Q E hq _
  refine nG (vs:=xs.toList) L.is h64 (m9 _ _) (fun _=>pK _ _) fun D h2 k2 hD1 hD2 hD=>?_
  have H0:InvH d.B d.fs none ρ s st.hp:=by rw [←hd0];exact I.h
  refine vn (s0:=s) (st:=st) (l:=l) (ks:=ks) (stF:=stF) hC hA H0 k2 hD1 h0 hD L.r hm r c fun s' ρ' ys c H K G nD hD' ry=>?_
  have H':InvH d.B d.fs d.hd (ρ'++[D]) s' (stF.hp++[r]):=by rw [hd0];exact H.addL nD hD' (I.h.b_new hD1) ry hl
  have G':Grow ρ s.heap (ρ'++[D]):=G.trans (h':=s.heap) ⟨[D],rfl,fun b hb=>by rw [ay.mp hb];exact hD1⟩ (am _)
  have pp:=Post.step I K G' H'
  rw [hfv] at pp
  exact⟨rfl,hq (.loc stF.hp.length) { stF with hp:=stF.hp++[r] } (.ref D) s' (ρ'++[D]) rfl (VR.new H.len) pp⟩
end
structure P where
 fnm:List (Str×NameKind)
 kinds:List (Str×NameKind)
 comp:Option Str
 hd:Bool
 ix:Bool
 cx:Bool
structure EnvOk (p:P) (d:D):Prop where
 fnm:d.fnm=p.fnm
 kinds:d.env.scope.names=p.kinds
 fn:d.env.scope.kind = .function
 comp:d.comp=p.comp
 gl:d.env.globals=mainGlobals
 bl:d.env.builtins=builtinsNs
 hd:p.hd=false→d.hd=none
 cx:d.cx=p.cx
section
variable {prog:Program} {w:World} {A:Around} {d:D} {ρ:List Addr} {cv:Option V} {s:Shared} {st:St}
def TE (prog:Program) (w:World) (A:Around) (d:D) (cv:Option V) (x:Expr) (f:St→Res V):Prop:=
 ∀ (ρ:List Addr) (s:Shared) (st:St),Inv d ρ cv s st→TriP d ρ cv s (RVal d) (wpAny (model prog w) A (eval x d.env)) (f st)
def TB (prog:Program) (w:World) (A:Around) (d:D) (cv:Option V) (x:Expr) (f:St→Res Bool):Prop:=
 ∀ (ρ:List Addr) (s:Shared) (st:St),Inv d ρ cv s st→TriP d ρ cv s RBool (wpAny (model prog w) A (isTrue x d.env (eval x d.env))) (f st)
def TEs (prog:Program) (w:World) (A:Around) (d:D) (cv:Option V) (xs:List Expr) (f:St→Res (List V)):Prop:=
 ∀ (pos:Pos) (ρ:List Addr) (s:Shared) (st:St),Inv d ρ cv s st→TriP d ρ cv s (RVals d) (wpAny (model prog w) A (spliced (backTo pos (starEach xs d.env)))) (f st)
variable {x y z:Expr} {f g k:St→Res V} {pos:Pos}
theorem Bt (op:Bop) (hx:TE prog w A d cv x f) (hy:TE prog w A d cv y g):TE prog w A d cv (.BinOp x (opOf op) y pos) fun st=>(f st).bind fun a st=>(g st).bind fun b st=>binop op a b st:=
 fun ρ s st I=>((hx ρ s st I).bind fun a st1 va s1 ρ1 _ r1 p1=>(hy ρ1 s1 st1 p1.inv).bind fun b st2 vb s2 ρ2 _ r2 p2=>zI op p2.inv (r1.post p1.inv p2) r2).imp fun _ _ h=>wpAny_BinOp h
theorem Bs (op:Cop) (hu:A.units+20 < cLine) (hm:behindInMarks (cOf op) y=false) (hx:TE prog w A d cv x f) (hy:TE prog w A d cv y g) :
  TE prog w A d cv (.Compare x [cOf op] [y] pos) fun st=>(f st).bind fun a st=>(g st).bind fun b st=>(lift (cmpop op a b st.hp) st).bind fun r st=>.ok (.bool r) st:=
 fun ρ s st I=>((hx ρ s st I).bind fun a st1 va s1 ρ1 _ r1 p1=>(hy ρ1 s1 st1 p1.inv).bind fun b st2 vb s2 ρ2 _ r2 p2=>kT op p2.inv (r1.post p1.inv p2) r2 hu).imp fun _ _ h=>wpAny_Compare1 h hm
theorem xo (he:∀ whole,isTrue x d.env whole=(do let v ← whole;standAt x.pos;holding [v] (truthy v))) (hx:TE prog w A d cv x f):TB prog w A d cv x fun st=>(f st).bind fun a st=>lift (truth st.hp a) st:=
 fun ρ s st I=>((hx ρ s st I).bind fun a st1 va s1 ρ1 _ r1 p1=>iB p1.inv r1).imp fun _ _ h=>wpAny_isTrue_value h (he _)
theorem Bx (op:Cop) (hu:A.units+20 < cLine) (hm:behindInMarks (cOf op) y=false) (hx:TE prog w A d cv x f) (hy:TE prog w A d cv y g) :
  TB prog w A d cv (.Compare x [cOf op] [y] pos) fun st=>(f st).bind fun a st=>(g st).bind fun b st=>lift (cmpop op a b st.hp) st:=fun ρ s st I=>
 ((hx ρ s st I).bind fun a st1 va s1 ρ1 _ r1 p1=>(hy ρ1 s1 st1 p1.inv).bind fun b st2 vb s2 ρ2 _ r2 p2=>by
  have e:lift (cmpop op a b st2.hp) st2=((lift (cmpop op a b st2.hp) st2).bind fun r st=>.ok (.bool r) st).bind fun v st=>lift (truth st.hp v) st:=by
   cases cmpop op a b st2.hp<;>rfl
  rw [e]
  exact (kT op p2.inv (r1.post p1.inv p2) r2 hu).bind fun c st3 vc s3 ρ3 _ r3 p3=>iB p3.inv r3).imp fun _ _ h=>wpAny_isTrue_Compare1 h hm
theorem Bw {h:St→Res Bool} (hx:TB prog w A d cv x h):TB prog w A d cv (.UnaryOp .Not x pos) fun st=>(h st).bind fun b st=>.ok (!b) st:=
 fun ρ s st I=>((hx ρ s st I).bind (F:=fun b Q _ s=>Q (!b) s) fun b st1 vb s1 ρ1 _ r1 p1=>.ok fun Q E hq=>by
  obtain rfl:vb=b:=r1
  exact hq _ s1 ρ1 rfl (.refl p1.inv)).imp fun _ _ h=>wpAny_isTrue_Not h
theorem Bv (hx:TE prog w A d cv x f) (hy:TE prog w A d cv y g) :
  TE prog w A d cv (.BoolOp .And [x,y] pos) fun st=>(f st).bind fun a st=>(lift (truth st.hp a) st).bind fun r st=>if r then g st else .ok a st:=
 fun ρ s st I=>((hx ρ s st I).bind (F:=fun v Q E s=>wpAny (model prog w) A (truthy v) (fun t s₂=>if t then wpAny (model prog w) A (eval y d.env) Q E s₂ else Q v s₂) E s) fun a st1 va s1 ρ1 _ r1 p1=>
  (iB p1.inv r1).bind (F:=fun t Q E s=>if t=true then wpAny (model prog w) A (eval y d.env) Q E s else Q va s) fun b st2 vb s2 ρ2 _ r2 p2=>by
   obtain rfl:vb=b:=r2
   cases vb with
   | true=>exact hy ρ2 s2 st2 p2.inv
   | false=>exact .ok fun Q E hq=>hq va s2 ρ2 (r1.post p1.inv p2) (.refl p2.inv)).imp fun _ _ h=>wpAny_And2 h
theorem Ck (hx:TE prog w A d cv x f) (hy:TE prog w A d cv y g) :
  TE prog w A d cv (.BoolOp .Or [x,y] pos) fun st=>(f st).bind fun a st=>(lift (truth st.hp a) st).bind fun r st=>if r then .ok a st else g st:=
 fun ρ s st I=>((hx ρ s st I).bind (F:=fun v Q E s=>wpAny (model prog w) A (truthy v) (fun t s₂=>if t then Q v s₂ else wpAny (model prog w) A (eval y d.env) Q E s₂) E s) fun a st1 va s1 ρ1 _ r1 p1=>
  (iB p1.inv r1).bind (F:=fun t Q E s=>if t=true then Q va s else wpAny (model prog w) A (eval y d.env) Q E s) fun b st2 vb s2 ρ2 _ r2 p2=>by
   obtain rfl:vb=b:=r2
   cases vb with
   | true=>exact .ok fun Q E hq=>hq va s2 ρ2 (r1.post p1.inv p2) (.refl p2.inv)
   | false=>exact hy ρ2 s2 st2 p2.inv).imp fun _ _ h=>wpAny_Or2 h
theorem xj (o1 o2:Cop) (hu:A.units+20 < cLine) (hm:behindInMarks (cOf o2) z=false) (hx:TE prog w A d cv x f) (hy:TE prog w A d cv y g) (hz:TE prog w A d cv z k) :
  TE prog w A d cv (.Compare x [cOf o1,cOf o2] [y,z] pos) fun st=>(f st).bind fun a st=>(g st).bind fun b st=>(lift (cmpop o1 a b st.hp) st).bind fun r st=>
   if r then (k st).bind fun c st=>(lift (cmpop o2 b c st.hp) st).bind fun r st=>.ok (.bool r) st else .ok (.bool false) st:=fun ρ s st I=>by
 refine ((hx ρ s st I).bind (F:=fun va Q E s=>wpAny (model prog w) A (compareChain pos va [cOf o1,cOf o2] [eval y d.env,eval z d.env]) Q E s) fun a st1 va s1 ρ1 _ r1 p1=>
  (((hy ρ1 s1 st1 p1.inv).bind (F:=fun vb Q E s=>wpAny (model prog w) A (compareOp (cOf o1) va vb) (fun c s₂=>wpAny (model prog w) A (truthy c)
   (fun t s₃=>if t then wpAny (model prog w) A (compareChain pos vb [cOf o2] [eval z d.env]) Q E s₃ else Q c s₃) E s₂) E s) fun b st2 vb s2 ρ2 _ r2 p2=>?_).imp fun _ _ h=>chain_link h)).imp fun _ _ h=>Compare_chain h (by show lastMarks [cOf o1,cOf o2] [y,z]=false;exact hm)
 have t1:=kT (prog:=prog) (w:=w) (A:=A) o1 p2.inv (r1.post p1.inv p2) r2 hu
 cases hc:cmpop o1 a b st2.hp with
 | none=>exact .bad
 | some r=>
  rw [hc] at t1
  have t2:TriP d ρ2 cv s2 (RVal d) (fun Q E s=>wpAny (model prog w) A (compareOp (cOf o1) va vb) (fun c s=>wpAny (model prog w) A (truthy c) (fun t s₃=>if t then wpAny (model prog w) A (compareChain pos vb [cOf o2] [eval z d.env]) Q E s₃ else Q c s₃) E s) E s)
    (((lift (some r) st2).bind fun r st=>.ok (.bool r) st).bind fun (_:V) (st:St)=>(if r then (k st).bind fun c st=>(lift (cmpop o2 b c st.hp) st).bind fun r st=>.ok (.bool r) st else .ok (.bool false) st:Res V)):=t1.bind (F:=fun c Q E s=>wpAny (model prog w) A (truthy c) (fun t s₃=>if t then wpAny (model prog w) A (compareChain pos vb [cOf o2] [eval z d.env]) Q E s₃ else Q c s₃) E s) fun c st3 vc s3 ρ3 ec r3 p3=>?_
  exact t2
  cases ec
  obtain rfl:=r3
  cases r with
  | true=>
   refine TriP.imp (fun Q E h=>wpAny_truthy_bool (chain_last h)) ((hz ρ3 s3 _ p3.inv).bind (F:=fun vc Q E s=>wpAny (model prog w) A (compareOp (cOf o2) vb vc) Q E s) fun c st4 vc s4 ρ4 _ r4 p4=>kT o2 p4.inv ((r2.post p2.inv p3).post p3.inv p4) r4 hu)
  | false=>exact .ok fun Q E hq=>wpAny_truthy_bool (hq (.bool false) s3 ρ3 (.bool false) (.refl p3.inv))
theorem Bo (hx:TE prog w A d cv x f):TE prog w A d cv (.UnaryOp .USub x pos) fun st=>(f st).bind fun a st=>onInt a fun i=>.ok (.int (-i)) st:=
 fun ρ s st I=>((hx ρ s st I).bind (F:=fun v Q E s=>wpAny (model prog w) A (unaryOp .USub v) Q E s) fun a st1 va s1 ρ1 _ r1 p1=>
  .onInt r1 fun i t e=>by subst e;exact .int p1.inv fun Q E h=>PySem.P.neg_int (h _ _)).imp fun _ _ h=>wpAny_UnaryOp h
theorem Bq {h:St→Res Bool} (ht:TB prog w A d cv x h) (hy:TE prog w A d cv y f) (hz:TE prog w A d cv z g):TE prog w A d cv (.IfExp x y z pos) fun st=>(h st).bind fun r st=>if r then f st else g st:=
 fun ρ s st I=>((ht ρ s st I).bind (F:=fun b Q E s=>if b then wpAny (model prog w) A (eval y d.env) Q E s else wpAny (model prog w) A (eval z d.env) Q E s) fun b st1 vb s1 ρ1 _ r1 p1=>by
  obtain rfl:vb=b:=r1
  cases vb with
  | true=>exact hy ρ1 s1 st1 p1.inv
  | false=>exact hz ρ1 s1 st1 p1.inv).imp fun _ _ h=>wpAny_IfExp h
theorem Br (hA:A.handled=d.hd) (hs:∀ o i,subscripted y false o i=operate [o,i] (getItem o i)) (hx:TE prog w A d cv x f) (hy:TE prog w A d cv y g) :
  TE prog w A d cv (.Subscript x y pos) fun st=>(f st).bind fun a st=>(g st).bind fun b st=>idxV a b st:=
 fun ρ s st I=>((hx ρ s st I).bind fun a st1 va s1 ρ1 _ r1 p1=>(hy ρ1 s1 st1 p1.inv).bind fun b st2 vb s2 ρ2 _ r2 p2=>zG hA p2.inv (r1.post p1.inv p2) r2 hs).imp fun _ _ h=>Subscript_ h
theorem sf {sp:Pos} (hx:TE prog w A d cv x f) (hy:TE prog w A d cv y g):TE prog w A d cv (.Subscript x (.Slice none (some y) none sp) pos) fun st=>(f st).bind fun a st=>(g st).bind fun b st=>onInt b fun j=>sliceV a .none (some j) st:=
 fun ρ s st I=>((hx ρ s st I).bind (F:=fun va Q E s=>wpAny (model prog w) A (eval (.Slice none (some y) none sp) d.env) (fun i s₂=>wpAny (model prog w) A (subscriptTail x (.Slice none (some y) none sp) va i) Q E s₂) E s) fun a st1 va s1 ρ1 _ r1 p1=>
  ((hy ρ1 s1 st1 p1.inv).bind (F:=fun vu Q E s=>wpAny (model prog w) A (subscriptTail x (.Slice none (some y) none sp) va (.ref s.heap.objs.size)) Q E { s with heap:=s.heap.push (sliceObj .none vu) }) fun b st2 vb s2 ρ2 _ r2 p2=>
   .onInt r2 fun j t e=>jW (lo:=none) (hi:=some j) p2.inv (r1.post p1.inv p2) rfl ⟨t,e⟩ fun _ _=>rfl).imp fun _ _ h=>wpAny_Slice (evalPart_none_step (wpAny_mono h (fun _ _ h=>evalPart_none_step h) fun _ _ e=>e))).imp fun _ _ h=>Subscript_ h
theorem sd {sp:Pos} (hx:TE prog w A d cv x f) (hy:TE prog w A d cv y g):TE prog w A d cv (.Subscript x (.Slice (some y) none none sp) pos) fun st=>(f st).bind fun a st=>(g st).bind fun b st=>onInt b fun j=>sliceV a (some j) .none st:=
 fun ρ s st I=>((hx ρ s st I).bind (F:=fun va Q E s=>wpAny (model prog w) A (eval (.Slice (some y) none none sp) d.env) (fun i s₂=>wpAny (model prog w) A (subscriptTail x (.Slice (some y) none none sp) va i) Q E s₂) E s) fun a st1 va s1 ρ1 _ r1 p1=>
  ((hy ρ1 s1 st1 p1.inv).bind (F:=fun vu Q E s=>wpAny (model prog w) A (subscriptTail x (.Slice (some y) none none sp) va (.ref s.heap.objs.size)) Q E { s with heap:=s.heap.push (sliceObj vu .none) }) fun b st2 vb s2 ρ2 _ r2 p2=>
   .onInt r2 fun j t e=>jW (lo:=some j) (hi:=none) p2.inv (r1.post p1.inv p2) ⟨t,e⟩ rfl fun _ _=>rfl).imp fun _ _ h=>wpAny_Slice (evalPart_some_step (wpAny_mono h (fun _ _ h=>evalPart_none_step (evalPart_none_step h)) fun _ _ e=>e))).imp fun _ _ h=>Subscript_ h
theorem se {sp:Pos} (hx:TE prog w A d cv x f) (hy:TE prog w A d cv y g) (hz:TE prog w A d cv z k):TE prog w A d cv (.Subscript x (.Slice (some y) (some z) none sp) pos) fun st=>(f st).bind fun a st=>(g st).bind fun b st=>(k st).bind fun c st=>onInt b fun j=>onInt c fun i=>sliceV a (some j) (some i) st:=
 fun ρ s st I=>((hx ρ s st I).bind (F:=fun va Q E s=>wpAny (model prog w) A (eval (.Slice (some y) (some z) none sp) d.env) (fun i s₂=>wpAny (model prog w) A (subscriptTail x (.Slice (some y) (some z) none sp) va i) Q E s₂) E s) fun a st1 va s1 ρ1 _ r1 p1=>
  ((hy ρ1 s1 st1 p1.inv).bind (F:=fun vl Q E s=>wpAny (model prog w) A (eval z d.env) (fun vu s=>wpAny (model prog w) A (subscriptTail x (.Slice (some y) (some z) none sp) va (.ref s.heap.objs.size)) Q E { s with heap:=s.heap.push (sliceObj vl vu) }) E s) fun b st2 vb s2 ρ2 _ r2 p2=>
   (hz ρ2 s2 st2 p2.inv).bind (F:=fun vu Q E s=>wpAny (model prog w) A (subscriptTail x (.Slice (some y) (some z) none sp) va (.ref s.heap.objs.size)) Q E { s with heap:=s.heap.push (sliceObj vb vu) }) fun c st3 vc s3 ρ3 _ r3 p3=>
    .onInt r2 fun j t e=>.onInt r3 fun i u e'=>jW (lo:=some j) (hi:=some i) p3.inv ((r1.post p1.inv p2).post p2.inv p3) ⟨t,e⟩ ⟨u,e'⟩ fun _ _=>rfl).imp fun _ _ h=>wpAny_Slice (evalPart_some_step (wpAny_mono h (fun _ _ h=>evalPart_some_step (wpAny_mono h (fun _ _ h=>evalPart_none_step h) fun _ _ e=>e)) fun _ _ e=>e))).imp fun _ _ h=>Subscript_ h
end
noncomputable def fnames:List Str:=["unquote","quote","body_encode","decode","fspath","_get_sep","join","split","dirname","commonpath","sorted_list_difference","_law_trees","_law_path","_law_read","_law_signs","_law_rank","_law_torn","_law_whole","law"]
noncomputable def gnames:List Str:=["CRLF","hexdigits","_QUOPRI_MAP","_QUOPRI_BODY_ENCODE_MAP"]
noncomputable def bnames:List (Str×Value):=[("len",.builtin "len"),("chr",.builtin "chr"),("ord",.builtin "ord"),("sorted",.builtin "sorted"),("min",.builtin "min"),("max",.builtin "max"),("type",.type "type"),("isinstance",.builtin "isinstance"),("issubclass",.builtin "issubclass"),("int",.type "int"),("divmod",.builtin "divmod"),("range",.type "range"),("enumerate",.type "enumerate"),("map",.type "map"),("tuple",.type "tuple"),("str",.type "str"),("bytes",.type "bytes"),("IndexError",.type "IndexError")]
inductive TopAt (B:Heap) (FA:Nat→Addr) (G:Nat→Option V):Prop
 | mk (mg mb:Str→Option Value) (n1:B.Ns mainGlobals mg) (n2:B.Ns builtinsNs mb) (f:∀ i n,fnames[i]?=some n→mg n=some (.ref (FA i)))
  (g:∀ k n,gnames[k]?=some n→∃ x v,mg n=some x∧G k=some v∧∀ ρ h,VR B ρ h v x) (b:∀ n v,(n,v)∈bnames→mg n=none∧mb n=some v)
structure TopOk (B:Heap) (FA:Nat→Addr) (G:Nat→Option V):Prop where
 ex:TopAt B FA G
 fn:∀ i n,fnames[i]?=some n→∃ o fd,B.get? (FA i)=some o∧o.data = .func fd
section
variable {prog:Program} {w:World} {A:Around} {p:P} {d:D} {ρ:List Addr} {cv:Option V} {s:Shared} {st:St} {FA:Nat→Addr} {G:Nat→Option V}
theorem Inv.ns (I:Inv d ρ cv s st) {a:Addr} {m:Str→Option Value} (n:d.B.heap.Ns a m):s.heap.Ns a m:=n.keeps fun b o e=>I.h.base b o e
noncomputable def okVar (p:P) (i:Nat) (x:Str):Bool:=(p.fnm[i]?).any fun q=>q.1 == x&&!(x == ("__debug__":Str))&&p.kinds.lookup x == some q.2&&(q.2 == .cell||(q.2 == .local&&p.comp.isNone))
inductive VarOk (p:P) (d:D) (i:Nat) (x:Str):Prop
 | cell (dbg:(x == ("__debug__":Str))=false) (f:d.fnm[i]?=some (x,.cell)) (k:d.env.kindOf x=some .cell)
 | loc (dbg:(x == ("__debug__":Str))=false) (f:d.fnm[i]?=some (x,.local)) (k:d.env.kindOf x=some .local) (c:d.comp=none)
theorem lZ {i:Nat} {x:Str} (hE:EnvOk p d) (ho:okVar p i x=true):VarOk p d i x:=by
 obtain⟨⟨y,k⟩,e,h⟩:=(Option.any_eq_true _ _).mp ho
 simp only [aS,eK,dQ,beq_iff_eq] at h
 obtain⟨⟨⟨rfl,h2⟩,h3⟩,h4⟩:=h
 have hk:d.env.kindOf y=some k:=by unfold c8;rw [hE.kinds];exact h3
 rw [←hE.fnm] at e
 rcases h4 with rfl | ⟨rfl,h5⟩
 ·exact .cell h2 e hk
 ·exact .loc h2 e hk (by rw [hE.comp];exact nh.mp h5)
theorem name_eq {x y:Str} (h:(x == y)=true):x=y:=eq_of_beq h
theorem p9 {i:Nat} {x:Str} (hE:EnvOk p d) (ho:okVar p i x=true) (I:Inv d ρ cv s st):TriP d ρ cv s (RVal d) (wpAny (model prog w) A (loadName d.env x)) (getVar st i):=by
 have V:=lZ hE ho
 unfold getVar
 cases ev:st.fv[i]? with
 | none=>exact .bad
 | some o=>
  cases o with
  | none=>exact .bad
  | some v=>
   have ej:st.fv[i]?.join=some v:=by rw [ev];rfl
   cases V with
   | cell _ hf hk=>
    obtain⟨c,cval,c1,c2,c3,c4⟩:=I.cells i x hf hk
    obtain⟨u,rfl,ru⟩:=c4 v ej
    exact .ok fun Q E hq=>wpAny_loadName_cell hE.fn hk c1 c2 (hq _ _ ρ ru (.refl I))
   | loc _ hf hk hc=>
    obtain⟨m,m1,⟨m2,m3⟩⟩:=I.dict
    obtain⟨u,hu,ru⟩:=m2 hc i x hf v ej
    exact .ok fun Q E hq=>wpAny_loadName_local hE.fn hk m1 hu (hq _ _ ρ ru (.refl I))
theorem zA {i:Nat} {x:Str} {pos:Pos} (hE:EnvOk p d) (ho:okVar p i x=true) (I:Inv d ρ cv s st):TriP d ρ cv s (RVal d) (wpAny (model prog w) A (eval (.Name x pos) d.env)) (getVar st i):=
 (p9 hE ho I).imp fun _ _ h=>wpAny_Name h (match lZ hE ho with | .cell q _ _=>q | .loc q _ _ _=>q)
theorem xe {i:Nat} {x:Str} {pos:Pos} (hE:EnvOk p d) (ho:okVar p i x=true):TE prog w A d cv (.Name x pos) fun st=>getVar st i:=fun _ _ _ I=>zA hE ho I
noncomputable def okCv (p:P) (x:Str):Bool:=(p.comp == some x)&&p.kinds.lookup x == some .local&&!(x == ("__debug__":Str))
theorem Cn {x:Str} {pos:Pos} (hE:EnvOk p d) (ho:okCv p x=true):TE prog w A d cv (.Name x pos) fun st=>lift cv st:=fun ρ s st I=>by
 unfold okCv at ho
 simp only [aS,dQ,beq_iff_eq] at ho
 obtain⟨⟨h1,h2⟩,h3⟩:=ho
 cases cv with
 | none=>exact .bad
 | some v=>
  have hk:d.env.kindOf x=some .local:=by unfold c8;rw [hE.kinds];exact h2
  obtain⟨m,m1,⟨m2,m3⟩⟩:=I.dict
  obtain⟨u,hu,ru⟩:=m3 x (by rw [hE.comp,h1]) v rfl
  exact .ok fun Q E hq=>wpAny_Name (wpAny_loadName_local hE.fn hk m1 hu (hq _ _ ρ ru (.refl I))) h3
noncomputable def okTop (p:P) (x:Str):Bool:=p.kinds.lookup x == some .globalImplicit&&!(x == ("__debug__":Str))
theorem ma {x:Str} {pos:Pos} {v:Value} {Q:Value→Shared→Prop} {E:Value→Shared→Prop} (hE:EnvOk p d) (ho:okTop p x=true) (I:Inv d ρ cv s st)
  (hl:wpAny (model prog w) A (loadGlobal d.env x) Q E s):wpAny (model prog w) A (eval (.Name x pos) d.env) Q E s:=by
 unfold okTop at ho
 simp only [aS,dQ,beq_iff_eq] at ho
 exact Calls.Name_function_global hE.fn (by unfold c8;rw [hE.kinds];exact ho.1) hl ho.2
theorem oV {i:Nat} {x:Str} {pos:Pos} {Q:Value→Shared→Prop} {E:Value→Shared→Prop} (T:TopOk d.B.heap FA G) (hE:EnvOk p d) (ho:okTop p x=true) (hx:fnames[i]?=some x) (I:Inv d ρ cv s st)
  (hq:Q (.ref (FA i)) s):wpAny (model prog w) A (eval (.Name x pos) d.env) Q E s:=by
 obtain⟨mg,mb,t1,t2,t3,t4,t5⟩:=T.ex
 refine ma (v:=.none) hE ho I (Calls.loadGlobal_global (mg:=mg) ?_ (t3 i x hx) hq)
 rw [hE.gl]
 exact I.ns t1
theorem cU {x:Str} {v:Value} {pos:Pos} {Q:Value→Shared→Prop} {E:Value→Shared→Prop} (T:TopOk d.B.heap FA G) (hE:EnvOk p d) (ho:okTop p x=true) (hx:(x,v)∈bnames) (I:Inv d ρ cv s st)
  (hq:Q v s):wpAny (model prog w) A (eval (.Name x pos) d.env) Q E s:=by
 obtain⟨mg,mb,t1,t2,t3,t4,t5⟩:=T.ex
 obtain⟨h1,h2⟩:=t5 x v hx
 refine ma (v:=.none) hE ho I (Calls.loadGlobal_builtin (mg:=mg) (mb:=mb) ?_ h1 ?_ h2 hq)
 ·rw [hE.gl];exact I.ns t1
 ·rw [hE.bl];exact I.ns t2
theorem zN {i:Nat} {x:Str} {pos:Pos} (T:TopOk d.B.heap FA G) (hE:EnvOk p d) (ho:okTop p x=true) (hx:gnames[i]?=some x):TE prog w A d cv (.Name x pos) fun st=>lift (G i) st:=fun ρ s st I=>by
 obtain⟨mg,mb,t1,t2,t3,t4,t5⟩:=T.ex
 obtain⟨u,v,h1,h2,h3⟩:=t4 i x hx
 rw [h2]
 refine .ok fun Q E hq=>ma (v:=.none) hE ho I (Calls.loadGlobal_global (mg:=mg) ?_ h1 (hq u s ρ (h3 ρ _) (.refl I)))
 rw [hE.gl]
 exact I.ns t1
noncomputable def constOf:V→Const
 | .bool b=>.bool b
 | .int i=>.int i
 | .str l=>.str (mk l)
 | _=>.none
noncomputable def okLit:V→Bool
 | .none=>true
 | .bool _=>true
 | .int _=>true
 | .str l=>decide (l.length≤100)
 | _=>false
theorem Bp {v:V} {k:Nat} {pos:Pos} (h:okLit v=true):TE prog w A d cv (.Constant (constOf v) k pos) fun st=>.ok v st:=fun ρ s st I=>by
 cases v with
 | none=>exact .ok fun Q E hq=>wpAny_Constant_none (hq _ _ ρ .none (.refl I))
 | bool b=>exact .ok fun Q E hq=>wpAny_Constant_bool (hq _ _ ρ (.bool _) (.refl I))
 | int i=>exact .ok fun Q E hq=>wpAny_Constant_int (hq _ _ ρ (.int _ _) (.toks I _))
 | str l=>exact .ok fun Q E hq=>wpAny_Constant_str (hq _ _ ρ (.str _ _ (aj (of_decide_eq_true h) (show 100≤LIM by decide))) (.toks I _))
 | _=>cases h
def NoStar (x:Expr):Prop:=∀ (xs:List Expr) (env:Env),starEach (x::xs) env=(false,eval x env)::starEach xs env
theorem bI {x:Expr} {xs:List Expr} {env:Env} (h:NoStar x):starEach (x::xs) env=(false,eval x env)::starEach xs env:=h xs env
theorem tX:TEs prog w A d cv [] fun st=>.ok [] st:=fun pos ρ s st I=>.ok fun Q E hq=>spliced_none (hq [] s ρ .nil (.refl I))
theorem lJ {x:Expr} {xs:List Expr} {f:St→Res V} {g:St→Res (List V)} (hn:NoStar x) (hx:TE prog w A d cv x f) (hy:TEs prog w A d cv xs g) :
  TEs prog w A d cv (x::xs) fun st=>(f st).bind fun a st=>(g st).bind fun l st=>.ok (a::l) st:=fun pos ρ s st I=>
 ((hx ρ s st I).bind (F:=fun va Q E s=>wpAny (model prog w) A (spliced (backTo pos (starEach xs d.env))) (fun vs s₂=>Q (va::vs) s₂) E s) fun a st1 va s1 ρ1 _ r1 p1=>
  (hy pos ρ1 s1 st1 p1.inv).bind (F:=fun vs Q _ s=>Q (va::vs) s) fun l st2 vs s2 ρ2 _ r2 p2=>.ok fun Q E hq=>hq _ s2 ρ2 (.cons (r1.post p1.inv p2) r2) (.refl p2.inv)).imp fun _ _ h=>spliced_more h (bI hn)
theorem zM {xs:List Expr} {pos:Pos} {g:St→Res (List V)} (h:TEs prog w A d cv xs g):TE prog w A d cv (.List xs pos) fun st=>(g st).bind alloc:=fun ρ s st I=>
 ((h pos ρ s st I).bind (F:=fun vs Q _ s=>vs.length≤sizeLine∧Q (.ref s.heap.objs.size) { s with heap:=s.heap.push { cls:=.type "list",data:=.seq vs.toArray } }) fun l st1 vs s1 ρ1 _ r1 p1=>
  jB fun hl Q E hq=>⟨by rw [r1.length];exact aj hl bT,hq _ _ _ (VR.new p1.inv.h.len) (Post.push (t:=s1.toks) p1.inv r1 hl)⟩).imp fun _ _ h=>wpAny_List h
theorem xf {xs:List Expr} {k:Nat} {pos:Pos} {g:St→Res (List V)} (h:TEs prog w A d cv xs g):TE prog w A d cv (.Tuple xs k pos) fun st=>(g st).bind mkTup:=fun ρ s st I=>
 ((h pos ρ s st I).bind (RV':=RVal d) (F:=fun vs Q _ s=>vs.length≤sizeLine∧Q (Value.ref s.heap.objs.size) { s with heap:=s.heap.push { cls:=.type "tuple",data:=.seq vs.toArray } })
  (f:=mkTup) fun l st1 vs s1 ρ1 _ r1 p1=>.ifb fun hl=>by
   have pp:=Post.grown (t:=s1.toks) p1.inv (h':=s1.heap.push (tobj vs.toArray 0)) (fun _ _ e=>af _ e) (Keep.push (W:=fun _=>False) _).size
   exact .ok fun Q E hq=>⟨by rw [r1.length];exact aj hl bT,hq _ _ ρ1 (.tup (ao _ rfl) hl (VRs.post p1.inv pp r1)) pp⟩).imp fun _ _ h=>wpAny_Tuple h
end
section
variable {prog:Program} {w:World} {A:Around} {p:P} {d:D} {ρ:List Addr} {cv:Option V} {s:Shared} {st:St} {FA:Nat→Addr} {G:Nat→Option V} {x y z:Expr} {f g:St→Res V} {pos np:Pos}
theorem cB {nm:Str} {xs:List Expr} {Q:Value→Shared→Prop} {E:Value→Shared→Prop} (h:wpAny (model prog w) A (eval (.Name nm np) d.env) (fun fv s₁=>wpAny (model prog w) A (callWith pos fv [] (backTo pos (starEach xs d.env)) []) Q E s₁) E s) :
  wpAny (model prog w) A (eval (.Call (.Name nm np) xs [] pos) d.env) Q E s:=wpAny_bind h
theorem kX {F:Value→(Value→Shared→Prop)→Shared→Prop} {fv:Value} {E:Value→Shared→Prop} {Q:Value→Shared→Prop} {first:List Value} (hfv:(∃ id,fv = .builtin id)∨∃ T,fv = .type T) (hn:NoStar x)
  (h:wpAny (model prog w) A (eval x d.env) (fun v s=>wpAny (model prog w) A (call fv (first++[v])) Q E s) E s):wpAny (model prog w) A (callWith pos fv first (backTo pos (starEach [x] d.env)) []) Q E s:=by
 rw [bI hn]
 rcases hfv with ⟨id,rfl⟩ | ⟨T,rfl⟩
 ·exact Calls.callWith_builtin rfl (Calls.evalArgs_plain (Calls.spliced_cons (wpAny_mono h (fun _ _ h=>Calls.spliced_nil h) fun _ _ e=>e)))
 ·exact PyProof.Rows.callWith_type rfl (Calls.evalArgs_plain (Calls.spliced_cons (wpAny_mono h (fun _ _ h=>Calls.spliced_nil h) fun _ _ e=>e)))
theorem fZ {fv:Value} {E:Value→Shared→Prop} {Q:Value→Shared→Prop} {first:List Value} (hfv:(∃ id,fv = .builtin id)∨∃ T,fv = .type T) (hn:NoStar x) (hm:NoStar y)
  (h:wpAny (model prog w) A (eval x d.env) (fun v s=>wpAny (model prog w) A (eval y d.env) (fun u s=>wpAny (model prog w) A (call fv (first++[v,u])) Q E s) E s) E s):wpAny (model prog w) A (callWith pos fv first (backTo pos (starEach [x,y] d.env)) []) Q E s:=by
 rw [bI hn,bI hm]
 have h':=Calls.spliced_cons (rest:=[(false,eval y d.env)]) (Q:=fun vs s=>wpAny (model prog w) A (call fv (first++vs)) Q E s) (wpAny_mono h (fun _ _ h=>Calls.spliced_cons (wpAny_mono h (fun _ _ h=>Calls.spliced_nil h) fun _ _ e=>e)) fun _ _ e=>e)
 rcases hfv with ⟨id,rfl⟩ | ⟨T,rfl⟩
 ·exact Calls.callWith_builtin rfl (Calls.evalArgs_plain h')
 ·exact PyProof.Rows.callWith_type rfl (Calls.evalArgs_plain h')
theorem Bu {nm:Str} {fv:Value} {F:V→St→Res V} (T:TopOk d.B.heap FA G) (hE:EnvOk p d) (ho:okTop p nm=true) (hb:(nm,fv)∈bnames) (hfv:(∃ id,fv = .builtin id)∨∃ T,fv = .type T) (hn:NoStar x) (hx:TE prog w A d cv x f)
  (hF:∀ ρ s st a v,Inv d ρ cv s st→VR d.B.heap ρ s.heap a v→TriP d ρ cv s (RVal d) (wpAny (model prog w) A (call fv [v])) (F a st)) :
  TE prog w A d cv (.Call (.Name nm np) [x] [] pos) fun st=>(f st).bind fun a st=>F a st:=fun ρ s st I=>
 ((hx ρ s st I).bind (F:=fun v Q E s=>wpAny (model prog w) A (call fv [v]) Q E s) fun a st1 va s1 ρ1 _ r1 p1=>hF ρ1 s1 st1 a va p1.inv r1).imp fun Q E h=>cB (cU T hE ho hb I (kX (F:=fun _ _ _=>True) (first:=[]) hfv hn h))
noncomputable def b1Nm:B1→Str
 | .len=>"len" | .chr=>"chr" | .ord=>"ord" | .sorted=>"sorted" | .min=>"min" | .max=>"max" | .typ=>"type"
noncomputable def b1Fv:B1→Value
 | .len=>.builtin "len" | .chr=>.builtin "chr" | .ord=>.builtin "ord" | .sorted=>.builtin "sorted" | .min=>.builtin "min" | .max=>.builtin "max" | .typ=>.type "type"
theorem tz (h:B1):(b1Nm h,b1Fv h)∈bnames∧((∃ id,b1Fv h = .builtin id)∨∃ T,b1Fv h = .type T):=by
 cases h with
 | len=>exact⟨.head _,.inl ⟨_,rfl⟩⟩
 | chr=>exact⟨.tail _ (.head _),.inl ⟨_,rfl⟩⟩
 | ord=>exact⟨.tail _ (.tail _ (.head _)),.inl ⟨_,rfl⟩⟩
 | sorted=>exact⟨.tail _ (.tail _ (.tail _ (.head _))),.inl ⟨_,rfl⟩⟩
 | min=>exact⟨.tail _ (.tail _ (.tail _ (.tail _ (.head _)))),.inl ⟨_,rfl⟩⟩
 | max=>exact⟨.tail _ (.tail _ (.tail _ (.tail _ (.tail _ (.head _))))),.inl ⟨_,rfl⟩⟩
 | typ=>exact⟨.tail _ (.tail _ (.tail _ (.tail _ (.tail _ (.tail _ (.head _)))))),.inr ⟨_,rfl⟩⟩
theorem Bl (h:B1) {a:V} {v:Value} (hA:A.handled=none) (hu:A.units+20 < cLine) (I:Inv d ρ cv s st) (r:VR d.B.heap ρ s.heap a v):TriP d ρ cv s (RVal d) (wpAny (model prog w) A (call (b1Fv h) [v])) (b1V h a st):=by
 have hu':A.units+10 < cLine:=aC (bP (show 10≤20 by decide) _) hu
 cases h with
 | len=>exact zF I r
 | chr=>exact zH I r
 | ord=>exact zC I r
 | sorted=>exact r6 hu I r
 | min=>exact zD hA hu' I r
 | max=>exact zE hA hu' I r
 | typ=>exact zB I r
theorem Co {h:B1} (hA:A.handled=none) (hu:A.units+20 < cLine) (T:TopOk d.B.heap FA G) (hE:EnvOk p d) (ho:okTop p (b1Nm h)=true) (hn:NoStar x) (hx:TE prog w A d cv x f) :
  TE prog w A d cv (.Call (.Name (b1Nm h) np) [x] [] pos) fun st=>(f st).bind fun a st=>b1V h a st:=
 Bu T hE ho (tz h).1 (tz h).2 hn hx fun ρ s st a v I r=>Bl h hA hu I r
theorem TriP.behind {α β:Type} {ρ':List Addr} {RV:List Addr→Heap→β→α→Prop} {P:PT α} {r:Res β} {s':Shared} {st':St} (p:Post d ρ cv s ρ' s' st') (h0:0 < s.toks→0 < s'.toks) (t:TriP d ρ' cv s' RV P r) :
  TriP d ρ cv s RV (fun Q E _=>P Q E s') r:=fun hb q Q E hQ hE=>t hb (h0 q) Q E (fun b st' a s2 ρ2 e v p'=>hQ b st' a s2 ρ2 e v (p.trans p')) fun st' e s2 ρ2 er p' xx=>hE st' e s2 ρ2 er (p.trans p') (xx.old p.keep.size)
theorem m8:(("isinstance":Str),Value.builtin "isinstance")∈bnames:=ac (i:=7) rfl
theorem m7:(("issubclass":Str),Value.builtin "issubclass")∈bnames:=ac (i:=8) rfl
theorem Cb:(("int":Str),Value.type "int")∈bnames:=ac (i:=9) rfl
theorem vV:(("divmod":Str),Value.builtin "divmod")∈bnames:=ac (i:=10) rfl
theorem B9:(("str":Str),Value.type "str")∈bnames:=ac (i:=15) rfl
theorem rF:(("bytes":Str),Value.type "bytes")∈bnames:=ac (i:=16) rfl
theorem si {bp:Pos} (T:TopOk d.B.heap FA G) (hE:EnvOk p d) (ho:okTop p "isinstance"=true) (hb:okTop p "bytes"=true) (hn:NoStar x) (hx:TE prog w A d cv x f) :
  TE prog w A d cv (.Call (.Name "isinstance" np) [x,.Name "bytes" bp] [] pos) fun st=>(f st).bind fun a st=>isbytesV a st:=fun ρ s st I=>
 ((hx ρ s st I).bind (F:=fun v Q E s=>wpAny (model prog w) A (eval (.Name "bytes" bp) d.env) (fun u s=>wpAny (model prog w) A (call (.builtin "isinstance") [v,u]) Q E s) E s) fun a st1 va s1 ρ1 _ r1 p1=>
  (qa p1.inv r1).imp fun Q E h=>cU T hE hb rF p1.inv h).imp fun Q E h=>cB (cU T hE ho m8 I (fZ (first:=[]) (.inl ⟨_,rfl⟩) hn (fun _ _=>rfl) h))
theorem xh {sp bp tp:Pos} {k:Nat} (T:TopOk d.B.heap FA G) (hE:EnvOk p d) (ho:okTop p "issubclass"=true) (hs:okTop p "str"=true) (hb:okTop p "bytes"=true) (hn:NoStar x) (hx:TE prog w A d cv x f) :
  TE prog w A d cv (.Call (.Name "issubclass" np) [x,.Tuple [.Name "str" sp,.Name "bytes" bp] k tp] [] pos) fun st=>(f st).bind fun a st=>issubV a st:=fun ρ s st I=>
 ((hx ρ s st I).bind (F:=fun v Q E s=>wpAny (model prog w) A (eval (.Tuple [.Name "str" sp,.Name "bytes" bp] k tp) d.env) (fun u s=>wpAny (model prog w) A (call (.builtin "issubclass") [v,u]) Q E s) E s) fun a st1 va s1 ρ1 _ r1 p1=>by
  have pp:=Post.grown (t:=s1.toks) p1.inv (h':=s1.heap.push (tobj #[.type "str",.type "bytes"] 0)) (fun _ _ e=>af _ e) (Keep.push (W:=fun _=>False) _).size
  exact (TriP.behind pp id (uP (prog:=prog) (w:=w) (A:=A) (tp:=s1.heap.objs.size) pp.inv (r1.post p1.inv pp) (ao _ rfl))).imp fun Q E h=>
   wpAny_Tuple (spliced_more (cU T hE hs B9 p1.inv (spliced_more (cU T hE hb rF p1.inv (spliced_none ⟨by rw [pf];decide,h⟩)) rfl)) rfl)
  ).imp fun Q E h=>cB (cU T hE ho m7 I (fZ (first:=[]) (.inl ⟨_,rfl⟩) hn (fun _ _=>rfl) h))
theorem xi {cp:Pos} {k:Nat} (T:TopOk d.B.heap FA G) (hE:EnvOk p d) (ho:okTop p "int"=true) (hn:NoStar x) (hx:TE prog w A d cv x f) :
  TE prog w A d cv (.Call (.Name "int" np) [x,.Constant (.int 16) k cp] [] pos) fun st=>(f st).bind fun a st=>int16V a st:=fun ρ s st I=>
 ((hx ρ s st I).bind (F:=fun v Q E s=>wpAny (model prog w) A (eval (.Constant (.int 16) k cp) d.env) (fun u s=>wpAny (model prog w) A (call (.type "int") [v,u]) Q E s) E s) fun a st1 va s1 ρ1 _ r1 p1=>by
  have pp:=Post.toks p1.inv (s1.toks+1)
  exact (TriP.behind pp (fun _=>bo _) (uQ (prog:=prog) (w:=w) (A:=A) (u:=s1.toks) pp.inv (r1.post p1.inv pp))).imp fun Q E h=>wpAny_Constant_int h
  ).imp fun Q E h=>cB (cU T hE ho Cb I (fZ (first:=[]) (.inr ⟨_,rfl⟩) hn (fun _ _=>rfl) h))
theorem uS (T:TopOk d.B.heap FA G) (hE:EnvOk p d) (ho:okTop p "divmod"=true) (hn:NoStar x) (hm:NoStar y) (hx:TE prog w A d cv x f) (hy:TE prog w A d cv y g) :
  TE prog w A d cv (.Call (.Name "divmod" np) [x,y] [] pos) fun st=>(f st).bind fun a st=>(g st).bind fun b st=>divmodV a b st:=fun ρ s st I=>
 ((hx ρ s st I).bind (F:=fun v Q E s=>wpAny (model prog w) A (eval y d.env) (fun u s=>wpAny (model prog w) A (call (.builtin "divmod") [v,u]) Q E s) E s) fun a st1 va s1 ρ1 _ r1 p1=>
  (hy ρ1 s1 st1 p1.inv).bind (F:=fun u Q E s=>wpAny (model prog w) A (call (.builtin "divmod") [va,u]) Q E s) fun b st2 vb s2 ρ2 _ r2 p2=>r9 p2.inv (r1.post p1.inv p2) r2).imp fun Q E h=>cB (cU T hE ho vV I (fZ (first:=[]) (.inl ⟨_,rfl⟩) hn hm h))
def NoSup (o:Expr):Prop:=∀ (name:Str) (env:Env) (whole:Sem Value),attributeBase o name env whole=whole
theorem eI {T id:String} {name:Str} {ov:Value} {args:List (Bool×Sem Value)} {Q:Value→Shared→Prop} {E:Value→Shared→Prop} (pa:PlainAttrs T) (slot:Slot T name id) (ty:typeOf (.builtin id)=pure (.type "method_descriptor")) (hT:s.TypeIs ov T)
  (hd:∀ a,ov = .ref a→∃ ob,s.heap.get? a=some ob∧ob.dict=none) (h:wpAny (model prog w) A (callWith pos (.builtin id) [ov] args []) Q E s):MethodOnS prog w A E name ov pos args Q s:=⟨T,id,pa,slot,ty,hT,hd,h⟩
theorem ue (m:M0):Slot "str" (m0Nm m) (m0Id m)∧typeOf (.builtin (m0Id m))=pure (.type "method_descriptor"):=by
 cases m with
 | splitlines=>exact⟨F.slot_str_splitlines,F.type_str_splitlines⟩
 | rstrip=>exact⟨F.slot_str_rstrip,F.type_str_rstrip⟩
theorem ud (m:M1):Slot "str" (m1Nm m) (m1Id m)∧typeOf (.builtin (m1Id m))=pure (.type "method_descriptor"):=by
 cases m with
 | join=>exact⟨F.slot_str_join,F.type_str_join⟩
 | translate=>exact⟨F.slot_str_translate,F.type_str_translate⟩
 | rstrip=>exact⟨F.slot_str_rstrip,F.type_str_rstrip⟩
 | endswith=>exact⟨F.slot_str_endswith,F.type_str_endswith⟩
 | startswith=>exact⟨F.slot_str_startswith,F.type_str_startswith⟩
 | rfind=>exact⟨F.slot_str_rfind,F.type_str_rfind⟩
 | split=>exact⟨F.slot_str_split,F.type_str_split⟩
theorem i9 {id:String} {first:Value} {E:Value→Shared→Prop} {Q:Value→Shared→Prop} (h:wpAny (model prog w) A (eval y d.env) (fun v s=>wpAny (model prog w) A (call (.builtin id) [first,v]) Q E s) E s) :
  wpAny (model prog w) A (callWith pos (.builtin id) [first] [(false,eval y d.env)] []) Q E s:=
 Calls.callWith_builtin rfl (Calls.evalArgs_plain (Calls.spliced_cons (wpAny_mono h (fun _ _ h=>Calls.spliced_nil h) fun _ _ e=>e)))
theorem nO {id:String} {first:Value} {z:Expr} {E:Value→Shared→Prop} {Q:Value→Shared→Prop} (h:wpAny (model prog w) A (eval z d.env) (fun u s=>wpAny (model prog w) A (eval y d.env) (fun v s=>wpAny (model prog w) A (call (.builtin id) [first,u,v]) Q E s) E s) E s) :
  wpAny (model prog w) A (callWith pos (.builtin id) [first] [(false,eval z d.env),(false,eval y d.env)] []) Q E s:=
 Calls.callWith_builtin rfl (Calls.evalArgs_plain (Calls.spliced_cons (wpAny_mono h (fun _ _ h=>Calls.spliced_cons (wpAny_mono h (fun _ _ h=>Calls.spliced_nil h) fun _ _ e=>e)) fun _ _ e=>e)))
theorem Cm {m:M0} {ap:Pos} (hb:NoSup x) (hl:(ap.endLine == pos.line)=true) (hx:TE prog w A d cv x f) :
  TE prog w A d cv (.Call (.Attribute x (m0Nm m) ap) [] [] pos) fun st=>(f st).bind fun a st=>m0V m a st:=fun ρ s st I=>
 ((hx ρ s st I).bind (F:=fun ov Q E s=>MethodOnS prog w A E (m0Nm m) ov pos [] Q s) fun a st1 va s1 ρ1 _ r1 p1=>by
  have t:=w4 (prog:=prog) (w:=w) (A:=A) m p1.inv r1
  unfold m0V at t ⊢
  revert t
  refine fun t=>.onStr r1 fun l tk e hl=>?_
  subst e
  have t:=w4 (prog:=prog) (w:=w) (A:=A) m p1.inv (.str l tk hl:VR d.B.heap ρ1 s1.heap _ _)
  exact t.imp fun Q E h=>eI F.plainAttrs_str (ue m).1 (ue m).2 (typeIs_str _ _ _) (fun _ e=>nomatch e) (callWith_method0 (env:=d.env) h)).imp fun Q E h=>Call_method0 (hb _ _ _) hl h
theorem Cl {m:M1} {ap:Pos} (hb:NoSup x) (hl:(ap.endLine == pos.line)=true) (hn:NoStar y) (hx:TE prog w A d cv x f) (hy:TE prog w A d cv y g) :
  TE prog w A d cv (.Call (.Attribute x (m1Nm m) ap) [y] [] pos) fun st=>(f st).bind fun a st=>onStr a fun s=>(g st).bind fun b st=>m1V m s b st:=fun ρ s st I=>
 ((hx ρ s st I).bind (F:=fun ov Q E s=>MethodOnS prog w A E (m1Nm m) ov pos [(false,eval y d.env)] Q s) fun a st1 va s1 ρ1 _ r1 p1=>
  .onStr r1 fun l tk e hl=>by
   subst e
   exact ((hy ρ1 s1 st1 p1.inv).bind (F:=fun vb Q E s=>wpAny (model prog w) A (call (.builtin (m1Id m)) [.str (mk l) tk,vb]) Q E s) fun b st2 vb s2 ρ2 _ r2 p2=>Bk m p2.inv hl r2).imp fun Q E h=>
    eI F.plainAttrs_str (ud m).1 (ud m).2 (typeIs_str _ _ _) (fun _ e=>nomatch e) (i9 h)).imp fun Q E h=>Call_method1 (hb _ _ _) (bI hn) hl h
theorem sh {c:Nat} {l:List Nat} {ap cp1 cp2:Pos} {k1 k2:Nat} (hb:NoSup x) (hl:(ap.endLine == pos.line)=true) (hx:TE prog w A d cv x f) :
  TE prog w A d cv (.Call (.Attribute x "replace" ap) [.Constant (.str (mk [c])) k1 cp1,.Constant (.str (mk l)) k2 cp2] [] pos) fun st=>(f st).bind fun a st=>replV a c l st:=fun ρ s st I=>
 ((hx ρ s st I).bind (F:=fun ov Q E s=>MethodOnS prog w A E "replace" ov pos [(false,eval (.Constant (.str (mk [c])) k1 cp1) d.env),(false,eval (.Constant (.str (mk l)) k2 cp2) d.env)] Q s) fun a st1 va s1 ρ1 _ r1 p1=>
  .onStr r1 fun y t e hy hb h0=>by
   subst e
   have pp:=Post.toks p1.inv (s1.toks+1+1)
   have t':=w3 (prog:=prog) (w:=w) (A:=A) (x:=.str y) (c:=c) (l:=l) (u:=s1.toks) (v:=s1.toks+1) pp.inv (.str y t hy) (Nat.pos_iff_ne_zero.mp h0) (Nat.succ_ne_zero _) (aP (aL _))
   exact ((TriP.behind pp (fun _=>bo _) t').imp fun Q E h=>eI F.plainAttrs_str F.slot_str_replace F.type_str_replace (typeIs_str _ _ _) (fun _ e=>nomatch e)
    (nO (wpAny_Constant_str (wpAny_Constant_str h)))) hb h0).imp fun Q E h=>Call_method2 (hb _ _ _) (by rfl) hl h
theorem oT {a:Addr} {ob:Obj} (e:s.heap.get? a=some ob) (hd:ob.dict=none):∀ b,Value.ref a = .ref b→∃ ob,s.heap.get? b=some ob∧ob.dict=none:=fun b q=>by cases q;exact⟨_,e,hd⟩
theorem uT {ap:Pos} (hb:NoSup x) (hl:(ap.endLine == pos.line)=true) (hn:NoStar y) (hx:TE prog w A d cv x f) (hy:TE prog w A d cv y g) :
  TE prog w A d cv (.Call (.Attribute x "append" ap) [y] [] pos) fun st=>(f st).bind fun a st=>onLoc a fun n=>(g st).bind fun b st=>setList n (·++[b]) st:=fun ρ s st I=>
 ((hx ρ s st I).bind (F:=fun ov Q E s=>MethodOnS prog w A E "append" ov pos [(false,eval y d.env)] Q s) fun a st1 va s1 ρ1 _ r1 p1=>.onLoc r1 fun n u ha e=>by
  subst e
  obtain⟨ys,k,e⟩:=p1.inv.h.at (ac ha)
  exact ((hy ρ1 s1 st1 p1.inv).bind (F:=fun vb Q E s=>wpAny (model prog w) A (call (.builtin "list.append") [.ref u,vb]) Q E s) fun b st2 vb s2 ρ2 _ r2 p2=>sa p2.inv (p2.grow.get ha) r2).imp fun Q E h=>
   eI F.plainAttrs_list slot_list_append type_list_append ⟨_,e,rfl⟩ (oT e rfl) (i9 h)).imp fun Q E h=>Call_method1 (hb _ _ _) (bI hn) hl h
theorem uR {ap:Pos} (hb:NoSup x) (hl:(ap.endLine == pos.line)=true) (hn:NoStar y) (hx:TE prog w A d cv x f) (hy:TE prog w A d cv y g) :
  TE prog w A d cv (.Call (.Attribute x "extend" ap) [y] [] pos) fun st=>(f st).bind fun a st=>onLoc a fun n=>(g st).bind fun b st=>onList b st fun m l=>guard (decide (n≠m)) (setList n (·++l) st):=fun ρ s st I=>
 ((hx ρ s st I).bind (F:=fun ov Q E s=>MethodOnS prog w A E "extend" ov pos [(false,eval y d.env)] Q s) fun a st1 va s1 ρ1 _ r1 p1=>.onLoc r1 fun n u ha e=>by
  subst e
  obtain⟨ys,k,e⟩:=p1.inv.h.at (ac ha)
  exact ((hy ρ1 s1 st1 p1.inv).bind (F:=fun vb Q E s=>wpAny (model prog w) A (call (.builtin "list.extend") [.ref u,vb]) Q E s) fun b st2 vb s2 ρ2 _ r2 p2=>
   TriP.onList p2.inv r2 fun m l c xs q e L=>.guard fun _=>by subst e;exact r8 p2.inv (p2.grow.get ha) L).imp fun Q E h=>
   eI F.plainAttrs_list F.slot_list_extend F.type_list_extend ⟨_,e,rfl⟩ (oT e rfl) (i9 h)).imp fun Q E h=>Call_method1 (hb _ _ _) (bI hn) hl h
theorem sj {ap cp:Pos} {k:Nat} (hb:NoSup x) (hl:(ap.endLine == pos.line)=true) (hn:NoStar y) (hx:TE prog w A d cv x f) (hy:TE prog w A d cv y g) :
  TE prog w A d cv (.Call (.Attribute x "insert" ap) [.Constant (.int 0) k cp,y] [] pos) fun st=>(f st).bind fun a st=>onLoc a fun n=>(g st).bind fun b st=>setList n (b::·) st:=fun ρ s st I=>
 ((hx ρ s st I).bind (F:=fun ov Q E s=>MethodOnS prog w A E "insert" ov pos [(false,eval (.Constant (.int 0) k cp) d.env),(false,eval y d.env)] Q s) fun a st1 va s1 ρ1 _ r1 p1=>.onLoc r1 fun n u ha e=>by
  subst e
  obtain⟨ys,kk,e⟩:=p1.inv.h.at (ac ha)
  have pp:=Post.toks p1.inv (s1.toks+1)
  have t:=(hy ρ1 { s1 with toks:=s1.toks+1 } st1 pp.inv).bind (F:=fun vb Q E s=>wpAny (model prog w) A (call (.builtin "list.insert") [.ref u,.int 0 s1.toks,vb]) Q E s) fun b st2 vb s2 ρ2 _ r2 p2=>r7 (u:=s1.toks) p2.inv (p2.grow.get ha) r2
  exact (TriP.behind pp (fun _=>bo _) t).imp fun Q E h=>eI F.plainAttrs_list F.slot_list_insert F.type_list_insert ⟨_,e,rfl⟩ (oT e rfl) (nO (wpAny_Constant_int h))).imp fun Q E h=>
   Call_method2 (hb _ _ _) (by rw [bI (x:=.Constant (.int 0) k cp) (fun _ _=>rfl),bI hn];rfl) hl h
end
section
variable {prog:Program} {w:World} {A:Around} {p:P} {d:D} {ρ:List Addr} {cv:Option V} {s:Shared} {st:St} {FA:Nat→Addr} {G:Nat→Option V} {x y z:Expr} {f g:St→Res V} {pos np:Pos}
theorem zQ {nm:Str} (hx:TE prog w A d cv (.Name nm np) f):TE prog w A d cv (.Attribute (.Name nm np) "append" pos) fun st=>(f st).bind fun a st=>onLoc a fun n=>.ok (.app n) st:=fun ρ s st I=>
 ((hx ρ s st I).bind (F:=fun ov Q E s=>wpAny (model prog w) A (getAttr ov "append" true) Q E s) fun a st1 va s1 ρ1 _ r1 p1=>.onLoc r1 fun n c ha e=>by subst e;exact w9 p1.inv ha).imp fun Q E h=>by
  rw [arm_eval_Attribute]
  exact wpAny_bind (wpAny_mono h (fun ov s1 h1=>wpAny_bind (wpAny_standAt (wpAny_bind (wpAny_holding (wpAny_mono h1 (fun r s2 h2=>wpAny_bind (wpAny_pure (wpAny_pure h2))) fun _ _ e=>e))))) fun _ _ e=>e)
theorem pI {u:Addr} {n:Nat} {Q:Value→Shared→Prop} {E:Value→Shared→Prop} (hn:NoStar x)
  (h:wpAny (model prog w) A (eval x d.env) (fun v s=>(∃ o vs,s.heap.get? u=some o∧o.cls = .type "builtin_function_or_method"∧o.data = .fields vs)∧wpAny (model prog w) A (call (.ref u) [v]) Q E s) E s) :
  wpAny (model prog w) A (callWith pos (.ref u) [] (backTo pos (starEach [x] d.env)) []) Q E s:=by
 rw [bI hn]
 unfold callWith
 have h2:wpAny (model prog w) A (evalArgs (.ref u) true [(false,eval x d.env)] []) (fun a s=>(∃ o vs,s.heap.get? u=some o∧o.cls = .type "builtin_function_or_method"∧o.data = .fields vs)∧wpAny (model prog w) A (call (.ref u) ([]++a.pos) a.kw) Q E s) E s:=
  Calls.evalArgs_plain (Calls.spliced_cons (wpAny_mono h (fun v s h=>Calls.spliced_nil h) fun _ _ e=>e))
 refine wpAny_bind (wpAny_holding (wpAny_mono h2 (fun a s₁ h₁=>wpAny_bind (wpAny_standAt ?_)) fun _ _ x=>x))
 obtain⟨⟨o,vs,ho,hc,hd⟩,hcall⟩:=h₁
 show wpAny _ _ (keeperOf (.ref u) >>= _) _ _ _
 refine wpAny_bind (m:=keeperOf (.ref u)) ?_
 unfold keeperOf
 refine wpAny_bind (wpAny_load ho ?_)
 rw [hd]
 simp only [hc,show (Value.type "builtin_function_or_method" != Value.type "method")=true by decide,show (Value.type "builtin_function_or_method" == Value.type "builtin_function_or_method"||Value.type "builtin_function_or_method" == Value.type "method-wrapper")=true by decide,if_true]
 refine wpAny_pure ?_
 exact wpAny_bind (wpAny_mono hcall (fun r s₂ hr=>wpAny_bind (wpAny_holding (wpAny_point (wpAny_pure hr)))) fun _ _ x=>x)
theorem xk {i:Nat} {nm:Str} (hv:TE prog w A d cv (.Name nm np) fun st=>getVar st i) (hn:NoStar y) (hy:TE prog w A d cv y g) :
  TE prog w A d cv (.Call (.Name nm np) [y] [] pos) fun st=>(getVar st i).bind fun a st=>onApp a fun n=>(g st).bind fun b st=>setList n (·++[b]) st:=fun ρ s st I=>
 ((hv ρ s st I).bind (F:=fun fv Q E s=>wpAny (model prog w) A (callWith pos fv [] (backTo pos (starEach [y] d.env)) []) Q E s) fun a st1 va s1 ρ1 _ r1 p1=>.onApp r1 fun n ra=>by
  obtain⟨u,b,o,vs,rfl,i,ho,hc,hd,h0,h1⟩:=ra
  exact ((hy ρ1 s1 st1 p1.inv).bind (F:=fun vb Q E s=>(∃ o vs,s.heap.get? u=some o∧o.cls = .type "builtin_function_or_method"∧o.data = .fields vs)∧wpAny (model prog w) A (call (.ref u) [vb]) Q E s) fun b st2 vb s2 ρ2 _ r2 p2=>by
   have r':=RApp.keep p2.keep p1.inv.writ (fun _ _=>p2.grow.get) ⟨u,_,o,vs,rfl,i,ho,hc,hd,h0,h1⟩
   exact (qb (prog:=prog) (w:=w) (A:=A) p2.inv r' r2).imp fun Q E h=>by
    obtain⟨_,_,o,vs,e,_,ho,hc,hd,_,_⟩:=r'
    cases e
    exact⟨⟨o,vs,ho,hc,hd⟩,h⟩).imp fun Q E h=>pI (n:=n) hn h).imp fun Q E h=>cB h
theorem zP {n i:Nat} {nm:Str} {xs:List Expr} {gs:St→Res (List V)} {call:CallT} (T:TopOk d.B.heap FA G) (hE:EnvOk p d) (ho:okTop p nm=true) (hi:fnames[i]?=some nm) (hC:CallC prog w d.B n (FA i) (call i)) (hA:COk A d.fs n) (hd0:d.hd=none)
  (hn:NoStar x) (hxs:TEs prog w A d cv (x::xs) gs):TE prog w A d cv (.Call (.Name nm np) (x::xs) [] pos) fun st=>(gs st).bind fun l st=>callR call i l st:=fun ρ s st I=>by
 obtain⟨o,fd,e,hd⟩:=T.fn i nm hi
 refine ((hxs pos ρ s st I).bind (F:=fun vs Q E s=>(s.heap.get? (FA i)=some o∧o.data = .func fd)∧wpAny (model prog w) A (PySem.call (.ref (FA i)) vs) Q E s) fun l st1 vs s1 ρ1 _ r1 p1=>
  (w6 hC hA hd0 p1.inv r1).imp fun Q E h=>⟨⟨p1.inv.h.base _ _ e,hd⟩,h⟩).imp fun Q E h=>cB (oV T hE ho hi I ?_)
 rw [bI hn] at h ⊢
 exact Calls.callWith_function (o:=o) (fd:=fd) (Calls.evalArgs_plain h)
theorem xg {n i:Nat} {nm:Str} {kp kpos:Pos} {call:CallT} (T:TopOk d.B.heap FA G) (hE:EnvOk p d) (ho:okTop p nm=true) (hos:okTop p "sorted"=true) (hi:fnames[i]?=some nm) (hC:CallC prog w d.B n (FA i) (call i)) (hA:COk A.in1.in1 d.fs n) (hd0:d.hd=none)
  (hn:NoStar y) (hy:TE prog w A d cv y g):TE prog w A d cv (.Call (.Name "sorted" np) [y] [⟨some "key",.Name nm kp,kpos⟩] pos) fun st=>(g st).bind fun x st=>sortKV call i x st:=fun ρ s st I=>by
 refine ((hy ρ s st I).bind (F:=fun va Q E s=>wpAny (model prog w) A (eval (.Name nm kp) d.env) (fun k s=>wpAny (model prog w) A (PySem.call (.builtin "sorted") [va] [(bF "key",k)]) Q E s) E s) fun a st1 va s1 ρ1 _ r1 p1=>
  (uO hC hA hd0 p1.inv r1).imp fun Q E h=>oV T hE ho hi p1.inv h).imp fun Q E h=>?_
 have he:=bI (xs:=[]) (env:=d.env) hn
 refine wpAny_bind (cU T hE hos (tz .sorted).1 I ?_)
 refine callWith_kw ?_ (by rw [he];rfl) (by rw [he];rfl)
 rw [he]
 refine Calls.spliced_cons (wpAny_mono h (fun va s1 h1=>Calls.spliced_nil ?_) fun _ _ e=>e)
 show wpAny _ _ (evalAll [(do let v ← eval (.Name nm kp) d.env;standAt pos;pure v)]) _ _ _
 refine wpAny_bind (wpAny_bind (wpAny_mono h1 (fun k s2 h2=>wpAny_bind (wpAny_standAt (wpAny_pure ?_))) fun _ _ e=>e))
 refine wpAny_bind (wpAny_holding (wpAny_pure (wpAny_pure ?_)))
 exact h2
end
theorem Runs.size_le {M:Model} {Γ:Ctx} {p:Pos} {t:Sem PySem.Fin} {fs:List Frame} {s s':Shared} {e:End} (h:Runs M Γ p t fs s e s'):s.heap.objs.size≤s'.heap.objs.size:=by
 induction h<;>(try simp only [Shared.setGen,aO,aH] at *)<;>grind
theorem Wakes.size_le {M:Model} {Γ:Ctx} {p:Pos} {g:Nat} {r:Resume} {s s':Shared} {res:GenResult} (h:Wakes M Γ p g r s res s'):s.heap.objs.size≤s'.heap.objs.size:=by
 unfold Wakes at h
 split at h
 ·exact h.elim
 ·split at h
  ·obtain⟨e₁,s₁,hr,_,_,rfl⟩:=h;exact (Runs.size_le hr:(s.setGen g .running).heap.objs.size≤s₁.heap.objs.size)
  ·rw [h.2];exact am _
  ·rw [h.2];exact am _
 ·obtain⟨e₁,s₁,hr,_,_,rfl⟩:=h;exact (Runs.size_le hr:(s.setGen g .running).heap.objs.size≤s₁.heap.objs.size)
 ·rw [h.2];exact am _
 ·rw [h.2];exact am _
theorem zi {α:Type} (M:Model) (Γ:Ctx) (n:Nat) (t:Sem α):∀ (Q:α→Pos→Shared→Prop) (E:Value→Pos→Shared→Prop) (p:Pos) (s:Shared),n≤s.heap.objs.size→Sem.wp M Γ t Q E p s →
  Sem.wp M Γ t (fun a p' s'=>n≤s'.heap.objs.size∧Q a p' s') (fun e p' s'=>n≤s'.heap.objs.size∧E e p' s') p s:=by
 induction t with
 | pure a=>intro Q E p s hn h;exact⟨hn,h⟩
 | raise e=>intro Q E p s hn h;exact⟨hn,h⟩
 | unsupported _=>intro Q E p s _ h;exact h
 | finish _=>intro Q E p s _ h;exact h
 | rule _ k ih=>intro Q E p s hn h;exact ih () Q E p s hn h
 | «at» p' k ih=>intro Q E p s hn h;exact ih () Q E p' s hn h
 | load a _ k ih=>intro Q E p s hn h;obtain⟨o,ho,h⟩:=h;exact⟨o,ho,ih o Q E p s hn h⟩
 | update a _ f k ih=>intro Q E p s hn h;exact⟨h.1,ih () Q E p _ (by show n≤(s.heap.update a f).objs.size;rw [aO];exact hn) h.2⟩
 | loadIfAlive a k ih=>intro Q E p s hn h;exact ih _ Q E p s hn h
 | point _ k ih=>intro Q E p s hn h;exact ih () Q E p s hn h
 | register _ _=>intro Q E p s _ h;exact h
 | alloc o k ih=>intro Q E p s hn h;exact ih _ Q E p _ (by show n≤(s.heap.push o).objs.size;rw [aH];exact cq hn) h
 | fresh k ih=>intro Q E p s hn h;exact ih _ Q E p _ hn h
 | ask k ih=>intro Q E p s hn h;exact ih _ Q E p s hn h
 | choose src m k ih=>intro Q E p s hn h;exact⟨h.1,ih _ Q E p _ hn h.2⟩
 | os q _ k ih=>intro Q E p s hn h;exact ih _ Q E p _ hn h
 | call c hd _ _ k ih=>intro Q E p s hn h;obtain⟨r,s',hr,h⟩:=h;exact⟨r,s',hr,ih r Q E p s' (aj hn (Runs.size_le hr)) h⟩
 | handled own k ih=>intro Q E p s hn h;exact ih _ Q E p s hn h
 | genState g k ih=>intro Q E p s hn h;obtain⟨st,hs,h⟩:=h;exact⟨st,hs,ih _ Q E p s hn h⟩
 | newGen c k ih=>intro Q E p s hn h;exact ih _ Q E p _ hn h
 | resume g r _ k ih=>intro Q E p s hn h;obtain⟨res,s',hw,h⟩:=h;exact⟨res,s',hw,ih res Q E p s' (aj hn (Wakes.size_le hw)) h⟩
 | yield _ _ _ _=>intro Q E p s _ h;exact h
 | stack k ih=>intro Q E p s hn h;exact ih _ Q E p s hn h
 | fork _ _=>intro Q E p s _ h;exact h
 | thread k ih=>intro Q E p s hn h;exact ih _ Q E p s hn h
 | await _ _ _ _ _=>intro Q E p s _ h;exact h
theorem cN {α:Type} {M:Model} {A:Around} {s:Shared} {t:Sem α} {Q:α→Shared→Prop} {E:Value→Shared→Prop}
  (h:wpAny M A t (fun a s'=>s.heap.objs.size≤s'.heap.objs.size→Q a s') (fun e s'=>s.heap.objs.size≤s'.heap.objs.size→E e s') s):wpAny M A t Q E s:=
 fun Γ p hΓ=>Sem.wp_mono M Γ t (fun _ _ _ x=>x.2 x.1) (fun _ _ _ x=>x.2 x.1) p s (zi M Γ _ t _ _ p s (am _) (h Γ p hΓ))
section
variable {prog:Program} {w:World} {A:Around} {d:D} {ρ ρ':List Addr} {cv:Option V} {s:Shared} {st:St} {B:Heap} {h h':Heap}
def IsIt (h:Heap) (a:Addr):Prop:=∃ o vs,h.get? a=some o∧o.data = .fields vs∧o.cls ≠ .type "builtin_function_or_method"∧o.cls ≠ .type "IndexError"
theorem IsIt.keep {h h':Heap} {a:Addr} (sz:h.objs.size≤h'.objs.size) (hs:∀ b o,b≠a→h.get? b=some o→h'.get? b=some o):Keep (fun b=>b=a) h h':=⟨fun b o e n=>.same (hs b o n e),sz⟩
theorem IsIt.at {h:Heap} {a:Addr} (hi:IsIt h a):∀ b o,h.get? b=some o→b=a→(∃ vs,o.data = .fields vs)∧o.cls ≠ .type "builtin_function_or_method"∧o.cls ≠ .type "IndexError":=fun b o e q=>by
 subst q
 obtain⟨o',vs,e',hd,hc⟩:=hi
 cases e.symm.trans e'
 exact⟨⟨vs,hd⟩,hc⟩
theorem IsIt.writ {h:Heap} {a:Addr} (hi:IsIt h a):Writ (fun b=>b=a) h:=fun b o e q=>let ⟨⟨vs,hd⟩,hc⟩:=hi.at b o e q; ⟨fun xs n z=>(nomatch hd.symm.trans z),fun _ _=>hc⟩
theorem AF {a L:Addr} {m:Str→Option Value} (hi:IsIt h a) (n:h.Ns L m):L≠a:=by
 rintro rfl
 obtain⟨o,vs,e,hd,_⟩:=hi
 obtain⟨o',es,ep,e',hd',_⟩:=n
 rw [e] at e';cases e';rw [hd] at hd';cases hd'
theorem Ap {a c:Addr} {v:Option Value} (hi:IsIt h a) (n:h.IsCell c v):c≠a:=by
 rintro rfl
 obtain⟨o,vs,e,hd,_⟩:=hi
 obtain⟨o',e',hd'⟩:=n
 rw [e] at e';cases e';rw [hd] at hd';cases hd'
theorem Inv.iter (I:Inv d ρ cv s st) {a:Addr} (hi:IsIt s.heap a) (hB:d.B.heap.get? a=none) {h':Heap} {t:Nat} (sz:s.heap.objs.size≤h'.objs.size) (hs:∀ b o,b≠a→s.heap.get? b=some o→h'.get? b=some o) :
  Inv d ρ cv { s with heap:=h',toks:=t } st:=
 I.keepF (W:=fun b=>b=a) (IsIt.keep sz hs) hi.at (fun b q=>by rw [q];exact hB) (fun b o e=>hs b o (fun q=>by rw [q,hB] at e;cases e) (I.h.base b o e)) rfl rfl
def ItAt (B:Heap) (ρ:List Addr) (h:Heap) (a:Addr) (i:Nat):V→Prop
 | .loc n=>∃ l,ρ[n]?=some l∧h.IsListIter a l i
 | .flist l=>∃ b o xs k,B.get? b=some o∧o.cls = .type "list"∧o.data = .seq xs k∧VRs B ρ h l xs.toList∧h.IsListIter a b i
 | .tup l=>∃ b xs k,h.get? b=some (tobj xs k)∧VRs B ρ h l xs.toList∧h.IsTupleIter a b i
 | .str l=>l.length≤LIM∧∃ T t,(T="str_ascii_iterator"∧(mk l).cps.all (· < 128)=true∨T="str_iterator"∧(mk l).cps.all (· < 128)=false)∧h.IsStrIter a T (mk l) t i
 | _=>False
end
section
variable {prog:Program} {w:World} {A:Around} {d:D} {ρ ρ':List Addr} {cv:Option V} {s:Shared} {st:St} {B:Heap} {h h':Heap}
theorem itC {c:Value} (h:c = .type "list_iterator"∨c = .type "tuple_iterator"∨c = .type "str_ascii_iterator"∨c = .type "str_iterator"):c ≠ .type "builtin_function_or_method"∧c ≠ .type "IndexError":=by
 have key:∀ {T U:String},T≠U→c = .type T→c ≠ .type U:=fun n e q=>n (Value.type.inj (e.symm.trans q))
 rcases h with h | h | h | h<;>exact⟨key (by decide) h,key (by decide) h⟩
theorem ItAt.isIt {a:Addr} {i:Nat} {v:V} (t:ItAt B ρ h a i v):IsIt h a:=by
 cases v with
 | loc n=>obtain⟨l,_,o,e,c,hd⟩:=t;exact⟨o,_,e,hd,itC (.inl c)⟩
 | flist l=>obtain⟨b,o',xs,k,_,_,_,_,o,e,c,hd⟩:=t;exact⟨o,_,e,hd,itC (.inl c)⟩
 | tup l=>obtain⟨b,xs,k,_,_,o,e,c,hd⟩:=t;exact⟨o,_,e,hd,itC (.inr (.inl c))⟩
 | str l=>
  obtain⟨_,T,t,hT,o,e,c,hd⟩:=t
  exact⟨o,_,e,hd,itC (.inr (.inr (hT.imp (fun q=>c.trans (congrArg Value.type q.1)) fun q=>c.trans (congrArg Value.type q.1))))⟩
 | _=>exact t.elim
theorem ItAt.keep {W:Addr→Prop} (k:Keep W h h') (w:Writ W h) (g:∀ (n:Nat) (a:Addr),ρ[n]?=some a→ρ'[n]?=some a) {a:Addr} {i:Nat} {v:V} (na:¬W a) (t:ItAt B ρ h a i v):ItAt B ρ' h' a i v:=by
 cases v with
 | loc n=>
  obtain⟨l,h1,o,e,c,hd⟩:=t
  obtain⟨o',e',c',_,d',_⟩:=k.old _ _ e na
  exact⟨l,g _ _ h1,o',e',c'.trans c,d'.trans hd⟩
 | flist l=>
  obtain⟨b,ob,xs,q,h1,h2,h3,h4,o,e,c,hd⟩:=t
  obtain⟨o',e',c',_,d',_⟩:=k.old _ _ e na
  exact⟨b,ob,xs,q,h1,h2,h3,VRs.keep k w g h4,o',e',c'.trans c,d'.trans hd⟩
 | tup l=>
  obtain⟨b,xs,q,h1,h4,o,e,c,hd⟩:=t
  obtain⟨o',e',c',_,d',_⟩:=k.old _ _ e na
  exact⟨b,xs,q,k.tup w h1,VRs.keep k w g h4,o',e',c'.trans c,d'.trans hd⟩
 | str l=>
  obtain⟨z,T,t,hT,o,e,c,hd⟩:=t
  obtain⟨o',e',c',_,d',_⟩:=k.old _ _ e na
  exact⟨z,T,t,hT,o',e',c'.trans c,d'.trans hd⟩
 | _=>exact t.elim
theorem IsIt.notW {a:Addr} (hi:IsIt s.heap a) (I:Inv d ρ cv s st):¬d.W ρ a:=fun q=>by
 rcases q with q | q | ⟨_,x,q⟩
 ·obtain⟨o,vs,e,hd,_⟩:=hi
  exact I.h.ne_data e (fun _ _ z=>nomatch hd.symm.trans z) q
 ·obtain⟨m,n,_⟩:=I.dict
  exact AF hi n q.symm
 ·obtain⟨v,c,_⟩:=I.cfresh x a q
  exact Ap hi c rfl
theorem uj {x:V} {a:Value} {r:Option V} {Q:Value→Shared→Prop} {E:Value→Shared→Prop} (I:Inv d ρ cv s st) (hx:VR d.B.heap ρ s.heap x a) (hn:nextOf st.hp 0 x=some r)
  (hq:∀ o,ItAt d.B.heap ρ (s.heap.push o) s.heap.objs.size 0 x→Q (.ref s.heap.objs.size) { s with heap:=s.heap.push o }):wpAny (model prog w) A (pyIter a) Q E s:=by
 have up:∀ (o:Obj) {l:List V} {xs:List Value},VRs d.B.heap ρ s.heap l xs→VRs d.B.heap ρ (s.heap.push o) l xs:=fun o _ _ r=>r.up (fun _ _ e=>af _ e) (Keep.push (W:=fun _=>False) _).size
 cases x with
 | loc n=>
  obtain⟨c,ha,rfl⟩:=hx
  obtain⟨xs,k,e⟩:=I.h.at (ac ha)
  exact wpAny_pyIter_list (br e) (hq _ ⟨_,ha,_,ao _ rfl,rfl,rfl⟩)
 | flist l=>
  obtain⟨c,o,xs,n,rfl,e1,c1,d1,z1,r1⟩:=hx
  exact wpAny_pyIter_list ⟨_,I.h.base _ _ e1,c1,_,d1⟩ (hq _ ⟨_,_,_,_,e1,c1,d1,up _ r1,_,ao _ rfl,rfl,rfl⟩)
 | tup l=>
  obtain⟨c,xs,n,rfl,e1,z1,r1⟩:=hx
  exact wpAny_pyIter_tuple ⟨_,e1,rfl,_,rfl⟩ (hq _ ⟨_,_,_,af _ e1,up _ r1,_,ao _ rfl,rfl,rfl⟩)
 | str l=>
  obtain⟨hz,t,rfl⟩:=hx
  cases ha:(mk l).cps.all (· < 128)
  ·exact wpAny_pyIter_wide ha (hq _ ⟨hz,_,t,.inr ⟨rfl,ha⟩,_,ao _ rfl,rfl,rfl⟩)
  ·exact wpAny_pyIter_ascii ha (hq _ ⟨hz,_,t,.inl ⟨rfl,ha⟩,_,ao _ rfl,rfl,rfl⟩)
 | _=>exact cT hn
structure NextQ (B:Heap) (ρ:List Addr) (s:Shared) (a:Addr) (i:Nat) (x:V) (r:Option V) (Q:Option Value→Shared→Prop):Prop where
 item:∀ y v h' tk,r=some y→VR B ρ h' y v→ItAt B ρ h' a (i+1) x→(∀ b o,b≠a→s.heap.get? b=some o→h'.get? b=some o)→s.heap.objs.size≤h'.objs.size→Q (some v) { s with heap:=h',toks:=tk }
 fin:∀ h' tk,r=none→(∀ b o,b≠a→s.heap.get? b=some o→h'.get? b=some o)→s.heap.objs.size≤h'.objs.size→Q none { s with heap:=h',toks:=tk }
theorem nU {i:Nat} {x:V} {a l:Addr} {xs:Array Value} {lv:List V} {r:Option V} {Q:Option Value→Shared→Prop} {E:Value→Shared→Prop} (hA:A.handled=none) (q:NextQ B ρ s a i x r Q) (hi:IsIt s.heap a) (hit:s.heap.IsListIter a l i) (hl:s.heap.IsList l xs) (rv:VRs B ρ s.heap lv xs.toList) (hr:lv[i]?=r)
  (k:∀ h',h'.IsListIter a l (i+1)→Keep (fun b=>b=a) s.heap h'→ItAt B ρ h' a (i+1) x):wpAny (model prog w) A (pyNext (.ref a)) Q E s:=by
 cases r with
 | some y=>
  obtain⟨v,hv,ry⟩:=rv.get hr
  refine wpAny_pyNext_list_item hit hl (x:=v) (by rw [←ba];exact hv) fun h' hit' hs=>?_
  have same:∀ b o,b≠a→s.heap.get? b=some o→h'.get? b=some o:=fun b o n e=>(hs.2 b n).trans e
  have sz:=bS hs.1.symm
  have K:=IsIt.keep sz same
  exact q.item y v h' s.toks rfl (VR.keep K hi.writ (fun _ _ e=>e) ry) (k h' hit' K) same sz
 | none=>
  have:xs[i]?=none:=c5 (by rw [lens rv];exact bq.mp hr)
  exact cN (wpAny_pyNext_list_end hA hit hl this fun h' he hsz=>q.fin h' s.toks rfl he hsz)
theorem qG {i:Nat} {l:List Nat} {a:Addr} {T:String} {t:Tok} {r:Option V} {Q:Option Value→Shared→Prop} {E:Value→Shared→Prop} (q:NextQ B ρ s a i (.str l) r Q) (hz:l.length≤LIM) (hT:T="str_ascii_iterator"∧(mk l).cps.all (· < 128)=true∨T="str_iterator"∧(mk l).cps.all (· < 128)=false)
  (hit:s.heap.IsStrIter a T (mk l) t i) (hr:(l[i]?).map (fun c=>V.str [c])=r) (W:Walks prog w A a [a] [a] (mk l).cps.size (SignAt (mk l)) (fun i h=>h.IsStrIter a T (mk l) t i))
  (fin:(mk l).cps[i]?=none→∀ (Q:Option Value→Shared→Prop) E,(∀ h',mI a s.heap h'→Q none { s with heap:=h' })→wpAny (model prog w) A (pyNext (.ref a)) Q E s):wpAny (model prog w) A (pyNext (.ref a)) Q E s:=by
 cases hl:l[i]? with
 | some c=>
  rw [hl] at hr
  subst hr
  refine cN (W.item i s _ _ (ag.mp hl).1 hit fun v h' tk hP hit' hk hsz'=>?_)
  obtain⟨c',u,hc,rfl⟩:=hP
  have hc':l[i]?=some c':=by rw [←hc];exact List.getElem?_toArray.symm
  cases hl.symm.trans hc'
  exact q.item _ _ h' tk rfl (.str [c] u nN) ⟨hz,T,t,hT,hit'⟩ (fun b o n e=>hk b o (fun z=>n (ay.mp z)) e) hsz'
 | none=>
  rw [hl] at hr
  subst hr
  exact cN (fin (c5 (bq.mp hl)) _ _ fun h' he hsz'=>q.fin h' s.toks rfl he hsz')
theorem la {i:Nat} {x:V} {a:Addr} {r:Option V} {Q:Option Value→Shared→Prop} {E:Value→Shared→Prop} (hA:A.handled=none) (I:Inv d ρ cv s st) (ht:ItAt d.B.heap ρ s.heap a i x) (hn:nextOf st.hp i x=some r) (q:NextQ d.B.heap ρ s a i x r Q) :
  wpAny (model prog w) A (pyNext (.ref a)) Q E s:=by
 have hi:=ht.isIt
 cases x with
 | loc n=>
  obtain⟨l,ha,hit⟩:=ht
  obtain⟨lv,hlv,hr⟩:=aF.mp hn
  obtain⟨b,xs,k,L⟩:=I.cellOf hlv
  cases ha.symm.trans L.i
  exact nU hA q hi hit L.is L.r hr fun h' hit' _=>⟨_,ha,hit'⟩
 | flist l=>
  obtain⟨b,ob,xs,k,e1,c1,d1,r1,hit⟩:=ht
  exact nU hA q hi hit ⟨_,I.h.base _ _ e1,c1,_,d1⟩ r1 (Option.some.inj hn) fun h' hit' K=>⟨b,ob,xs,k,e1,c1,d1,VRs.keep K hi.writ (fun _ _ e=>e) r1,hit'⟩
 | tup l=>
  obtain⟨b,xs,k,e1,r1,hit⟩:=ht
  have hr:l[i]?=r:=Option.some.inj hn
  have hT:s.heap.IsTuple b xs:=⟨_,e1,rfl,_,rfl⟩
  cases r with
  | some y=>
   obtain⟨v,hv,rv⟩:=r1.get hr
   refine wpAny_pyNext_tuple_item hit hT (x:=v) (by rw [←ba];exact hv) fun h' hit' hs=>?_
   have same:∀ b o,b≠a→s.heap.get? b=some o→h'.get? b=some o:=fun b o n e=>(hs.2 b n).trans e
   have sz:=bS hs.1.symm
   have K:=IsIt.keep sz same
   exact q.item y v h' s.toks rfl (VR.keep K hi.writ (fun _ _ e=>e) rv) ⟨b,xs,k,K.tup hi.writ e1,VRs.keep K hi.writ (fun _ _ e=>e) r1,hit'⟩ same sz
  | none=>
   have:xs[i]?=none:=c5 (by rw [lens r1];exact bq.mp hr)
   exact cN (wpAny_pyNext_tuple_end hA hit hT this fun h' he hsz=>q.fin h' s.toks rfl he hsz)
 | str l=>
  obtain⟨hz,T,t,hT,hit⟩:=ht
  have hr:(l[i]?).map (fun c=>V.str [c])=r:=Option.some.inj hn
  have hT':=hT
  rcases hT with ⟨rfl,_⟩ | ⟨rfl,_⟩
  ·exact qG q hz hT' hit hr (Walks.strAscii hA a (mk l) t) fun hx Q E h=>wpAny_pyNext_ascii_end hA hit hx h
  ·exact qG q hz hT' hit hr (Walks.strWide hA a (mk l) t) fun hx Q E h=>wpAny_pyNext_wide_end hA hit hx h
 | _=>exact ht.elim
theorem Ad {i:Nat} {x:V} {a:Addr} {Q:Value→Shared→Prop} {E:Value→Shared→Prop} (ht:ItAt B ρ s.heap a i x) (h:Q (.ref a) s):wpAny (model prog w) A (pyIter (.ref a)) Q E s:=by
 cases x with
 | loc n=>obtain⟨l,_,hit⟩:=ht;exact wpAny_pyIter_listiter hit h
 | flist l=>obtain⟨b,o,xs,q,_,_,_,_,hit⟩:=ht;exact wpAny_pyIter_listiter hit h
 | tup l=>obtain⟨b,xs,q,_,_,hit⟩:=ht;exact wpAny_pyIter_tupleiter hit h
 | str l=>
  obtain⟨z,T,t,hT,hit⟩:=ht
  rcases hT with ⟨rfl,_⟩ | ⟨rfl,_⟩
  ·exact wpAny_pyIter_striter_ascii hit h
  ·exact wpAny_pyIter_striter_wide hit h
 | _=>exact ht.elim
end
noncomputable def clos (cells:List (Str×Addr)):List (Str×NameKind)→List (Str×Addr)→List (Str×Addr)
 | [],cs=>cs
 | (n,k)::r,cs=>clos cells r (if k == .free then (n,(cells.lookup n).getD 0)::cs else cs)
theorem pD {scope:Scope} {env:Env} (h:∀ n,(n,NameKind.free)∈scope.names→∃ c,env.cells.lookup n=some c):closureFor scope env=pure (clos env.cells scope.names []):=by
 have key:∀ (l:List (Str×NameKind)) (cs:List (Str×Addr)),(∀ n,(n,NameKind.free)∈l→∃ c,env.cells.lookup n=some c) →
   (forIn l cs fun (x:Str×NameKind) (r:List (Str×Addr))=>(if (x.2 == NameKind.free)=true then do
    let c ← cellOf env x.1
    pure (ForInStep.yield ((x.1,c)::r)) else pure (ForInStep.yield r):Sem (ForInStep (List (Str×Addr)))))=pure (clos env.cells l cs):=by
  intro l
  induction l with
  | nil=>intro cs _;rw [List.forIn_nil];rfl
  | cons x l ih=>
   intro cs hl
   obtain⟨n,k⟩:=x
   rw [dD]
   by_cases hk:(k == NameKind.free)=true
   ·obtain⟨c,hc⟩:=hl n (by rw [show k=NameKind.free from eq_of_beq hk];exact .head _)
    have hcell:cellOf env n=pure c:=by unfold cellOf;rw [hc]
    simp only [hk,if_true,hcell,pure_bind]
    rw [ih _ fun m hm=>hl m (.tail _ hm)]
    simp only [clos,hk,if_true,hc,Option.getD_some]
   ·simp only [hk,be,if_false,pure_bind]
    rw [ih _ fun m hm=>hl m (.tail _ hm)]
    simp only [clos,hk,be,if_false]
 have:=key scope.names [] h
 unfold closureFor
 simp only [bind_pure]
 first
  | exact this
  | (simp only at this ⊢;exact this)
  | (refine Eq.trans ?_ this;congr 1)
theorem rg {cells:List (Str×Addr)}:∀ {l:List (Str×NameKind)} {cs:List (Str×Addr)} {x:Str×Addr},x∈clos cells l cs→x∈cs∨((x.1,NameKind.free)∈l∧x.2=(cells.lookup x.1).getD 0)
 | [],_,_,h=>.inl h
 | (n,k)::r,cs,x,h=>by
  rw [clos] at h
  rcases rg h with h | ⟨h1,h2⟩
  ·split at h
   ·rename_i hk
    rcases az.mp h with rfl | h
    ·exact .inr ⟨by rw [show k=NameKind.free from eq_of_beq hk];exact .head _,rfl⟩
    ·exact .inl h
   ·exact .inl h
  ·exact .inr ⟨.tail _ h1,h2⟩
theorem kB {cells:List (Str×Addr)} {x:Str}:∀ {l:List (Str×NameKind)} {cs:List (Str×Addr)},((x,NameKind.free)∈l∨cs.lookup x=some ((cells.lookup x).getD 0))→(clos cells l cs).lookup x=some ((cells.lookup x).getD 0)
 | [],cs,h=>h.elim (fun h=>nomatch h) id
 | (n,k)::r,cs,h=>by
  rw [clos]
  refine kB ?_
  rcases h with h | h
  ·rcases az.mp h with h | h
   ·cases h
    right
    simp
   ·exact .inl h
  ·right
   split
   ·rw [gR]
    split
    ·rename_i hx
     have:=eq_of_beq hx
     subst this
     rfl
    ·exact h
   ·exact h
noncomputable def relab (kinds names:List (Str×NameKind)):List (Str×NameKind):=names.map fun (n,k)=>if (k == .free&&kinds.lookup n == some .cell) then (n,.cell) else (n,k)
noncomputable def dcomp (d:D) (scope:Scope) (C:Addr) (cl:List (Str×Addr)) (y:Str):D:={ d with env:={ newEnv scope C d.env.globals cl d.env.qual none .none (some d.env) builtinsNs with scope:=relabel scope d.env },comp:=some y }
noncomputable def pcomp (p:P) (scope:Scope) (y:Str):P:=⟨p.fnm,relab p.kinds scope.names,some y,false,true,p.cx⟩
noncomputable def okScope (p:P) (scope:Scope) (y:Str):Bool:=
 scope.kind == .function&&!p.hd&&scope.names.all (fun x=>x.2 != .cell)&&scope.names.all (fun x=>x.2 != .local||scope.names.lookup x.1 == some .local)&&scope.names.lookup y == some .local &&
  (scope.names.map (·.1)).Nodup&&scope.names.all (fun x=>x.2 != .free||(p.kinds.lookup x.1 == some .cell&&p.fnm.contains (x.1,.cell)))
structure ScopeOk (p:P) (scope:Scope) (y:Str):Prop where
 kind:scope.kind = .function
 hd:p.hd=false
 cell:∀ x∈scope.names,x.2 ≠ .cell
 loc:∀ x∈scope.names,x.2 = .local→scope.names.lookup x.1=some .local
 y:scope.names.lookup y=some .local
 nodup:(scope.names.map (·.1)).Nodup
 free:∀ n,(n,NameKind.free)∈scope.names→p.kinds.lookup n=some .cell∧∃ i:Nat,p.fnm[i]?=some (n,NameKind.cell)
theorem gC {p:P} {scope:Scope} {y:Str} (h:okScope p scope y=true):ScopeOk p scope y:=by
 unfold okScope at h
 simp only [aS,beq_iff_eq,ax,bne_iff_ne,decide_eq_true_eq,eK,dQ,ne_eq] at h
 obtain⟨⟨⟨⟨⟨⟨h1,h2⟩,h3⟩,h4⟩,h5⟩,h6⟩,h7⟩:=h
 refine⟨h1,h2,h3,fun x hx hl=>(h4 x hx).resolve_left (fun q=>q hl),h5,h6,fun n hn=>?_⟩
 have:=(h7 _ hn).resolve_left (fun q=>q rfl)
 refine⟨this.1,?_⟩
 have hm:(n,NameKind.cell)∈p.fnm:=by simpa using this.2
 exact bJ hm
section
variable {prog:Program} {w:World} {A:Around} {p:P} {d:D} {ρ:List Addr} {cv:Option V} {s:Shared} {st:St} {scope:Scope} {y:Str}
theorem iS (hE:EnvOk p d) (scope:Scope):(relabel scope d.env).names=relab p.kinds scope.names:=by
 unfold relabel relab
 refine cO fun x _=>?_
 obtain⟨n,k⟩:=x
 have:d.env.kindOf n=p.kinds.lookup n:=by unfold c8;rw [hE.kinds]
 simp only [this,hE.fn,beq_self_eq_true,gj]
theorem EnvOk.comp' (hE:EnvOk p d) (hS:ScopeOk p scope y) (C:Addr) (cl:List (Str×Addr)):EnvOk (pcomp p scope y) (dcomp d scope C cl y):=
 ⟨hE.fnm,iS hE scope,hS.kind,rfl,hE.gl,hE.bl,fun _=>hE.hd hS.hd,hE.cx⟩
theorem gG (hE:EnvOk p d) (hS:ScopeOk p scope y) (I:Inv d ρ cv s st):∀ n,(n,NameKind.free)∈scope.names→∃ c,d.env.cells.lookup n=some c:=fun n hn=>by
 obtain⟨h1,i,h2⟩:=hS.free n hn
 obtain⟨c,v,h3,_⟩:=I.cells i n (by rw [hE.fnm];exact h2) (by unfold c8;rw [hE.kinds];exact h1)
 exact⟨c,h3⟩
theorem cV {α:Type} {l:List (Str×α)} {x:Str} {c:α} (h:l.lookup x=some c):(x,c)∈l:=by
 induction l with
 | nil=>cases h
 | cons a l ih=>
  obtain⟨n,b⟩:=a
  rw [gR] at h
  split at h
  ·rename_i hx
   cases h
   rw [eq_of_beq hx]
   exact .head _
  ·exact .tail _ (ih h)
theorem sA {kinds names:List (Str×NameKind)} {x:Str} (hc:∀ z∈names,z.2 ≠ .cell) (h:(relab kinds names).lookup x=some .cell):(x,NameKind.free)∈names∧kinds.lookup x=some .cell:=by
 have hm:=cV h
 unfold relab at hm
 obtain⟨⟨n,k⟩,hz,he⟩:=bE.mp hm
 simp only at he
 split at he
 ·rename_i hk
  rw [aS,beq_iff_eq,beq_iff_eq] at hk
  cases he
  rw [hk.1] at hz
  exact⟨hz,hk.2⟩
 ·cases he
  exact absurd rfl (hc _ hz)
theorem rI {cells:List (Str×Addr)} (ha:cells.Pairwise fun x y=>x.2≠y.2) {a b:Str} {c c':Addr} (h1:cells.lookup a=some c) (h2:cells.lookup b=some c') (hne:a≠b):c≠c':=by
 have m1:=cV h1
 have m2:=cV h2
 intro e
 subst e
 clear h1 h2
 induction cells with
 | nil=>cases m1
 | cons x l ih=>
  have ha':=bn.mp ha
  rcases az.mp m1 with q1 | q1
  ·rcases az.mp m2 with q2 | q2
   ·rw [←q1] at q2;cases q2;exact hne rfl
   ·exact ha'.1 _ q2 (by rw [←q1])
  ·rcases az.mp m2 with q2 | q2
   ·exact ha'.1 _ q1 (by rw [←q2])
   ·exact ih ha'.2 q1 q2
theorem mz {cells:List (Str×Addr)} (ha:cells.Pairwise fun x y=>x.2≠y.2):∀ (l:List (Str×NameKind)) (cs:List (Str×Addr)),(l.map (·.1)).Nodup→(∀ x∈cs,cells.lookup x.1=some x.2∧x.1∉l.map (·.1)) →
  (∀ n,(n,NameKind.free)∈l→∃ c,cells.lookup n=some c)→cs.Pairwise (fun x y=>x.2≠y.2)→(clos cells l cs).Pairwise fun x y=>x.2≠y.2
 | [],cs,_,_,_,h=>h
 | (n,k)::r,cs,hn,hc,hf,h=>by
  rw [clos]
  rw [aZ,b0] at hn
  refine mz ha r _ hn.2 (fun x hx=>?_) (fun m hm=>hf m (.tail _ hm)) ?_
  ·split at hx
   ·rename_i hk
    obtain⟨c,hc'⟩:=hf n (by rw [show k=NameKind.free from eq_of_beq hk];exact .head _)
    rcases az.mp hx with rfl | hx
    ·exact⟨by rw [hc'];rfl,hn.1⟩
    ·exact⟨(hc x hx).1,fun q=>(hc x hx).2 (.tail _ q)⟩
   ·exact⟨(hc x hx).1,fun q=>(hc x hx).2 (.tail _ q)⟩
  ·split
   ·rename_i hk
    obtain⟨c,hc'⟩:=hf n (by rw [show k=NameKind.free from eq_of_beq hk];exact .head _)
    refine bn.mpr ⟨fun x hx=>?_,h⟩
    rw [hc']
    refine rI ha hc' (hc x hx).1 fun e=>(hc x hx).2 ?_
    rw [←e]
    exact .head _
   ·exact h
theorem Inv.comp (hE:EnvOk p d) (hS:ScopeOk p scope y) (I:Inv d ρ cv s st) {s':Shared} {ρ':List Addr} {σ':Hp} {C:Addr} {m:Str→Option Value} {v:Option V} (k:Keep (·∈ρ) s.heap s'.heap) (g:Grow ρ s.heap ρ') (H:InvH d.B d.fs d.hd ρ' s' σ') (hC:s.heap.objs.size≤C)
  (hn:s'.heap.Ns C m) (hv:VO d.B.heap ρ' s'.heap v (m y)):Inv (dcomp d scope C (clos d.env.cells scope.names []) y) ρ' v s' { st with hp:=σ' }:=by
 have I':=I.step k g H
 have fc:=gG hE hS I
 have at_:∀ x c,(x,c)∈clos d.env.cells scope.names []→d.env.cells.lookup x=some c:=fun x c h=>by
  rcases rg h with h | ⟨h1,h2⟩
  ·cases h
  ·obtain⟨c',hc'⟩:=fc x h1
   rw [show c=_ from h2,hc']
   rfl
 refine⟨H,I.h.b_new hC,⟨m,hn,⟨fun hc=>(nomatch hc),fun x hx=>?_⟩⟩,fun i x e1 e2=>?_,?_,fun x c e=>?_⟩
 ·cases hx;exact hv
 ·have e2':(relab p.kinds scope.names).lookup x=some .cell:=by
   have:(dcomp d scope C (clos d.env.cells scope.names []) y).env.kindOf x=(relabel scope d.env).names.lookup x:=rfl
   rw [this,iS hE] at e2
   exact e2
  obtain⟨f1,f2⟩:=sA hS.cell e2'
  obtain⟨c,u,h1,h2,h3,h4⟩:=I'.cells i x e1 (by unfold c8;rw [hE.kinds];exact f2)
  refine⟨c,u,?_,h2,h3,h4⟩
  have:=kB (cells:=d.env.cells) (x:=x) (l:=scope.names) (cs:=[]) (.inl f1)
  rw [h1] at this
  exact this
 ·exact mz I.capart scope.names [] hS.nodup (fun x hx=>nomatch hx) fc .nil
 ·exact I'.cfresh x c (cV (at_ x c e))
end
section
variable {prog:Program} {w:World} {A:Around} {p:P} {d:D} {ρ:List Addr} {cv cv':Option V} {s:Shared} {st st':St} {h':Heap} {t:Nat}
theorem eY {h:Heap} {L c:Addr} {m:Str→Option Value} {v:Option Value} (n:h.Ns L m) (k:h.IsCell c v):c≠L:=by
 rintro rfl
 obtain⟨o,es,ep,e,hd,_⟩:=n
 obtain⟨o',e',hd'⟩:=k
 rw [e] at e';cases e';exact nomatch hd.symm.trans hd'
theorem InvH.one {B:Shared} {fs:List Env} {hd:Option Value} {σ:Hp} (I:InvH B fs hd ρ s σ) {a:Addr} (hs:bk a s.heap h') (w:Writ (fun b=>b=a) s.heap) (hB:B.heap.get? a=none) (na:a∉ρ) (nf:∀ e∈fs,FrameAt B.heap h' e) :
  InvH B fs hd ρ { s with heap:=h',toks:=t } σ where
 base:=fun b o e=>(hs.2 b fun q=>by rw [q,hB] at e;cases e).trans (I.base b o e)
 gens:=I.gens
 os:=I.os
 len:=I.len
 list:=fun n l e=>(I.list n l e).keep (W:=fun b=>b=a) (.sameBut hs fun _=>rfl) w (fun _ _ e=>e) fun b hb q=>na (by rw [←q];exact hb)
 nodup:=I.nodup
 fresh:=I.fresh
 frames:=nf
 hok:=I.hok.keep (W:=fun b=>b=a) (.sameBut hs fun _=>rfl) w
theorem InvH.frames1 {B:Shared} {fs:List Env} {hd:Option Value} {σ:Hp} (I:InvH B fs hd ρ s σ) {a:Addr} (hs:bk a s.heap h') (nf:∀ e∈fs,e.frame≠some a):∀ e∈fs,FrameAt B.heap h' e:=fun e he=>
 (I.frames e he).keep (W:=fun b=>b=a) (.sameBut hs fun _=>rfl) fun L m f _ z=>nf e he (by rw [f,z])
theorem Inv.one (I:Inv d ρ cv s st) {a:Addr} (hs:bk a s.heap h') (w:Writ (fun b=>b=a) s.heap) (hB:d.B.heap.get? a=none) (na:a∉ρ) (nf:∀ e∈d.fs,e.frame≠some a) (nL:d.env.locals≠a) (nc:∀ x,(x,a)∉d.env.cells) :
  Inv d ρ cv { s with heap:=h',toks:=t } st where
 h:=I.h.one hs w hB na (I.h.frames1 hs nf)
 lfresh:=I.lfresh
 dict:=I.dict.keep (W:=fun b=>b=a) (.sameBut hs fun _=>rfl) w (fun _ _ e=>e) nL rfl
 cells:=fun i x e1 e2=>(I.cells i x e1 e2).keep (W:=fun b=>b=a) (.sameBut hs fun _=>rfl) w (fun _ _ e=>e) (fun c v l _ q=>nc x (by rw [←q];exact cV l)) rfl
 capart:=I.capart
 cfresh:=fun x c e=>(I.cfresh x c e).imp fun _ q=>⟨Keep.cell (W:=fun b=>b=a) (.sameBut hs fun _=>rfl) q.1 (fun z=>nc x (by rw [←z];exact e)),q.2⟩
theorem Inv.unknown (I:Inv d ρ cv s st) {a:Addr} {o:Obj} (e:s.heap.get? a=some o) (hd:∀ es n,o.data ≠ .dict es n) (hc:∀ v,o.data ≠ .cell v):(∀ e∈d.fs,e.frame≠some a)∧d.env.locals≠a∧∀ x,(x,a)∉d.env.cells:=by
 have ns:∀ {m},¬s.heap.Ns a m:=fun⟨o',es,ep,e',hd',_⟩=>by cases e.symm.trans e';exact hd _ _ hd'
 refine⟨fun f hf z=>?_,fun z=>?_,fun x z=>?_⟩
 ·obtain⟨L,m,h1,h2,_⟩:=I.h.frames f hf
  cases h1.symm.trans z;exact ns h2
 ·obtain⟨m,n,_⟩:=I.dict
  rw [z] at n;exact ns n
 ·obtain⟨v,⟨o',e',hd'⟩,_⟩:=I.cfresh x a z
  cases e.symm.trans e';exact hc _ hd'
theorem oA {h:Heap} {a:Addr} {m:Str→Option Value} (n:h.Ns a m):Writ (fun b=>b=a) h:=fun b o e hb=>by
 subst hb
 obtain⟨o',es,ep,e',hd,_⟩:=n
 exact gn e e' ⟨fun _ _ q=>(nomatch hd.symm.trans q),fun vs q=>(nomatch hd.symm.trans q)⟩
theorem Inv.dictSet (I:Inv d ρ cv s st) (hhp:st'.hp=st.hp) (hs:bk d.env.locals s.heap h') {m':Str→Option Value} (hn:h'.Ns d.env.locals m') (hm:DictOk d ρ s.heap cv' st' m')
  (hc:∀ (i:Nat) (x:Str),d.fnm[i]?=some (x,.cell)→st'.fv[i]?.join=st.fv[i]?.join):Inv d ρ cv' { s with heap:=h',toks:=t } st':=by
 obtain⟨m,hn0,_⟩:=I.dict
 have wr:=oA hn0
 have K:Keep (fun b=>b=d.env.locals) s.heap h':=.sameBut hs fun _=>rfl
 exact⟨by
   rw [hhp]
   refine I.h.one hs wr I.lfresh I.lne fun e he=>?_
   obtain⟨L,m0,h1,h2,h3⟩:=I.h.frames e he
   by_cases hL:L=d.env.locals
   ·exact⟨L,m',h1,by rw [hL];exact hn,h3⟩
   ·exact⟨L,m0,h1,K.ns h2 hL,h3⟩,I.lfresh,⟨m',hn,DictOk.keep (st:=st') K wr (fun _ _ e=>e) rfl hm⟩,fun i x e1 e2=>(I.cells i x e1 e2).keep K wr (fun _ _ e=>e) (fun _ _ _ h2=>eY hn0 h2) (hc i x e1),I.capart,fun x c e=>(I.cfresh x c e).imp fun _ q=>⟨K.cell q.1 (eY hn0 q.1),q.2⟩⟩
theorem Post.dictSet (I:Inv d ρ cv s st) (hhp:st'.hp=st.hp) (hs:bk d.env.locals s.heap h') {m':Str→Option Value} (hn:h'.Ns d.env.locals m') (hm:DictOk d ρ s.heap cv st' m')
  (hc:∀ (i:Nat) (x:Str),d.fnm[i]?=some (x,.cell)→st'.fv[i]?.join=st.fv[i]?.join):Post d ρ cv s ρ { s with heap:=h',toks:=t } st':=
 ⟨I.dictSet hhp hs hn hm hc,.sameBut hs fun _=>.inr (.inl rfl),.refl⟩
theorem Post.cellSet (I:Inv d ρ cv s st) (hd0:d.comp=none) (hhp:st'.hp=st.hp) {x0:Str} {i0:Nat} {c:Addr} {v0:Option Value} {u:Value} {vv:V} (hi:d.fnm[i0]?=some (x0,.cell)) (hx:d.env.cells.lookup x0=some c) (hcv:s.heap.IsCell c v0)
  (hs:bk c s.heap h') (hn:h'.IsCell c (some u)) (hv:VR d.B.heap ρ s.heap vv u) (h0:∀ w,st'.fv[i0]?.join=some w→w=vv) (hne:∀ j,j≠i0→st'.fv[j]?.join=st.fv[j]?.join) (hnd:∀ j,d.fnm[j]?=some (x0,.cell)→j=i0) :
  Post d ρ cv s ρ { s with heap:=h',toks:=t } st':=by
 have hcm:=cV hx
 have W:d.W ρ c:=.inr (.inr ⟨hd0,x0,hcm⟩)
 have K:Keep (fun b=>b=c) s.heap h':=.sameBut hs fun _=>rfl
 have wr:Writ (fun b=>b=c) s.heap:=fun b o e hb=>I.writ b o e (by rw [hb];exact W)
 have hcB:d.B.heap.get? c=none:=(I.cfresh x0 c hcm).elim fun _ h=>h.2
 have ne0:∀ {i:Nat} {x:Str} {k:NameKind},d.fnm[i]?=some (x,k)→(x≠x0∨k ≠ .cell)→i≠i0:=fun e h=>by
  rintro rfl
  cases hi.symm.trans e
  exact h.elim (fun h=>h rfl) fun h=>h rfl
 refine⟨⟨?_,I.lfresh,?_,fun i x e1 e2=>?_,I.capart,fun x c' e=>?_⟩,.sameBut hs fun _=>W,.refl⟩
 ·rw [hhp]
  exact I.h.one hs wr hcB (I.h.cne hcv) fun e he=>(I.h.frames e he).keep K fun L m _ h2 q=>eY h2 hcv q.symm
 ·obtain⟨m,m1,⟨m2,m3⟩⟩:=I.dict
  exact⟨m,K.ns m1 fun q=>eY m1 hcv q.symm,⟨fun hc i x e=>by rw [hne i (ne0 e (.inr fun q=>nomatch q))];exact (m2 hc i x e).keep K wr fun _ _ e=>e,fun x e=>by rw [hd0] at e;cases e⟩⟩
 ·by_cases hxx:x=x0
  ·subst hxx
   obtain rfl:=hnd i e1
   refine⟨c,some u,hx,hn,hcB,fun w hw=>?_⟩
   obtain rfl:=h0 w hw
   exact⟨u,rfl,VR.keep K wr (fun _ _ e=>e) hv⟩
  ·exact (I.cells i x e1 e2).keep K wr (fun _ _ e=>e) (fun c' v l _=>rI I.capart l hx hxx) (hne i (ne0 e1 (.inl hxx)))
 ·obtain⟨v,h1,h2⟩:=I.cfresh x c' e
  by_cases hcc:c'=c
  ·rw [hcc];exact⟨some u,hn,hcB⟩
  ·exact⟨v,K.cell h1 hcc,h2⟩
theorem Post.dictOff {st st':St} {s s':Shared} {ρ':List Addr} (I:Inv d ρ cv s st) (q:Post d ρ cv s ρ' s' st') {h':Heap} {C:Addr} {m:Str→Option Value} (hn:s'.heap.Ns C m) (lowC:s.heap.objs.size≤C) (hs:bk C s'.heap h'):Post d ρ cv s ρ' { s' with heap:=h' } st':=by
 refine⟨q.inv.one (t:=s'.toks) hs (oA hn) (I.h.b_new lowC) (q.inv.h.nne hn) (fun e he z=>?_) (fun z=>?_) fun x z=>?_,q.keep.trans (W':=fun b=>b=C) (.sameBut hs fun _=>rfl) fun b hb z=>absurd hb (by rw [z];exact bf.mpr lowC),q.grow⟩
 ·obtain⟨L,m0,q1,⟨o,es,ep,e',_⟩,_⟩:=I.h.frames e he
  cases q1.symm.trans z
  exact absurd (au e') (bf.mpr lowC)
 ·obtain⟨m0,⟨o,es,ep,e',_⟩,_⟩:=I.dict
  rw [z] at e'
  exact absurd (au e') (bf.mpr lowC)
 ·obtain⟨v,h1,_⟩:=q.inv.cfresh x C z
  exact eY hn h1 rfl
end
section
variable {prog:Program} {w:World} {A:Around} {p:P} {d:D} {ρ:List Addr} {cv:Option V} {s:Shared} {st:St} {scope:Scope} {y:Str}
theorem oU {α:Type} {r:Res α} {a:α} {st:St} (h:noEx r = .ok a st):r = .ok a st:=by
 cases r<;>first | exact h | cases h
theorem j5 {α:Type} {r:Res α} {st:St}:noEx r ≠ .ex st:=by cases r<;>(intro h;cases h)
inductive CompT (src:V) (g:V→St→Res (List V)) (k i:Nat) (st st':St) (full:List V):Prop
 | fin (n:nextOf st.hp i src=some none) (e:full=[]) (e':st'=st)
 | item (x:V) (ys:List V) (st1:St) (zs:List V) (n:nextOf st.hp i src=some (some x)) (eg:g x st = .ok ys st1) (c:compGo src g k (i+1) st1 = .ok zs st') (e:full=ys++zs)
theorem d7 {src:V} {g:V→St→Res (List V)} {k i:Nat} {st st':St} {full:List V} (h:compGo src g (k+1) i st = .ok full st'):CompT src g k i st st' full:=by
 unfold compGo at h
 cases hn:nextOf st.hp i src with
 | none=>rw [hn] at h;cases h
 | some o=>
  rw [hn] at h
  cases o with
  | none=>cases h;exact .fin hn rfl rfl
  | some x=>
   obtain⟨ys,st1,h1,h2⟩:=dk h
   obtain⟨zs,st2,h3,h4⟩:=dk h2
   cases h4
   exact .item x ys st1 zs hn (oU h1) h3 rfl
theorem fI {src:V} {g:V→St→Res (List V)} (k:Nat):∀ (i:Nat) (st st':St),compGo src g k i st ≠ .ex st':=by
 induction k with
 | zero=>intro i st st' h;cases h
 | succ k ih=>
  intro i st st' h
  unfold compGo at h
  cases hn:nextOf st.hp i src with
  | none=>rw [hn] at h;cases h
  | some o=>
   rw [hn] at h
   cases o with
   | none=>cases h
   | some x=>
    cases hg:noEx (g x st) with
    | ok ys st1=>
     simp only [hg] at h
     change (compGo src g k (i+1) st1).bind _=_ at h
     cases hr:compGo src g k (i+1) st1 with
     | ok zs st2=>rw [hr] at h;cases h
     | ex st2=>exact ih (i+1) st1 st2 hr
     | bad=>rw [hr] at h;cases h
    | ex st1=>exact j5 hg
    | bad=>simp only [hg] at h;cases h
structure AccOk (prog:Program) (w:World) (B:Heap) (id:String) (D:Addr) (good:V→Prop) (Acc:List Addr→Heap→List V→Prop):Prop where
 keep:∀ {ρ ρ':List Addr} {h h':Heap} {W:Addr→Prop} {l:List V},Keep W h h'→Writ W h→(∀ (n:Nat) (a:Addr),ρ[n]?=some a→ρ'[n]?=some a)→¬W D→Acc ρ h l→Acc ρ' h' l
 obj:∀ {ρ:List Addr} {h:Heap} {l:List V},Acc ρ h l→∃ o,h.get? D=some o∧(∀ es n,o.data ≠ .dict es n)∧(∀ v,o.data ≠ .cell v)∧WritO o
 add:∀ {A:Around} {ρ:List Addr} {s:Shared} {l:List V} {r:V} {a:Value} {Q:Value→Shared→Prop} {E:Value→Shared→Prop},Acc ρ s.heap l→l.length < LIM→good r→VR B ρ s.heap r a →
  (∀ h' tk,bk D s.heap h'→Acc ρ h' (l++[r])→s.toks≤tk→Q .none { s with heap:=h',toks:=tk })→wpAny (model prog w) A (call (.builtin id) [.ref D,a]) Q E s
inductive CompI (d d':D) (ρ₁:List Addr) (h₁:Heap) (I D:Addr) (Acc:List Addr→Heap→List V→Prop) (src:V) (g:V→St→Res (List V)) (full:List V) (stF:St) (n:Nat) (s':Shared):Prop
 | mk (ρ':List Addr) (st':St) (cv':Option V) (i:Nat) (done rest:List V) (tk:0 < s'.toks) (I':Inv d' ρ' cv' s' st') (K:Keep (·∈ρ₁) h₁ s'.heap) (G:Grow ρ₁ h₁ ρ') (it:ItAt d.B.heap ρ' s'.heap I i src) (nD:D∉ρ') (acc:Acc ρ' s'.heap done)
  (c:compGo src g n i st' = .ok rest stF) (e:full=done++rest)
theorem mT {d:D} {y:Str} {C:Addr} {cl:List (Str×Addr)} (h:scope.kind = .function):((dcomp d scope C cl y).env.scope.kind == .class||((dcomp d scope C cl y).env.scope.kind == .module&&(dcomp d scope C cl y).env.locals != (dcomp d scope C cl y).env.globals))=false:=
 kind_fn h
where
 kind_fn {env:Env} (h:env.scope.kind = .function):(env.scope.kind == .class||(env.scope.kind == .module&&env.locals != env.globals))=false:=by rw [h];rfl
noncomputable abbrev compIfs (ifs:List Expr) (env:Env):Sem Bool:=forIn ifs true fun c r=>if r=true then do let ok ← isTrue c env (eval c env);pure (ForInStep.yield ok) else pure (ForInStep.yield r)
noncomputable abbrev compG (tf:V→St→Res Bool) (ef:V→St→Res V):V→St→Res (List V):=fun y st=>(tf y st).bind fun b st=>if b then (ef y st).bind fun r st=>.ok [r] st else .ok [] st
noncomputable abbrev CompTurn (prog:Program) (w:World) (A:Around) (id:String) (elt:Expr) (y:Str) (px:Pos) (ifs:List Expr) (env:Env) (D:Addr) (J:Nat→Shared→Prop) (R:Result→Shared→Prop) (n:Nat) (r:Option Value) (s₁:Shared):Prop:=match r with
 | none=>R (.ok .next) s₁
 | some v=>wpAny (model prog w) A (assign (.Name y px) env v) (fun _ s₂=>
   wpAny (model prog w) A (compIfs ifs env) (fun ok s₃=>
    if ok=true then wpAny (model prog w) A (eval elt env) (fun x₁ s₄=>
     wpAny (model prog w) A (call (.builtin id) [.ref D,x₁]) (fun _ s₅=>∃ m,m < n∧J m s₅) (notedBy (model prog w) A env fun e s'=>R (.error e) s') s₄) (notedBy (model prog w) A env fun e s'=>R (.error e) s') s₃
    else ∃ m,m < n∧J m s₃) (notedBy (model prog w) A env fun e s'=>R (.error e) s') s₂) (notedBy (model prog w) A env fun e s'=>R (.error e) s') s₁
section
variable {id:String} {elt iter:Expr} {px pos:Pos} {ifs:List Expr} {tf:V→St→Res Bool} {ef:V→St→Res V} {ρ1:List Addr} {s1:Shared} {st1 stF:St} {It D C:Addr} {cl:List (Str×Addr)} {x:V} {full:List V} {Acc:List Addr→Heap→List V→Prop} {good:V→Prop}
theorem yw {ρ2:List Addr} {h:Heap} (g:Grow ρ1 h ρ2) (lowC:h.objs.size≤C) (b:Addr) (hb:b < h.objs.size) (q:(dcomp d scope C cl y).W ρ2 b):b∈ρ1:=by
 rcases q with q | q | ⟨q,_⟩
 ·obtain⟨δ,rfl,hδ⟩:=g
  exact (aU.mp q).elim id fun q=>absurd hb (bf.mpr (hδ b q))
 ·exact absurd hb (by rw [show b=C from q];exact bf.mpr lowC)
 ·cases q
theorem n9 {ρ2:List Addr} (h:D∉ρ2) (nDC:D≠C):¬(dcomp d scope C cl y).W ρ2 D:=fun q=>by
 rcases q with q | q | ⟨q,_⟩
 ·exact h q
 ·exact nDC q
 ·cases q
theorem Keep.itOff {W:Addr→Prop} {h h1 h2:Heap} {a:Addr} (k:Keep W h h1) (hs:∀ b o,b≠a→h1.get? b=some o→h2.get? b=some o) (sz:h1.objs.size≤h2.objs.size) (low:h.objs.size≤a):Keep W h h2:=
 k.trans (W':=fun b=>b=a) (IsIt.keep sz hs) fun b hb q=>absurd hb (by rw [q];exact bf.mpr low)
theorem vM (hO:AccOk prog w d.B.heap id D good Acc) (hgood:∀ v∈full,good v)
  (hS:ScopeOk p scope y) (hA:A.handled=none) (I1:Inv d ρ1 cv s1 st1) (lowI:s1.heap.objs.size≤It) (lowC:s1.heap.objs.size≤C) (lowD:s1.heap.objs.size≤D)
  (nIC:It≠C) (nID:It≠D) (nDC:D≠C) (hfl:full.length≤LIM)
  (hT:∀ x ρ s st,Inv (dcomp d scope C cl y) ρ (some x) s st→TriP (dcomp d scope C cl y) ρ (some x) s RBool (wpAny (model prog w) A (compIfs ifs (dcomp d scope C cl y).env)) (tf x st))
  (hEl:∀ x,TE prog w A (dcomp d scope C cl y) (some x) elt (ef x))
  {R:Result→Shared→Prop} (hEnd:∀ s' ρ' m,D∉ρ'→Acc ρ' s'.heap full→Post d ρ1 cv s1 ρ' s' { st1 with hp:=stF.hp }→s'.heap.Ns C m→R (.ok .next) s') (n:Nat) (s':Shared) (hI:CompI d (dcomp d scope C cl y) ρ1 s1.heap It D Acc x (compG tf ef) full stF n s') :
  wpAny (model prog w) A (pyNext (.ref It)) (CompTurn prog w A id elt y px ifs (dcomp d scope C cl y).env D (CompI d (dcomp d scope C cl y) ρ1 s1.heap It D Acc x (compG tf ef) full stF) R n) (notedBy (model prog w) A (dcomp d scope C cl y).env fun e s'=>R (.error e) s') s':=by
 obtain⟨ρ',st',cv',i,done,rest,h0,I',K,G,it,nD,acc,hc,hfull⟩:=hI
 have hBI:=I1.h.b_new lowI
 cases n with
 | zero=>cases hc
 | succ n=>
  have hi:=it.isIt
  rcases d7 hc with ⟨hn,rfl,rfl⟩ | ⟨u,ys,st2,zs,hn,hgx,hc',rfl⟩
  ·refine la hA I' it hn ⟨fun y' v h' tk e=>(nomatch e),fun h' tk _ same hsz=>?_⟩
   have I2:=I'.iter (t:=tk) hi hBI hsz same
   obtain⟨m,m1,m2⟩:=I2.dict
   rw [al] at hfull
   subst hfull
   exact hEnd _ ρ' m nD (hO.keep (W:=fun b=>b=It) (IsIt.keep hsz same) hi.writ (fun _ _ e=>e) (Ne.symm nID) acc) (Post.step I1 (K.itOff same hsz lowI) G I2.h) m1
  ·obtain⟨b,st3,hb1,hb2⟩:=dk hgx
   refine wpAny_with_toks (n:=1) h0 (la hA I' it hn ⟨fun y' v h' tk e rx it' same hsz ht1=>?_,fun h' tk e=>(nomatch e)⟩)
   cases e
   have I2:=I'.iter (t:=tk) hi hBI hsz same
   obtain⟨m,m1,m2⟩:=I2.dict
   have wC:=oA m1
   have acc2:=hO.keep (W:=fun b=>b=It) (IsIt.keep hsz same) hi.writ (fun _ _ e=>e) (Ne.symm nID) acc
   refine wpAny_assign_Name (wpAny_storeName_local (lookup_relabel_local hS.y) m1 (fun h3 hn3 hs3=>?_) (mT hS.kind))
   have I3:Inv (dcomp d scope C cl y) ρ' (some u) { s' with heap:=h3,toks:=tk+1 } st':=
    Inv.dictSet (s:={ s' with heap:=h',toks:=tk }) (st':=st') (cv':=some u) (t:=tk+1) I2 rfl hs3 hn3 ⟨fun hc=>(nomatch hc),fun z hz=>by
     cases hz
     intro u' hu'
     cases hu'
     exact⟨v,if_pos rfl,rx⟩⟩ fun _ _ _=>rfl
   have kC:Keep (fun b=>b=C) h' h3:=.sameBut hs3 fun _=>rfl
   have it3:=it'.keep kC wC (fun _ _ e=>e) nIC
   have K3:=(K.itOff same hsz lowI).trans kC fun b hb q=>absurd hb (by rw [q];exact bf.mpr lowC)
   have acc3:=hO.keep kC wC (fun _ _ e=>e) nDC acc2
   have lt3:=(hO.obj acc3).elim fun _ q=>au q.1
   refine wpAny_with_toks (n:=1) (s:={ s' with heap:=h3,toks:=tk+1 }) (bo _) (hT u ρ' _ st' I3 (by rw [hb1];intro q;cases q) (bo _) _ _ (fun b' st4 a s3 ρ3 eb rb p3 ht3=>?_) fun st4 e s3 ρ3 eb=>by rw [hb1] at eb;cases eb)
   rw [hb1] at eb
   cases eb
   obtain rfl:a=b:=rb
   have it4:=it3.keep p3.keep I3.writ (fun _ _=>p3.grow.get) (it3.isIt.notW (s:={ s' with heap:=h3,toks:=tk+1 }) I3)
   have acc4:=hO.keep p3.keep I3.writ (fun _ _=>p3.grow.get) (n9 nD nDC) acc3
   have nD4:=p3.grow.fresh nD lt3
   have K4:=K3.trans p3.keep (yw G lowC)
   have G4:=G.trans p3.grow K3.size
   cases a with
   | false=>
    cases hb2
    exact⟨n,aL _,ρ3,st2,some u,i+1,done,zs,ht3,p3.inv,K4,G4,it4,nD4,acc4,hc',hfull⟩
   | true=>
    obtain⟨r,st5,he1,he2⟩:=dk hb2
    cases he2
    refine wpAny_with_toks (n:=1) ht3 (hEl u ρ3 s3 _ p3.inv (by rw [he1];intro q;cases q) ht3 _ _ (fun b' st6 a s4 ρ4 eb rb p4 ht4=>?_) fun st6 e s4 ρ4 eb=>by rw [he1] at eb;cases eb)
    rw [he1] at eb
    cases eb
    have it5:=it4.keep p4.keep p3.inv.writ (fun _ _=>p4.grow.get) (it4.isIt.notW p3.inv)
    have acc5:=hO.keep p4.keep p3.inv.writ (fun _ _=>p4.grow.get) (n9 nD4 nDC) acc4
    have nD5:=p4.grow.fresh nD4 ((hO.obj acc4).elim fun _ q=>au q.1)
    have K5:=K4.trans p4.keep (yw G4 lowC)
    obtain⟨o,ho,hd1,hd2,hwo⟩:=hO.obj acc5
    have wD:Writ (fun b=>b=D) s4.heap:=fun b o' e hb=>by subst hb;exact gn e ho hwo
    have hlen:done.length < LIM:=aE (by rw [hfull,aa];exact cn (bo _)) hfl
    refine hO.add acc5 hlen (hgood r (by rw [hfull];exact bm _ (.head _))) rb fun h5 tk5 hs5 acc6 le=>?_
    obtain⟨nf,nL,nc⟩:=p4.inv.unknown ho hd1 hd2
    exact⟨n,aL _,ρ4,st2,some u,i+1,done++[r],zs,aE ht4 le,p4.inv.one hs5 wD (I1.h.b_new lowD) nD5 nf nL nc,K5.other hs5 lowD,G4.trans p4.grow K4.size,it5.keep (W:=fun b=>b=D) (.sameBut hs5 fun _=>rfl) wD (fun _ _ e=>e) nID,nD5,acc6,hc',by rw [hfull,aw]⟩
end
end
section
variable {prog:Program} {w:World} {A:Around} {p:P} {d:D} {ρ:List Addr} {cv:Option V} {s:Shared} {st:St} {scope:Scope} {y:Str}
variable {id:String} {e:Expr} {elt iter:Expr} {px pos:Pos} {ifs:List Expr} {tf:V→St→Res Bool} {ef:V→St→Res V} {s1:Shared} {st1 stF:St} {x:V} {full:List V} {Acc:Addr→List Addr→Heap→List V→Prop} {good:V→Prop} {newAcc:Sem Value}
def LoopOk (prog:Program) (w:World) (A:Around) (id:String) (e elt:Expr) (y:Str) (px:Pos) (ifs:List Expr):Prop:=
 ∀ (env:Env) (It D:Addr) (J:Nat→Shared→Prop) (R:Result→Shared→Prop) (n:Nat) (s:Shared),(∀ n s,J n s→wpAny (model prog w) A (pyNext (.ref It)) (CompTurn prog w A id elt y px ifs env D J R n) (notedBy (model prog w) A env fun e s'=>R (.error e) s') s)→J n s →
  codeAny (model prog w) A (.compLoop e 0 (.ref It) (.ref D) env) R s
def StartOk (prog:Program) (w:World) (A:Around) (e:Expr):Prop:=
 ∀ (env:Env) (it acc:Value) (R:Result→Shared→Prop) (s:Shared),codeAny (model prog w) A (.compLoop e 0 it acc env) R s →
  wpAny (model prog w) A (pyIter it) (fun it' s'=>codeAny (model prog w) A (.compLoop e 0 it' acc env) R s') (notedBy (model prog w) A env fun x s'=>R (.error x) s') s→codeAny (model prog w) A (.compStart e 0 it acc env) R s
def NewOk (prog:Program) (w:World) (A:Around) (newAcc:Sem Value) (Acc:Addr→List Addr→Heap→List V→Prop):Prop:=
 ∀ (ρ:List Addr) (s:Shared) (Q:Value→Shared→Prop) (E:Value→Shared→Prop),(∀ o,Acc s.heap.objs.size ρ (s.heap.push o) []→Q (.ref s.heap.objs.size) { s with heap:=s.heap.push o })→wpAny (model prog w) A newAcc Q E s
theorem ke {va:Value} {E:Value→Shared→Prop} (hO:∀ D,AccOk prog w d.B.heap id D good (Acc D)) (hL:LoopOk prog w A id e elt y px ifs) (hSt:StartOk prog w A e) (hNew:NewOk prog w A newAcc Acc) (hgood:∀ v∈full,good v)
  (hE:EnvOk p d) (hS:ScopeOk p scope y) (hA:A.handled=none)
  (hT:∀ C cl x ρ s st,EnvOk (pcomp p scope y) (dcomp d scope C cl y)→Inv (dcomp d scope C cl y) ρ (some x) s st→TriP (dcomp d scope C cl y) ρ (some x) s RBool (wpAny (model prog w) A (compIfs ifs (dcomp d scope C cl y).env)) (tf x st))
  (hEl:∀ C cl x,EnvOk (pcomp p scope y) (dcomp d scope C cl y)→TE prog w A (dcomp d scope C cl y) (some x) elt (ef x))
  (I1:Inv d ρ cv s1 st1) (r1:VR d.B.heap ρ s1.heap x va) (h0:0 < s1.toks) (hc:compGo x (compG tf ef) FUEL 0 st1 = .ok full stF) (hfl:full.length≤LIM)
  {R:Value→Addr→Result→Shared→Prop} (hEnd:∀ D C s' ρ' m,s1.heap.objs.size≤C→s1.heap.objs.size≤D→D≠C→D∉ρ'→Acc D ρ' s'.heap full→Post d ρ cv s1 ρ' s' { st1 with hp:=stF.hp }→s'.heap.Ns C m→R (.ref D) C (.ok .next) s') :
  wpAny (model prog w) A (pyIter va) (fun it s₂=>wpAny (model prog w) A newAcc (fun acc s₃=>
  wpAny (model prog w) A (newFunctionEnv scope d.env.globals (clos d.env.cells scope.names []) [] d.env.qual none .none (some d.env)) (fun cenv s₄=>
   codeAny (model prog w) A (.compStart e 0 it acc { cenv with scope:=relabel scope d.env }) (R acc cenv.locals) s₄) E s₃) E s₂) E s1:=by
 have hfirst:∃ r,nextOf st1.hp 0 x=some r:=by
  rcases d7 (k:=99999) hc with ⟨h,_⟩ | ⟨u,_,_,_,h,_⟩
  ·exact⟨_,h⟩
  ·exact⟨_,h⟩
 obtain⟨rr,hrr⟩:=hfirst
 refine uj I1 r1 hrr fun o it0=>?_
 refine hNew ρ { s1 with heap:=s1.heap.push o } _ _ fun o2 acc0=>?_
 generalize hh2:s1.heap.push o=h2 at it0 acc0
 refine wpAny_newFunctionEnv hS.cell (by intro z hz;cases hz) (fun h4 hns4 hsb4=>?_) hS.kind
 simp only [Option.isSome_some,if_true] at hsb4
 have e2:h2.objs.size=s1.heap.objs.size+1:=by rw [←hh2,aH]
 have e3:(h2.push o2).objs.size=s1.heap.objs.size+1+1:=by rw [aH,e2]
 generalize hIt:s1.heap.objs.size=It at it0 e2 e3
 have hD:h2.objs.size=It+1:=e2
 change Acc h2.objs.size ρ (h2.push o2) [] at acc0
 generalize hDD:h2.objs.size=D at hD acc0
 change h4.Ns (h2.push o2).objs.size _ at hns4
 change bk (h2.push o2).objs.size ((h2.push o2).push _) h4 at hsb4
 generalize hC:(h2.push o2).objs.size=C at hns4 hsb4 e3
 have nDC:D≠C:=by rw [hD,e3];exact aP (aL _)
 have nIC:It≠C:=by rw [e3];exact aP (cK (aL _))
 have nID:It≠D:=by rw [hD];exact aP (aL _)
 have lowC:s1.heap.objs.size≤C:=by rw [hIt,e3];exact cq (bv _)
 have lowD:s1.heap.objs.size≤D:=by rw [hIt,hD];exact bv _
 have up4:∀ b o,b≠C→(h2.push o2).get? b=some o→h4.get? b=some o:=fun b o n e=>(hsb4.2 b n).trans (af _ e)
 have k34:Keep (fun b=>b=C) (h2.push o2) h4:=⟨fun b o e n=>.same (up4 b o n e),by rw [hsb4.1];exact (Keep.push (W:=fun _=>False) _).size⟩
 have w34:Writ (fun b=>b=C) (h2.push o2):=fun b o e hb=>absurd (au e) (by rw [hb,hC];exact bx _)
 have old4:∀ b o,s1.heap.get? b=some o→h4.get? b=some o:=fun b o e=>by
  refine up4 b o (aP (aE (au e) lowC)) (af _ ?_)
  rw [←hh2];exact af _ e
 have sz4:s1.heap.objs.size≤h4.objs.size:=by rw [hsb4.1,aH,hC];exact aj lowC (bv _)
 have H4:InvH d.B d.fs d.hd ρ { s1 with heap:=h4,toks:=s1.toks } st1.hp:=I1.h.up old4 sz4
 have E':EnvOk (pcomp p scope y) (dcomp d scope C (clos d.env.cells scope.names []) y):=hE.comp' hS C _
 have I4:Inv (dcomp d scope C (clos d.env.cells scope.names []) y) ρ none { s1 with heap:=h4,toks:=s1.toks } st1:=
  Inv.comp (v:=none) hE hS I1 (.of_all old4 sz4) .refl H4 lowC hns4 (fun u hu=>nomatch hu)
 have it4:ItAt d.B.heap ρ h4 It 0 x:=(it0.keep (W:=fun _=>False) (.push o2) dX (fun _ _ e=>e) fun f=>f).keep k34 w34 (fun _ _ e=>e) nIC
 have acc4:=(hO D).keep k34 w34 (fun _ _ e=>e) nDC acc0
 have loop:codeAny (model prog w) A (.compLoop e 0 (.ref It) (.ref D) (dcomp d scope C (clos d.env.cells scope.names []) y).env) (R (.ref D) C) { s1 with heap:=h4,toks:=s1.toks }:=
  hL _ It D (CompI d (dcomp d scope C (clos d.env.cells scope.names []) y) ρ s1.heap It D (Acc D) x (compG tf ef) full stF) _ FUEL _
   (fun n s' hI=>vM (hO D) hgood hS hA I1 (by rw [hIt];exact am _) lowC lowD nIC nID nDC hfl (fun x ρ s st I=>hT _ _ x ρ s st E' I) (fun x=>hEl _ _ x E') (fun s' ρ' m nD a p n=>hEnd D C s' ρ' m lowC lowD nDC nD a p n) n s' hI)
   ⟨ρ,st1,none,0,[],full,h0,I4,.of_all old4 sz4,.refl,it4,I1.h.ne_new lowD,acc4,hc,rfl⟩
 exact hSt _ _ _ _ _ loop (Ad it4 loop)
def AccL (B:Heap) (D:Addr) (ρ:List Addr) (h:Heap) (l:List V):Prop:=∃ kA c,h.get? D=some (lobj kA c)∧VRs B ρ h l kA.toList
theorem accL {B:Heap} (D:Addr):AccOk prog w B "list.append" D (fun _=>True) (AccL B D) where
 keep:=fun k w g n ⟨kA,c,e,r⟩=>⟨kA,c,k.exact e n,VRs.keep k w g r⟩
 obj:=fun⟨kA,c,e,r⟩=>⟨_,e,fun _ _ q=>(nomatch q),fun _ q=>(nomatch q),fun _ _ _=>rfl,fun _ q=>(nomatch q)⟩
 add:=fun {A ρ s l r a Q E} ⟨kA,c,e,rv⟩ hl _ ra h=>by
  have hs:bk D s.heap (s.heap.update D (aR fun x=>x.push a)):=.update ..
  refine call_meets slot_list_append ⟨_,e,rfl⟩ entry_list_append (args_list_append _ _) (list_append D kA c a (by rw [lens rv];exact aj (aW hl) bT)) ⟨e,h _ s.toks hs ⟨_,_,get?_update_seq e fun x=>x.push a,?_⟩ (am _)⟩
  rw [dc]
  exact VRs.keep (W:=fun b=>b=D) (.sameBut hs fun _=>rfl) (dS e) (fun _ _ e=>e) ((VRs.cons ra .nil).append rv)
theorem newL {B:Heap}:NewOk prog w A (newList []) (AccL B):=fun ρ s Q E h=>wpAny_newList (h _ ⟨#[],0,ao _ rfl,.nil⟩) (aD _)
theorem loopL {sc:Scope}:LoopOk prog w A "list.append" (.ListComp elt [⟨.Name y px,iter,ifs,0⟩] sc pos) elt y px ifs:=fun env It D J R n s turn h=>codeAny_compLoop_tests J turn n h
theorem startL {sc:Scope}:StartOk prog w A (.ListComp elt [⟨.Name y px,iter,ifs,0⟩] sc pos):=fun env it acc R s h1 h2=>codeAny_compStart_list h1 h2
theorem Post.addL {ρ':List Addr} {s':Shared} {st':St} {D:Addr} {l:List V} (I:Inv d ρ cv s st) (p:Post d ρ cv s ρ' s' st') (nD:D∉ρ') (low:s.heap.objs.size≤D) (a:AccL d.B.heap D ρ' s'.heap l) (hl:l.length≤LIM) :
  Post d ρ cv s (ρ'++[D]) s' { st' with hp:=st'.hp++[l] }:=by
 obtain⟨kA,c,e,r⟩:=a
 have H:=p.inv.h.addL nD e (I.h.b_new low) r hl
 exact⟨p.inv.stepG .refl (mq D) H,p.keep,p.grow.trans ⟨[D],rfl,fun b hb=>by rw [ay.mp hb];exact low⟩ (am _)⟩
theorem qg {fi:St→Res V} (hE:EnvOk p d) (hS:ScopeOk p scope y) (hA:A.handled=none) (hs:∀ x,foldedSetIterable iter d.env x=pure x) (hit:TE prog w A d cv iter fi)
  (hT:∀ C cl x ρ s st,EnvOk (pcomp p scope y) (dcomp d scope C cl y)→Inv (dcomp d scope C cl y) ρ (some x) s st→TriP (dcomp d scope C cl y) ρ (some x) s RBool (wpAny (model prog w) A (compIfs ifs (dcomp d scope C cl y).env)) (tf x st))
  (hEl:∀ C cl x,EnvOk (pcomp p scope y) (dcomp d scope C cl y)→TE prog w A (dcomp d scope C cl y) (some x) elt (ef x)) :
  TE prog w A d cv (.ListComp elt [⟨.Name y px,iter,ifs,0⟩] scope pos) fun st=>(fi st).bind fun x st=>compV x (compG tf ef) st:=fun ρ s st I=>by
 have hcl:=pD (scope:=scope) (env:=d.env) (gG hE hS I)
 refine ((hit ρ s st I).bind (F:=fun va Q E s=>wpAny (model prog w) A (pyIter va) (fun it s₂=>wpAny (model prog w) A (newList []) (fun acc s₃=>
  wpAny (model prog w) A (newFunctionEnv scope d.env.globals (clos d.env.cells scope.names []) [] d.env.qual none .none (some d.env)) (fun cenv s₄=>
   codeAny (model prog w) A (.compStart (.ListComp elt [⟨.Name y px,iter,ifs,0⟩] scope pos) 0 it acc { cenv with scope:=relabel scope d.env }) (compPost (model prog w) A E none Q acc cenv.locals) s₄) E s₃) E s₂) E s) fun x st1 va s1 ρ1 _ r1 p1=>?_).imp
  fun Q E h=>by rw [eval_ListComp];exact wpAny_comprehension_free (use:=none) rfl hs hcl hS.kind hS.loc h
 have I1:=p1.inv
 unfold compV
 cases hc:compGo x (compG tf ef) FUEL 0 st1 with
 | bad=>exact .bad
 | ex st'=>exact absurd hc (fI _ _ _ _)
 | ok full stF=>
  refine TriP.ifb fun hfl=>?_
  intro _ h0 Q E hQ _
  exact ke (R:=fun acc C=>compPost (model prog w) A E none Q acc C) accL loopL startL newL (fun _ _=>trivial) hE hS hA hT hEl I1 r1 h0 hc hfl fun D C s' ρ' m lowC lowD nDC nD a q hn=>⟨m,hn,fun h' hs'=>by
   have q':=q.addL I1 nD lowD a hfl
   exact hQ (.loc stF.hp.length) _ _ _ (ρ'++[D]) rfl (VR.new q.inv.h.len) (q'.dictOff I1 hn lowC hs')⟩
end
inductive RFl (d:D) (ρ:List Addr) (h:Heap):Fl→Flow→Prop
 | next:RFl d ρ h .next .next
 | brk:RFl d ρ h .brk .brk
 | cont:RFl d ρ h .cont .cont
 | ret {v:V} {x:Value}:VR d.B.heap ρ h v x→RFl d ρ h (.ret v) (.ret x)
section
variable {prog:Program} {w:World} {A:Around} {p:P} {d:D} {ρ:List Addr} {s:Shared} {st:St} {pos:Pos}
def TS (prog:Program) (w:World) (A:Around) (d:D) (x:Stmt) (f:St→Res Fl):Prop:=
 ∀ (ρ:List Addr) (s:Shared) (st:St),Inv d ρ none s st→TriP d ρ none s (RFl d) (wpAny (model prog w) A (exec x d.env)) (f st)
def TSs (prog:Program) (w:World) (A:Around) (d:D) (xs:List Stmt) (f:St→Res Fl):Prop:=
 ∀ (ρ:List Addr) (s:Shared) (st:St),Inv d ρ none s st→TriP d ρ none s (RFl d) (wpAny (model prog w) A (execs xs d.env)) (f st)
theorem zq:TSs prog w A d [] fun st=>.ok .next st:=fun ρ s st I=>.ok fun Q E hq=>wpAny_execs_nil (hq _ s ρ .next (.refl I))
theorem wY {x:Stmt} {xs:List Stmt} {f g:St→Res Fl} (hx:TS prog w A d x f) (hy:TSs prog w A d xs g):TSs prog w A d (x::xs) fun st=>(f st).bind fun fl st=>match fl with
  | .next=>g st
  | fl=>.ok fl st:=fun ρ s st I=>
 ((hx ρ s st I).bind (F:=fun fl Q E s=>match fl with | .next=>wpAny (model prog w) A (execs xs d.env) Q E s | fl=>Q fl s) fun a st1 va s1 ρ1 _ r1 p1=>by
  cases r1 with
  | next=>exact hy ρ1 s1 st1 p1.inv
  | brk=>exact .ok fun Q E hq=>hq _ _ _ .brk (.refl p1.inv)
  | cont=>exact .ok fun Q E hq=>hq _ _ _ .cont (.refl p1.inv)
  | ret r=>exact .ok fun Q E hq=>hq _ _ _ (.ret r) (.refl p1.inv)).imp fun Q E h=>wpAny_execs_cons h
theorem Cj {t:Expr} {b o:List Stmt} {ft:St→Res Bool} {fb fo:St→Res Fl} (ht:TB prog w A d none t ft) (hb:TSs prog w A d b fb) (ho:TSs prog w A d o fo) :
  TS prog w A d (.If t b o pos) fun st=>(ft st).bind fun c st=>if c then fb st else fo st:=fun ρ s st I=>
 ((ht ρ s st I).bind (F:=fun c Q E s=>if c then wpAny (model prog w) A (execs b d.env) Q E s else wpAny (model prog w) A (execs o d.env) Q E s) fun c st1 vc s1 ρ1 _ r1 p1=>by
  have:vc=c:=r1
  subst this
  cases vc with
  | true=>exact (hb ρ1 s1 st1 p1.inv).imp fun Q E h=>by simpa using h
  | false=>exact (ho ρ1 s1 st1 p1.inv).imp fun Q E h=>by simpa using h).imp fun Q E h=>wpAny_If h
theorem Bi:TS prog w A d (.Break pos) fun st=>.ok .brk st:=fun ρ s st I=>.ok fun Q E hq=>wpAny_Break (hq _ s ρ .brk (.refl I))
theorem zz:TS prog w A d (.Continue pos) fun st=>.ok .cont st:=fun ρ s st I=>.ok fun Q E hq=>wpAny_Continue (hq _ s ρ .cont (.refl I))
theorem ts_stop {x:Stmt}:TS prog w A d x fun _=>.bad:=fun _ _ _ _=>.bad
theorem Bh {e:Expr} {f:St→Res V} (he:TE prog w A d none e f):TS prog w A d (.Return (some e) pos) fun st=>(f st).bind fun v st=>.ok (.ret v) st:=fun ρ s st I=>
 ((he ρ s st I).bind (RV':=RFl d) (f:=fun v st=>.ok (.ret v) st) (F:=fun v Q _ s=>Q (Flow.ret v) s) fun v st1 vv s1 ρ1 _ r1 p1=>.ok fun Q E hq=>hq _ _ _ (.ret r1) (.refl p1.inv)).imp fun Q E h=>wpAny_Return_some h
theorem zx {e:Expr} {f:St→Res V} (he:TE prog w A d none e f) (hi:interactive d.env=false) (hs:swapsWith e none pos.line d.env=pure false):TS prog w A d (.Expr e pos) fun st=>(f st).bind fun _ st=>.ok .next st:=fun ρ s st I=>
 ((he ρ s st I).bind (RV':=RFl d) (f:=fun _ st=>.ok .next st) (F:=fun _ Q _ s=>Q Flow.next s) fun v st1 vv s1 ρ1 _ r1 p1=>.ok fun Q E hq=>hq _ _ _ .next (.refl p1.inv)).imp fun Q E h=>wpAny_Expr_any h hi hs
theorem oM {l:List (Option V)} {i j:Nat} (v:V) (h:j≠i):(l.set i (some v))[j]?.join=l[j]?.join:=by
 rw [uv (Ne.symm h)]
theorem qr {l:List (Option V)} {i:Nat} {v x:V} (h:(l.set i (some v))[i]?.join=some x):x=v:=by
 by_cases hi:i < l.length
 ·rw [rM hi] at h;cases h;rfl
 ·rw [iK (by rw [List.length_set];exact dq hi)] at h;cases h
theorem hX {l:List (Str×NameKind)} (h:(l.map (·.1)).Nodup) {i j:Nat} {x:Str} {k k':NameKind} (h1:l[i]?=some (x,k)) (h2:l[j]?=some (x,k')):i=j:=by
 have e1:(l.map (·.1))[i]?=some x:=by rw [aN,h1];rfl
 have e2:(l.map (·.1))[j]?=some x:=by rw [aN,h2];rfl
 obtain⟨hi,_⟩:=ag.mp e1
 exact (gg hi h).mp (e1.trans e2.symm)
theorem kind_fn {env:Env} (h:env.scope.kind = .function):(env.scope.kind == .class||(env.scope.kind == .module&&env.locals != env.globals))=false:=by rw [h];rfl
theorem store0 {i:Nat} {x:Str} {v:V} {u:Value} {Q:Unit→Shared→Prop} {E:Value→Shared→Prop} (hE:EnvOk p d) (hp:(p.fnm.map (·.1)).Nodup) (hc:p.comp=none) (ho:okVar p i x=true) (I:Inv d ρ none s st) (hv:VR d.B.heap ρ s.heap v u)
  (h:∀ s',Post d ρ none s ρ s' (setVar st i v)→(0 < s.toks→0 < s'.toks)→Q () s'):wpAny (model prog w) A (storeName d.env x u) Q E s:=by
 have hdc:d.comp=none:=by rw [hE.comp];exact hc
 have nd:(d.fnm.map (·.1)).Nodup:=by rw [hE.fnm];exact hp
 cases lZ hE ho with
 | cell _ hf hk=>
  obtain⟨c,cval,c1,c2,c3,c4⟩:=I.cells i x hf hk
  exact wpAny_storeName_cell hE.fn hk c1 c2 fun h' hn hs=>h _ (Post.cellSet (t:=s.toks) I hdc rfl hf c1 c2 hs hn hv (fun w hw=>qr hw) (fun j hj=>oM v hj) fun j hj=>hX nd hj hf) fun z=>z
 | loc _ hf hk _=>
  obtain⟨m,m1,⟨m2,m3⟩⟩:=I.dict
  refine wpAny_storeName_local hk m1 (fun h' hn hs=>h _ (Post.dictSet (t:=s.toks+1) I rfl hs hn ⟨fun _ j z hj=>?_,fun z hz=>by rw [hdc] at hz;cases hz⟩ fun j z hj=>?_) fun _=>bo _) (kind_fn hE.fn)
  ·by_cases hji:j=i
   ·subst hji
    cases hf.symm.trans hj
    intro w' hw
    obtain rfl:=qr hw
    exact⟨u,if_pos rfl,hv⟩
   ·have hzy:z≠x:=fun q=>hji (hX nd (by rw [←q];exact hj) hf)
    show VO d.B.heap ρ s.heap ((st.fv.set i (some v))[j]?.join) _
    rw [oM v hji,if_neg hzy]
    exact m2 hdc j z hj
  ·refine oM v fun q=>?_
   subst q
   cases hf.symm.trans hj
theorem store {i:Nat} {x:Str} {v:V} {u:Value} {Q:Unit→Shared→Prop} {E:Value→Shared→Prop} (hE:EnvOk p d) (hp:(p.fnm.map (·.1)).Nodup) (hc:p.comp=none) (ho:okVar p i x=true) (I:Inv d ρ none s st) (hv:VR d.B.heap ρ s.heap v u) (h0:0 < s.toks)
  (h:∀ s',Post d ρ none s ρ s' (setVar st i v)→0 < s'.toks→Q () s'):wpAny (model prog w) A (storeName d.env x u) Q E s:=
 store0 hE hp hc ho I hv fun s' q t=>h s' q (t h0)
theorem fV {i:Nat} {x:Str} {px:Pos} {v:V} {u:Value} {Q:Unit→Shared→Prop} {E:Value→Shared→Prop} (hE:EnvOk p d) (hp:(p.fnm.map (·.1)).Nodup) (hc:p.comp=none) (ho:okVar p i x=true) (I:Inv d ρ none s st) (hv:VR d.B.heap ρ s.heap v u) (h0:0 < s.toks)
  (h:∀ s',Post d ρ none s ρ s' (setVar st i v)→0 < s'.toks→Q () s'):wpAny (model prog w) A (assign (.Name x px) d.env u) Q E s:=
 wpAny_assign_Name (store hE hp hc ho I hv h0 h)
theorem Cc {i:Nat} {x:Str} {v:V} {u:Value} (hE:EnvOk p d) (hp:(p.fnm.map (·.1)).Nodup) (hc:p.comp=none) (ho:okVar p i x=true) (I:Inv d ρ none s st) (hv:VR d.B.heap ρ s.heap v u) :
  TriP d ρ none s (fun _ _ (_:Unit) (_:Unit)=>True) (wpAny (model prog w) A (storeName d.env x u)) (.ok () (setVar st i v)):=
 fun _ h0 Q E hQ _=>store hE hp hc ho I hv h0 fun s' q _=>hQ () _ () s' ρ rfl trivial q
theorem uN {i:Nat} {x:Str} {px:Pos} {e:Expr} {f:St→Res V} (hE:EnvOk p d) (hp:(p.fnm.map (·.1)).Nodup) (hc:p.comp=none) (ho:okVar p i x=true) (he:TE prog w A d none e f) (hs:swapsWith e (some (.Name x px)) pos.line d.env=pure false) :
  TS prog w A d (.Assign [.Name x px] e pos) fun st=>(f st).bind fun v st=>.ok .next (setVar st i v):=fun ρ s st I=>
 ((he ρ s st I).bind (RV':=RFl d) (f:=fun v st=>.ok .next (setVar st i v)) (F:=fun u Q E s=>wpAny (model prog w) A (storeName d.env x u) (fun _=>Q Flow.next) E s) fun v st1 u s1 ρ1 _ r1 p1=>by
  intro _ h0 Q E hQ _
  exact store hE hp hc ho p1.inv r1 h0 fun s' q _=>hQ _ _ _ s' ρ1 rfl .next q).imp fun Q E h=>wpAny_Assign_Name h hs
theorem r5 {i j:Nat} {x y:Str} {px py:Pos} {e:Expr} {f:St→Res V} (hE:EnvOk p d) (hp:(p.fnm.map (·.1)).Nodup) (hc:p.comp=none) (ho:okVar p i x=true) (ho':okVar p j y=true) (he:TE prog w A d none e f)
  (hs:swappedStores [.Name x px,.Name y py] e d.env=pure none) :
  TS prog w A d (.Assign [.Name x px,.Name y py] e pos) fun st=>(f st).bind fun v st=>.ok .next (setVar (setVar st i v) j v):=fun ρ s st I=>
 ((he ρ s st I).bind (RV':=RFl d) (f:=fun v st=>.ok .next (setVar (setVar st i v) j v)) (F:=fun u Q E s=>wpAny (model prog w) A (assign (.Name x px) d.env u) (fun _ s=>wpAny (model prog w) A (assign (.Name y py) d.env u) (fun _=>Q Flow.next) E s) E s) fun v st1 u s1 ρ1 _ r1 p1=>by
  intro _ h0 Q E hQ _
  exact fV hE hp hc ho p1.inv r1 h0 fun s' q h0'=>fV hE hp hc ho' q.inv (r1.post p1.inv q) h0' fun s'' q' _=>hQ _ _ _ s'' ρ1 rfl .next (q.trans q')).imp fun Q E h=>wpAny_Assign_two h rfl hs
theorem zJ {op:Bop} {x y:V} {a b:Value} (I:Inv d ρ none s st) (hx:VR d.B.heap ρ s.heap x a) (hy:VR d.B.heap ρ s.heap y b) :
  TriP d ρ none s (RVal d) (wpAny (model prog w) A (inplaceOp (opOf op) a b)) (augV op x y st):=by
 cases op with
 | add=>
  cases x with
  | int i=>
   obtain⟨t',rfl⟩:=hx
   show TriP d ρ none s (RVal d) _ (onInt y fun j=>.ok (.int (i+j)) st)
   exact .onInt hy fun j t e=>by subst e;exact .int I fun Q E h=>iadd_int (h _ _)
  | str l=>
   show TriP d ρ none s (RVal d) _ (onStr y fun l'=>mkStr (l++l') st)
   refine .onStr hy fun l' t e _=>?_
   obtain⟨t',rfl⟩:=hx.str_inv
   subst e
   refine jA I fun hl Q E h=>SB.iadd (fun t' tk=>h _ t' tk (Str.app_mk _ _)) ?_
   rw [Str.len_mk,Str.len_mk,←aa]
   exact aj hl bT
  | _=>exact .bad
 | _=>exact .bad
theorem Bj {i:Nat} {x:Str} {px:Pos} {e:Expr} {f:St→Res V} (op:Bop) (hE:EnvOk p d) (hp:(p.fnm.map (·.1)).Nodup) (hc:p.comp=none) (ho:okVar p i x=true) (he:TE prog w A d none e f) :
  TS prog w A d (.AugAssign (.Name x px) (opOf op) e pos) fun st=>(getVar st i).bind fun a st=>(f st).bind fun b st=>(augV op a b st).bind fun c st=>.ok .next (setVar st i c):=fun ρ s st I=>by
 have hl:=p9 (prog:=prog) (w:=w) (A:=A) hE ho I
 refine (hl.bind (RV':=RFl d) (f:=fun a st=>(f st).bind fun b st=>(augV op a b st).bind fun c st=>.ok .next (setVar st i c)) (F:=fun va Q E s=>wpAny (model prog w) A (eval e d.env) (fun vb s=>wpAny (model prog w) A (inplaceOp (opOf op) va vb) (fun u s=>wpAny (model prog w) A (storeName d.env x u) (fun _=>Q Flow.next) E s) E s) E s) fun a st1 va s1 ρ1 _ r1 p1=>
  (he ρ1 s1 st1 p1.inv).bind (RV':=RFl d) (f:=fun b st=>(augV op a b st).bind fun c st=>.ok .next (setVar st i c)) (F:=fun vb Q E s=>wpAny (model prog w) A (inplaceOp (opOf op) va vb) (fun u s=>wpAny (model prog w) A (storeName d.env x u) (fun _=>Q Flow.next) E s) E s) fun b st2 vb s2 ρ2 _ r2 p2=>
   (zJ p2.inv (r1.post p1.inv p2) r2).bind (RV':=RFl d) (f:=fun c st=>.ok .next (setVar st i c)) (F:=fun u Q E s=>wpAny (model prog w) A (storeName d.env x u) (fun _=>Q Flow.next) E s) fun c st3 vc s3 ρ3 _ r3 p3=>?_).imp fun Q E h=>wpAny_AugAssign_Name h
 intro _ h0 Q E hQ _
 exact store hE hp hc ho p3.inv r3 h0 fun s' q _=>hQ _ _ _ s' ρ3 rfl .next q
end
def backR (prog:Program) (w:World) (A:Around) (env:Env) (Q:Flow→Shared→Prop) (E:Value→Shared→Prop) (r:Result) (s':Shared):Prop:=match r with
 | .ok f=>Q f s'
 | .error e=>cameBackBy (model prog w) A env E e s'
section
variable {prog:Program} {w:World} {A:Around} {p:P} {d:D} {ρ ρ':List Addr} {cv:Option V} {s s':Shared} {st st':St} {pos:Pos}
theorem nv {f:Fl} {st st':St} {k:St→Res Fl} (hk:∀ st,k st ≠ .ex st'):turn f st k ≠ .ex st':=by
 cases f<;>first | exact hk st | exact fun q=>nomatch q
theorem mt {src:V} {g:V→Nat→St→Res Fl} (k:Nat):∀ (i:Nat) (st st':St),forGo src g k i st ≠ .ex st':=by
 induction k with
 | zero=>intro i st st' h;cases h
 | succ k ih=>
  intro i st st' h
  unfold forGo at h
  cases hn:nextOf st.hp i src with
  | none=>rw [hn] at h;cases h
  | some o=>
   rw [hn] at h
   cases o with
   | none=>cases h
   | some x=>
    change (noEx (g x i st)).bind (fun f st=>turn f st (forGo src g k (i+1)))=_ at h
    cases hg:noEx (g x i st) with
    | ok f st1=>rw [hg] at h;exact nv (fun st=>ih (i+1) st st') h
    | ex st1=>exact j5 hg
    | bad=>rw [hg] at h;cases h
inductive FlT (f:Fl) (k:St→Res Fl) (st1 st':St) (fl:Fl):Prop
 | next (e:f = .next) (h:k st1 = .ok fl st')
 | cont (e:f = .cont) (h:k st1 = .ok fl st')
 | brk (e:f = .brk) (h:fl = .next) (h':st'=st1)
 | ret (v:V) (e:f = .ret v) (h:fl = .ret v) (h':st'=st1)
theorem tW {f:Fl} {k:St→Res Fl} {st1 st':St} {fl:Fl} (h:turn f st1 k = .ok fl st'):FlT f k st1 st' fl:=by
 cases f with
 | next=>exact .next rfl h
 | cont=>exact .cont rfl h
 | brk=>cases h;exact .brk rfl rfl rfl
 | ret v=>cases h;exact .ret v rfl rfl rfl
inductive ForT (src:V) (g:V→Nat→St→Res Fl) (k i:Nat) (st st':St) (fl:Fl):Prop
 | fin (n:nextOf st.hp i src=some none) (e:fl = .next) (e':st'=st)
 | item (x:V) (f:Fl) (st1:St) (n:nextOf st.hp i src=some (some x)) (eg:g x i st = .ok f st1) (r:FlT f (forGo src g k (i+1)) st1 st' fl)
theorem jg {src:V} {g:V→Nat→St→Res Fl} {k i:Nat} {st st':St} {fl:Fl} (h:forGo src g (k+1) i st = .ok fl st'):ForT src g k i st st' fl:=by
 unfold forGo at h
 cases hn:nextOf st.hp i src with
 | none=>rw [hn] at h;cases h
 | some o=>
  rw [hn] at h
  cases o with
  | none=>cases h;exact .fin hn rfl rfl
  | some x=>
   obtain⟨f,st1,h1,h2⟩:=dk h
   exact .item x f st1 hn (oU h1) (tW h2)
theorem Post.iter (I:Inv d ρ cv s st) (q:Post d ρ cv s ρ' s' st') {a:Addr} (ha:s.heap.objs.size≤a) (hi:IsIt s'.heap a) {h':Heap} {t:Nat} (hs:∀ b o,b≠a→s'.heap.get? b=some o→h'.get? b=some o) (hz:s'.heap.objs.size≤h'.objs.size) :
  Post d ρ cv s ρ' { s' with heap:=h',toks:=t } st':=
 ⟨q.inv.iter hi (I.h.b_new ha) hz hs,q.keep.trans (W':=fun b=>b=a) (IsIt.keep hz hs) fun b hb z=>absurd hb (by rw [z];exact bf.mpr ha),q.grow⟩
def TPut {α:Type} (prog:Program) (w:World) (A:Around) (d:D) (target:Expr) (put:V→St→Res α):Prop:=
 ∀ (ρ:List Addr) (s:Shared) (st:St) (x:V) (v:Value),Inv d ρ none s st→VR d.B.heap ρ s.heap x v→TriP d ρ none s (fun _ _ (_:α) (_:Unit)=>True) (wpAny (model prog w) A (assign target d.env v)) (put x st)
def GoOk (prog:Program) (w:World) (A:Around) (target:Expr):Prop:=
 ∀ (B:Heap) (ρ:List Addr) (s:Shared) (it:Addr) (i:Nat) (x:V) (v:Value) (Q:Unit→Shared→Prop) (E:Value→Shared→Prop),ItAt B ρ s.heap it i x→Q () s→wpAny (model prog w) A (letOwnedTupleGo target (.ref it) v) Q E s
theorem Ai {x:Str} {px:Pos}:GoOk prog w A (.Name x px):=fun _ _ _ _ _ _ _ _ _ _ h=>wpAny_of_eq (a:=()) rfl h
noncomputable abbrev pairIts:List String:=["enumerate","zip","dict_itemiterator","dict_reverseitemiterator","odict_iterator","itertools.zip_longest","itertools.pairwise"]
inductive ItCls (h:Heap) (it:Addr):Prop
 | mk (o:Obj) (n:String) (vs:Array Value) (e:h.get? it=some o) (c:o.cls = .type n) (d:o.data = .fields vs) (k:pairIts.contains n=false)
theorem B5 {B h:Heap} {it:Addr} {i:Nat} {x:V} (t:ItAt B ρ h it i x):ItCls h it:=by
 cases x with
 | loc n=>obtain⟨l,_,o,e,c,hd⟩:=t;exact⟨o,_,_,e,c,hd,by decide⟩
 | flist l=>obtain⟨b,o',xs,k,_,_,_,_,o,e,c,hd⟩:=t;exact⟨o,_,_,e,c,hd,by decide⟩
 | tup l=>obtain⟨b,xs,k,_,_,o,e,c,hd⟩:=t;exact⟨o,_,_,e,c,hd,by decide⟩
 | str l=>
  obtain⟨_,T,t,hT,o,e,c,hd⟩:=t
  exact⟨o,_,_,e,c,hd,hT.elim (fun q=>by rw [q.1];decide) fun q=>by rw [q.1];decide⟩
 | _=>exact t.elim
theorem ye {es:List Expr} {k:Nat} {pt:Pos}:GoOk prog w A (.Tuple es k pt):=fun B ρ s it i x v Q E t h=>by
 obtain⟨o,n,vs,e,c,hd,hn⟩:=B5 t
 unfold letOwnedTupleGo
 cases v with
 | ref a=>
  refine wpAny_bind (wpAny_load e ?_)
  rw [c,hd]
  show wpAny _ _ (if (pairIts.contains n&&_)=true then _ else _) _ _ _
  rw [hn]
  exact wpAny_pure h
 | _=>exact wpAny_pure h
end
section
variable {prog:Program} {w:World} {A:Around} {p:P} {d:D} {ρ ρ':List Addr} {cv:Option V} {s s':Shared} {st st':St} {pos:Pos}
inductive ForI (d:D) (ρ₁:List Addr) (s₁:Shared) (It:Addr) (src:V) (g:V→Nat→St→Res Fl) (fl:Fl) (stF:St) (n:Nat) (s':Shared):Prop
 | mk (ρ':List Addr) (st':St) (i:Nat) (h0:0 < s'.toks) (q:Post d ρ₁ none s₁ ρ' s' st') (it:ItAt d.B.heap ρ' s'.heap It i src) (hg:forGo src g n i st' = .ok fl stF)
theorem w0 {α:Type} {target iter:Expr} {body:List Stmt} {fi:St→Res V} {put:V→Nat→St→Res α} {fb:St→Res Fl} (hA:A.handled=none) (hs:∀ x,foldedSetIterable iter d.env x=pure x)
  (hgo:GoOk prog w A target) (hit:TE prog w A d none iter fi) (hput:∀ k,TPut prog w A d target fun x=>put x k) (hb:TSs prog w A d body fb) :
  TS prog w A d (.For target iter body [] pos) fun st=>(fi st).bind fun x st=>forGo x (fun y k st=>(put y k st).bind fun _ st=>fb st) FUEL 0 st:=fun ρ s st I=>by
 refine ((hit ρ s st I).bind (F:=fun va Q E s=>wpAny (model prog w) A (pyIter va) (fun it s₂=>
   codeAny (model prog w) A (.forLoop target it body [] d.env) (backR prog w A d.env Q E) s₂) E s) fun x st1 va s1 ρ1 _ r1 p1=>?_).imp fun Q E h=>wpAny_For h hs
 have I1:=p1.inv
 intro hbad h0 Q E hQ _
 generalize hg:(fun (y:V) (k:Nat) (st:St)=>(put y k st).bind fun _ st=>fb st)=g at hbad hQ
 cases hc:forGo x g FUEL 0 st1 with
 | bad=>exact absurd hc hbad
 | ex st'=>exact absurd hc (mt _ _ _ _)
 | ok fl stF=>
  have hfirst:∃ r,nextOf st1.hp 0 x=some r:=by
   rcases jg (k:=99999) hc with ⟨h,_⟩ | ⟨u,_,_,h,_⟩
   ·exact⟨_,h⟩
   ·exact⟨_,h⟩
  obtain⟨rr,hrr⟩:=hfirst
  refine uj I1 r1 hrr fun o it0=>?_
  have low:s1.heap.objs.size≤s1.heap.objs.size:=am _
  generalize hIt:s1.heap.objs.size=It at it0
  have lowI:s1.heap.objs.size≤It:=by rw [hIt];exact am _
  have p0:Post d ρ1 none s1 ρ1 { s1 with heap:=s1.heap.push o } st1:=Post.grown (t:=s1.toks) I1 (fun _ _ e=>af _ e) (by rw [aH];exact bv _)
  refine codeAny_forLoop_any (ForI d ρ1 s1 It x g fl stF) (fun n s' hI=>?_) FUEL ⟨ρ1,st1,0,h0,p0,it0,hc⟩
  obtain⟨ρ',st',i,h0',q,it,hgo'⟩:=hI
  cases n with
  | zero=>cases hgo'
  | succ n=>
   have hi:=it.isIt
   rcases jg hgo' with ⟨hn,rfl,rfl⟩ | ⟨u,f1,st2,hn,hgx,hrest⟩
   ·refine la hA q.inv it hn ⟨fun y' v h' tk e=>(nomatch e),fun h' tk _ same hsz=>?_⟩
    exact wpAny_execs_nil (hQ .next stF .next _ ρ' hc .next (q.iter I1 lowI hi same hsz))
   ·rw [←hg] at hgx
    obtain⟨a0,st3,hp1,hp2⟩:=dk hgx
    refine wpAny_with_toks (n:=1) h0' (la hA q.inv it hn ⟨fun y' v h' tk e rx it' same hsz ht1=>?_,fun h' tk e=>(nomatch e)⟩)
    cases e
    have q2:Post d ρ1 none s1 ρ' { s' with heap:=h',toks:=tk } st':=q.iter I1 lowI hi same hsz
    refine hgo d.B.heap ρ' _ It (i+1) x v _ _ it' ?_
    have hput':=hput i ρ' { s' with heap:=h',toks:=tk } st' u v q2.inv rx
    dsimp only at hput' hp1
    rw [hp1] at hput'
    refine wpAny_with_toks (n:=1) (s:={ s' with heap:=h',toks:=tk }) ht1 (hput' (by intro z;cases z) ht1 _ _ (fun b st4 a s3 ρ3 eb _ p3 ht3=>?_) fun st4 e s3 ρ3 eb=>by cases eb)
    cases eb
    have it3:ItAt d.B.heap ρ3 s3.heap It (i+1) x:=it'.keep p3.keep q2.inv.writ (fun _ _=>p3.grow.get) (it'.isIt.notW (s:={ s' with heap:=h',toks:=tk }) q2.inv)
    have q3:=q2.trans p3
    refine wpAny_with_toks (n:=1) ht3 (hb ρ3 s3 _ p3.inv (by rw [hp2];intro z;cases z) ht3 _ _ (fun b st4 a s4 ρ4 eb rf p4 ht4=>?_) fun st4 e s4 ρ4 eb=>by rw [hp2] at eb;cases eb)
    rw [hp2] at eb
    cases eb
    have it4:ItAt d.B.heap ρ4 s4.heap It (i+1) x:=it3.keep p4.keep p3.inv.writ (fun _ _=>p4.grow.get) (it3.isIt.notW p3.inv)
    have q4:=q3.trans p4
    cases hrest with
    | next e h=>subst e;cases rf;exact⟨n,aL _,ρ4,st2,i+1,ht4,q4,it4,h⟩
    | cont e h=>subst e;cases rf;exact⟨n,aL _,ρ4,st2,i+1,ht4,q4,it4,h⟩
    | brk e h1 h2=>subst e h1 h2;cases rf;exact hQ .next _ .next _ ρ4 hc .next q4
    | ret v e h1 h2=>
     subst e h1 h2
     cases rf with | ret r=>exact hQ _ _ _ _ ρ4 hc (.ret r) q4
end
section
variable {prog:Program} {w:World} {A:Around} {p:P} {d:D} {ρ ρ':List Addr} {cv:Option V} {s s':Shared} {st st':St} {pos:Pos}
theorem xw {i:Nat} {x:Str} {px:Pos} (hE:EnvOk p d) (hp:(p.fnm.map (·.1)).Nodup) (hc:p.comp=none) (ho:okVar p i x=true):TPut prog w A d (.Name x px) fun v st=>.ok () (setVar st i v):=fun ρ s st v u I hv _ h0 Q E hQ _=>
 fV hE hp hc ho I hv h0 fun s' q _=>hQ () _ () s' ρ rfl trivial q
def NamesOk (p:P):List Nat→List Expr→Prop
 | [],es=>es=[]
 | i::is,es=>∃ x px xs,okVar p i x=true∧NamesOk p is xs∧es = .Name x px::xs
theorem qB {p:P} {env:Env} {is:List Nat}:∀ {es:List Expr},NamesOk p is es→(assignEach es env).length=is.length∧(assignEach es env).findIdx? (·.1)=none:=by
 induction is with
 | nil=>intro es h;rw [show es=[] from h];exact⟨rfl,rfl⟩
 | cons i is ih=>
  intro es h
  obtain⟨x,px,xs,h1,h2,rfl⟩:=h
  obtain⟨h3,h4⟩:=ih h2
  refine⟨congrArg (·+1) h3,?_⟩
  show List.findIdx? (·.1) ((false,assign (.Name x px) env)::assignEach xs env)=none
  rw [jS,h4]
  rfl
theorem xX (hE:EnvOk p d) (hp:(p.fnm.map (·.1)).Nodup) (hc:p.comp=none) (is:List Nat):∀ (es:List Expr) (vs:List V) (us:List Value) (ρ:List Addr) (s:Shared) (st:St) (Q:Unit→Shared→Prop) (E:Value→Shared→Prop),NamesOk p is es →
  vs.length=is.length→Inv d ρ none s st→VRs d.B.heap ρ s.heap vs us→0 < s.toks→(∀ s',Post d ρ none s ρ s' (setVars st is vs)→0 < s'.toks→Q () s')→wpAny (model prog w) A (assignInOrder ((assignEach es d.env).map (·.2)) us) Q E s:=by
 induction is with
 | nil=>
  intro es vs us ρ s st Q E ho hl I hv h0 h
  obtain rfl:=aG hl
  rw [show us=[] from hv,show es=[] from ho]
  exact wpAny_pure (h s (.refl I) h0)
 | cons i is ih=>
  intro es vs us ρ s st Q E ho hl I hv h0 h
  cases vs with
  | nil=>cases hl
  | cons v vs=>
   obtain⟨u,us',r,rs,rfl⟩:=hv
   obtain⟨x,px,xs,h1,h2,rfl⟩:=ho
   show wpAny _ A (do holding _ (assign (.Name x px) d.env _);assignInOrder ((assignEach xs d.env).map (·.2)) _) Q E s
   refine wpAny_bind (wpAny_holding (fV hE hp hc h1 I r h0 fun s' q h0'=>?_))
   exact ih _ _ _ _ _ _ _ _ h2 (Nat.succ.inj hl) q.inv (VRs.post I q rs) h0' fun s'' q' h0''=>h s'' (q.trans q') h0''
theorem j3 {is:List Nat} {es:List Expr} {k:Nat} {pt:Pos} (hA:A.handled=none) (hE:EnvOk p d) (hp:(p.fnm.map (·.1)).Nodup) (hc:p.comp=none) (ho:NamesOk p is es):TPut prog w A d (.Tuple es k pt) fun v st=>unpackV is v st:=fun ρ s st v u I hv=>by
 refine .onTup hv fun l r=>.guard fun hl=>?_
 have hl:=of_decide_eq_true hl
 obtain⟨a,xs,kk,rfl,e,z,r⟩:=r
 obtain⟨h1,h2⟩:=qB (env:=d.env) ho
 intro _ h0 Q E hQ _
 have hx:xs.size=l.length:=lens r
 rw [arm_assign_Tuple]
 refine wpAny_bind (wpAny_standAt ?_)
 unfold unpack
 rw [show (assignEach es d.env).length=xs.size by rw [h1,hx,hl],h2]
 refine wpAny_bind (wpAny_holding (cN (wpAny_unpackItems_tuple hA (items:=xs) ⟨_,e,rfl,_,rfl⟩ fun h' he hsz=>?_)))
 have kk:∀ b o,s.heap.get? b=some o→h'.get? b=some o:=fun b o e=>he b o (aP (au e)) e
 have q:=Post.grown (t:=s.toks) I kk hsz
 exact xX hE hp hc _ _ _ _ _ _ _ _ _ ho hl q.inv (VRs.post I q r) h0 fun s' q' _=>hQ _ _ () s' ρ rfl trivial (q.trans q')
end
section
structure FrOk (d:D):Prop where
 top:∃ outer,d.fs=d.env::outer
 kinds:∀ e∈d.fs,e.scope.kind ≠ .module
inductive ExcN (hd:Option Value) (h₀ h:Heap) (f:Option Addr) (e:Value):Prop
 | mk (a:Addr) (o:Obj) (vs:Array Value) (ex:e = .ref a) (g:h.get? a=some o) (c:o.cls = .type "IndexError") (d:o.data = .fields vs) (z:6≤vs.size) (n:h₀.objs.size≤a) (cx:hd=none→vs[2]?=some .none)
  (t:Addr) (ot:Obj) (ts:Array Value) (L:Addr) (v1:vs[1]?=some (.ref t)) (gt:h.get? t=some ot) (dt:ot.data = .fields ts) (ct:ot.cls = .type "traceback") (zt:4≤ts.size) (nt:h₀.objs.size≤t) (ne:t≠a) (ef:f=some L) (t3:ts[3]?=some (rawInt L))
theorem ExcN.at {hd:Option Value} {h₀ h:Heap} {f:Option Addr} {e:Value} (x:ExcN hd h₀ h f e):ExcAt hd h₀ h f e:=by
 obtain⟨a,o,vs,h1,h2,h3,h4,h5,h6,h7,t,ot,ts,L,g1,g2,g3,g4,g5,g6,g7,g8,g9⟩:=x
 exact⟨a,o,vs,h1,h2,h3,h4,h5,h6,h7,.yes t ot ts L g1 g2 g3 g4 g5 g6 g7 g8 g9⟩
section
variable {B:Heap} {ρ ρ':List Addr} {h h':Heap} {W:Addr→Prop} (k:Keep W h h') (w:∀ a o,h.get? a=some o→W a→(∀ xs n,o.data ≠ .seq xs n)∧o.cls ≠ .type "builtin_function_or_method")
include k w
mutual
theorem VR.keepX {v:V} {x:Value} (r:VR B ρ h v x):VR B ρ h' v x:=match v with
 | .none=>r
 | .bool _=>r
 | .int _=>r
 | .str _=>r
 | .tup _=>let ⟨a,xs,n,ex,e,z,r⟩:=r; ⟨a,xs,n,ex,by
   obtain⟨o',e',_,_,_,x⟩:=k.old _ _ e fun q=>(w _ _ e q).1 _ _ rfl
   rw [x (.seq _ _ rfl)] at e'
   exact e',z,VRs.keepX r⟩
 | .flist _=>let ⟨a,o,xs,n,ex,e,c,d,z,r⟩:=r; ⟨a,o,xs,n,ex,e,c,d,z,VRs.keepX r⟩
 | .loc _=>r
 | .tstr=>r
 | .app _=>by
  obtain⟨a,b,o,vs,ex,e,ea,c,d,v0,v1⟩:=r
  obtain⟨o',e',c',_,t',_⟩:=k.old _ _ ea fun q=>(w _ _ ea q).2 c
  exact⟨a,b,o',vs,ex,e,e',c'.trans c,t'.trans d,v0,v1⟩
theorem VRs.keepX {l:List V} {xs:List Value} (r:VRs B ρ h l xs):VRs B ρ h' l xs:=match l with
 | []=>r
 | _::_=>let ⟨x,ys,a,r,ex⟩:=r; ⟨x,ys,VR.keepX a,VRs.keepX r,ex⟩
end
theorem VO.keepX {v:Option V} {x:Option Value} (r:VO B ρ h v x):VO B ρ h' v x:=fun u hu=>(r u hu).imp fun _ q=>⟨q.1,q.2.keepX k w⟩
end
section
variable {prog:Program} {w:World} {A:Around} {p:P} {d:D} {ρ ρ':List Addr} {cv:Option V} {s s':Shared} {st st':St} {pos:Pos} {e:Value}
theorem funFrames (I:Inv d ρ cv s st) (hF:FrOk d):s.heap.FunFrames d.B.heap d.fs:=by
 have key:∀ l:List Env,(∀ x∈l,x∈d.fs)→s.heap.FunFrames d.B.heap l:=by
  intro l
  induction l with
  | nil=>intro _;trivial
  | cons x l ih=>
   intro h
   have hx:=h x (.head _)
   obtain⟨L,m,h1,⟨o,es,ep,h2,hd,_⟩,h3⟩:=I.h.frames x hx
   exact⟨hF.kinds x hx,⟨L,o,h1,h3,h2,fun vs q=>(nomatch hd.symm.trans q)⟩,ih fun y hy=>h y (.tail _ hy)⟩
 exact key _ fun _ h=>h
theorem Inv.hd_ne (I:Inv d ρ cv s st) {a:Addr} (ha:s.heap.objs.size≤a):d.hd≠some (.ref a):=fun q=>by
 obtain⟨a',o,vs,h1,h2,_⟩:=I.h.hok _ q
 cases h1
 exact absurd (au h2) (bf.mpr ha)
theorem Post.slots (I:Inv d ρ cv s st) {h':Heap} (x:Heap.SlotsOnly (d.fs.filterMap (·.frame)) s.heap h'):Post d ρ cv s ρ { s with heap:=h' } st:=by
 have fr:∀ b∈d.fs.filterMap (·.frame),∃ m,s.heap.Ns b m∧d.B.heap.get? b=none:=fun b hb=>by
  obtain⟨e,he,hf⟩:=List.mem_filterMap.mp hb
  obtain⟨L,m,h1,h2,h3⟩:=I.h.frames e he
  rw [h1] at hf;cases hf
  exact⟨m,h2,h3⟩
 have K:Keep (fun _=>False) s.heap h':=⟨fun b o e _=>by
  obtain⟨sl,hs⟩:=x.2.2 b o e
  refine⟨_,hs,rfl,rfl,rfl,fun hd=>?_⟩
  have:b∉d.fs.filterMap (·.frame):=fun hb=>by
   obtain⟨m,⟨o',es,ep,e',hd',_⟩,_⟩:=fr b hb
   cases e.symm.trans e'
   cases hd with
   | seq xs n q=>exact nomatch q.symm.trans hd'
   | fields vs q=>exact nomatch q.symm.trans hd'
   | set es ep t q=>exact nomatch q.symm.trans hd'
  have:=x.2.1 b this
  rw [hs,e] at this
  exact Option.some.inj this,by rw [x.1];exact am _⟩
 refine⟨I.keep (fun b o e e'=>?_) K (fun a ha=>?_) rfl rfl,K.mono fun _ _ f=>f.elim,.refl⟩
 ·refine (x.2.1 b fun hb=>?_).trans e'
  obtain⟨m,_,h3⟩:=fr b hb
  rw [e] at h3;cases h3
 ·refine x.2.1 a fun hb=>?_
  obtain⟨m,h2,_⟩:=fr a hb
  exact I.h.nne h2 ha
inductive IsFld (h:Heap) (a:Addr):Prop
 | mk (o:Obj) (vs:Array Value) (e:h.get? a=some o) (d:o.data = .fields vs) (c:o.cls ≠ .type "builtin_function_or_method")
theorem Inv.fld (I:Inv d ρ cv s st) {a:Addr} (hne:d.hd≠some (.ref a)) (hi:IsFld s.heap a) (hB:d.B.heap.get? a=none) {h':Heap} {t:Nat} (sz:s.heap.objs.size≤h'.objs.size) (hs:∀ b o,b≠a→s.heap.get? b=some o→h'.get? b=some o) :
  Inv d ρ cv { s with heap:=h',toks:=t } st:=by
 obtain⟨oa,va,ea,da,ca⟩:=hi
 have K:Keep (fun b=>b=a) s.heap h':=IsIt.keep sz hs
 have w:∀ b o,s.heap.get? b=some o→b=a→(∀ xs n,o.data ≠ .seq xs n)∧o.cls ≠ .type "builtin_function_or_method":=fun b o e q=>by
  subst q;cases ea.symm.trans e;exact⟨fun xs n z=>(nomatch da.symm.trans z),ca⟩
 have nd:∀ {b:Addr} {o:Obj} {x:Data},s.heap.get? b=some o→o.data=x→(∀ vs,x ≠ .fields vs)→b≠a:=fun e hx n q=>by
  subst q;cases ea.symm.trans e;exact n va (hx.symm.trans da)
 have ns:∀ L m,s.heap.Ns L m→L≠a:=fun L m ⟨o,es,ep,e,hd,_⟩=>nd e hd fun vs z=>(nomatch z)
 have cl:∀ c v,s.heap.IsCell c v→c≠a:=fun c v ⟨o,e,hd⟩=>nd e hd fun vs z=>(nomatch z)
 refine⟨⟨fun b o e=>?_,I.h.gens,I.h.os,I.h.len,fun n l e=>?_,I.h.nodup,I.h.fresh,fun e he=>(I.h.frames e he).keep K fun L m _=>ns L m,fun v hv=>?_⟩,I.lfresh,?_,fun i x e1 e2=>?_,I.capart,fun x c e=>(I.cfresh x c e).imp fun _ q=>⟨K.cell q.1 (cl _ _ q.1),q.2⟩⟩
 ·refine hs b o (fun q=>?_) (I.h.base b o e)
  rw [q,hB] at e;cases e
 ·obtain⟨c,xs,q,h1,h2,h3,z⟩:=I.h.list n l e
  exact⟨c,xs,q,h1,hs _ _ (nd h2 rfl fun vs z=>nomatch z) h2,h3.keepX K w,z⟩
 ·obtain⟨b,o,vs,rfl,h2,h3,h4,h5⟩:=I.h.hok v hv
  exact⟨b,o,vs,rfl,hs b o (fun q=>hne (by rw [hv,q])) h2,h3,h4,h5⟩
 ·obtain⟨m,n,⟨l,c⟩⟩:=I.dict
  exact⟨m,K.ns n (ns _ _ n),⟨fun hc i x q=>(l hc i x q).keepX K w,fun x q=>(c x q).keepX K w⟩⟩
 ·obtain⟨c,v,l,n,b,r⟩:=I.cells i x e1 e2
  exact⟨c,v,l,K.cell n (cl _ _ n),b,r.keepX K w⟩
theorem Post.fld (I:Inv d ρ cv s st) (q:Post d ρ cv s ρ' s' st') {a:Addr} (ha:s.heap.objs.size≤a) (hi:IsFld s'.heap a) {h':Heap} {t:Nat} (hs:∀ b o,b≠a→s'.heap.get? b=some o→h'.get? b=some o) (hz:s'.heap.objs.size≤h'.objs.size) :
  Post d ρ cv s ρ' { s' with heap:=h',toks:=t } st':=
 ⟨q.inv.fld (I.hd_ne ha) hi (I.h.b_new ha) hz hs,q.keep.trans (IsIt.keep hz hs) fun b hb z=>absurd hb (by rw [z];exact bf.mpr ha),q.grow⟩
theorem noted {Q:Unit→Shared→Prop} {E:Value→Shared→Prop} (hfr:A.frames=some d.fs) (hF:FrOk d) (I:Inv d ρ cv s st) (q:Post d ρ cv s ρ' s' st') (x:ExcAt d.ctx s.heap s'.heap d.env.frame e)
  (h:∀ h',Post d ρ cv s ρ' { s' with heap:=h' } st'→ExcN d.ctx s.heap h' d.env.frame e→Q () { s' with heap:=h' }):wpAny (model prog w) A (noteFrame e d.env) Q E s':=by
 obtain⟨a,oe,vs,rfl,he,hc,hd,hsz,hnew,hctx,hx⟩:=x
 rcases hx with h1 | ⟨t,ot,ts,L,g1,g2,g3,g4,g5,g6,g7,g8,g9⟩
 ·obtain⟨outer,ho⟩:=hF.top
  have hl:=funFrames q.inv hF
  obtain⟨L,mL,hf,hnL,hBL⟩:=I.h.frames d.env (by rw [ho];exact .head _)
  have hene:a∉d.fs.filterMap (·.frame):=fun hm=>by
   obtain⟨_,o,ho',hnf⟩:=hl.mem hm
   cases he.symm.trans ho';exact hnf vs hd
  unfold noteFrame
  simp only [hf]
  refine wpAny_bind (wpAny_field he hd h1 ?_)
  rw [if_neg (by decide)]
  rw [ho] at hl hfr
  refine wpAny_bind (wpAny_frameOf_fun hfr hl hf fun h₁ hs₁=>?_)
  rw [←ho] at hl hs₁
  refine wpAny_bind (wpAny_entryPlaceOf fun pl hpl=>?_)
  unfold EntryCells.newEntry newFields
  refine wpAny_bind (wpAny_newObj_type ?_ (hpl.sizeOk5 _ _ _ _ _))
  have q1:Post d ρ cv s ρ' { s' with heap:=h₁ } st':=q.trans (Post.slots q.inv hs₁)
  have he₁:h₁.get? a=some oe:=(hs₁.2.1 a hene).trans he
  generalize htb:({ cls:=.type "traceback",dict:=none,data:=.fields ([Value.none,.ref L,.none,rawInt L,.none]++(if pl.isEmpty then bB 6 Value.none else pl)).toArray }:Obj)=tbo
  have he₂:=af (h:=h₁) tbo he₁
  have q2:Post d ρ cv s ρ' { s' with heap:=h₁.push tbo } st':=q1.trans (Post.grown (s:={ s' with heap:=h₁ }) (t:=s'.toks) q1.inv (fun _ _ e=>af _ e) (by rw [aH];exact bv _))
  refine wpAny_setField he₂ hd (by grind) ?_
  have hTe:h₁.objs.size≠a:=bR (au he₁)
  have hd₃:=yR hd (·.setIfInBounds 1 (Value.ref h₁.objs.size))
  have hup:=bD (eC (·.setIfInBounds 1 (Value.ref h₁.objs.size))) he₂ (eh hd₃)
  have hoth:∀ b o,b≠a→(h₁.push tbo).get? b=some o→((h₁.push tbo).update a (eC (·.setIfInBounds 1 (Value.ref h₁.objs.size)))).get? b=some o:=fun b o hb e=>(aI _ _ (Ne.symm hb)).trans e
  have htT:(h₁.push tbo).get? h₁.objs.size=some tbo:=ao _ (by rw [←htb];rfl)
  have hlow:s.heap.objs.size≤h₁.objs.size:=q1.keep.size
  refine h _ (q2.fld I hnew ⟨oe,vs,he₂,hd,by rw [hc];exact fun q=>absurd (Value.type.inj q) (by decide)⟩ hoth (by rw [aO];exact am _)) ?_
  refine⟨a,_,_,rfl,hup,?_,hd₃,?_,hnew,?_,h₁.objs.size,tbo,_,L,?_,hoth _ _ hTe htT,by rw [←htb],by rw [←htb],?_,hlow,hTe,hf,?_⟩
  ·rw [kK];exact hc
  ·rw [gh];exact hsz
  ·intro z
   rw [Array.getElem?_setIfInBounds_ne (by decide)]
   exact hctx z
  ·rw [jT,if_pos (by grind)]
  ·rw [cH,aa];exact Nat.le_add_right_of_le (show 4≤5 by decide)
  ·rw [tB,cb (show 3 < 5 by decide)];rfl
 ·exact wpAny_noteFrame_inFlight g8 he hd g1 g2 g3 g9 (h s'.heap q ⟨a,oe,vs,rfl,he,hc,hd,hsz,hnew,hctx,t,ot,ts,L,g1,g2,g3,g4,g5,g6,g7,g8,g9⟩)
theorem cameBack {E:Value→Shared→Prop} (x:ExcN d.ctx s.heap s'.heap d.env.frame e) (h:E e s'):cameBackBy (model prog w) A d.env E e s':=by
 obtain⟨a,o,vs,rfl,h2,h3,h4,h5,h6,h7,t,ot,ts,L,g1,g2,g3,g4,g5,g6,g7,g8,g9⟩:=x
 unfold cameBackBy
 refine wpAny_bind (wpAny_field h2 h4 g1 ?_)
 rw [if_neg (by simp)]
 unfold setFlight
 refine wpAny_bind (wpAny_field h2 h4 g1 ?_)
 rw [if_pos (show (Value.ref t != Value.none)=true from by simp)]
 rw [g8]
 refine wpAny_setField g2 g3 (fB.mp g9).1 ?_
 have hh:=Heap.update_setField_same s'.heap t ot ts 3 (rawInt L) g2 g3 g9
 show E (Value.ref a) { s' with heap:=s'.heap.update t (eC fun x=>x.setIfInBounds 3 (rawInt L)) }
 rw [hh]
 exact h
theorem passes {A':Around} {E:Value→Shared→Prop} (hfr:A'.frames=some d.fs) (hF:FrOk d) (I:Inv d ρ cv s st) (q:Post d ρ cv s ρ' s' st') (x:ExcAt d.ctx s.heap s'.heap d.env.frame e)
  (h:∀ h',Post d ρ cv s ρ' { s' with heap:=h' } st'→ExcAt d.ctx s.heap h' d.env.frame e→E e { s' with heap:=h' }):notedBy (model prog w) A' d.env (cameBackBy (model prog w) A d.env E) e s':=
 noted hfr hF I q x fun h' q' x'=>cameBack x' (h h' q' x'.at)
end
end
section
variable {prog:Program} {w:World} {A:Around} {p:P} {d:D} {ρ ρ':List Addr} {cv:Option V} {s s':Shared} {st st':St} {pos:Pos} {e:Value}
theorem gp {t:St→Res Bool} {b:St→Res Fl} {k:Nat} {st:St}:whileGo t b (k+1) st=(t st).bind fun c st=>if c then (b st).bind fun f st=>turn f st (whileGo t b k) else .ok .next st:=rfl
inductive WhI (d:D) (ρ₁:List Addr) (s₁:Shared) (t:St→Res Bool) (b:St→Res Fl) (r:Res Fl) (n:Nat) (s':Shared):Prop
 | mk (ρ':List Addr) (st':St) (h0:0 < s'.toks) (q:Post d ρ₁ none s₁ ρ' s' st') (hg:whileGo t b n st'=r)
theorem wZ {test:Expr} {body:List Stmt} {ft:St→Res Bool} {fb:St→Res Fl} (hfr:A.frames=some d.fs) (hF:FrOk d) (ht:TB prog w A d none test ft) (hb:TSs prog w A d body fb) :
  TS prog w A d (.While test body [] pos) fun st=>whileGo ft fb FUEL st:=fun ρ s st I=>by
 intro hbad h0 Q E hQ hE
 refine wpAny_While (codeAny_whileLoop (WhI d ρ s ft fb (whileGo ft fb FUEL st)) (fun n s' hI=>?_) FUEL ⟨ρ,st,h0,.refl I,rfl⟩)
 obtain⟨ρ',st',h0',q,hw⟩:=hI
 dsimp only at hbad hQ hE
 rw [←hw] at hbad hQ hE
 cases n with
 | zero=>exact absurd rfl hbad
 | succ n=>
  rw [gp] at hbad hQ hE
  refine wpAny_with_toks (n:=1) h0' (ht ρ' s' st' q.inv (Res.bind_ne hbad) h0' _ _ (fun c st2 vc s2 ρ2 ec rc p2 ht2=>?_) fun st2 e s2 ρ2 ee p2 x _=>?_)
  ·have:vc=c:=rc
   subst this
   cases vc with
   | false=>
    simp only [be,if_false]
    exact wpAny_execs_nil (hQ .next st2 .next _ ρ2 (by rw [ec];rfl) .next (q.trans p2))
   | true=>
    simp only [if_true]
    rw [ec] at hbad hQ hE
    have q2:=q.trans p2
    refine wpAny_with_toks (n:=1) ht2 (hb ρ2 s2 st2 p2.inv (Res.bind_ne hbad) ht2 _ _ (fun fl st3 vf s3 ρ3 ef rf p3 ht3=>?_) fun st3 e s3 ρ3 ee p3 x _=>?_)
    ·have q3:=q2.trans p3
     cases rf with
     | next=>exact⟨n,aL _,ρ3,st3,ht3,q3,by rw [←hw,gp,ec];show _=(fb st2).bind _;rw [ef];rfl⟩
     | cont=>exact⟨n,aL _,ρ3,st3,ht3,q3,by rw [←hw,gp,ec];show _=(fb st2).bind _;rw [ef];rfl⟩
     | brk=>exact hQ .next st3 .next _ ρ3 (by show (fb st2).bind _=_;rw [ef];rfl) .next q3
     | ret r=>exact hQ _ st3 _ _ ρ3 (by show (fb st2).bind _=_;rw [ef];rfl) (.ret r) q3
    ·exact passes hfr hF p2.inv p3 x fun h' p3' x'=>hE st3 e _ ρ3 (by show (fb st2).bind _=_;rw [ee];rfl) (q2.trans p3') (x'.old q2.keep.size)
  ·exact passes hfr hF q.inv p2 x fun h' p2' x'=>hE st2 e _ ρ2 (by rw [ee];rfl) (q.trans p2') (x'.old q.keep.size)
end
section
variable {prog:Program} {w:World} {A:Around} {p:P} {d:D} {ρ ρ':List Addr} {cv:Option V} {s s':Shared} {st st':St} {pos cp np:Pos} {e:Value} {FA:Nat→Addr} {G:Nat→Option V}
theorem oP {g:V→St→Res Fl} {lo:Int} {k:Nat} {st st':St} {fl:Fl} (h:rangeGo g lo (k+1) st = .ok fl st'):∃ f st1,g (.int lo) st = .ok f st1∧FlT f (rangeGo g (lo+1) k) st1 st' fl:=by
 obtain⟨f,st1,h1,h2⟩:=dk h
 exact⟨f,st1,oU h1,tW h2⟩
theorem oQ {g:V→St→Res Fl} (k:Nat):∀ (lo:Int) (st st':St),rangeGo g lo k st ≠ .ex st':=by
 induction k with
 | zero=>intro lo st st' h;cases h
 | succ k ih=>
  intro lo st st' h
  change (noEx (g (.int lo) st)).bind (fun f st=>turn f st (rangeGo g (lo+1) k))=_ at h
  cases hg:noEx (g (.int lo) st) with
  | ok f st1=>rw [hg] at h;exact nv (fun st=>ih (lo+1) st st') h
  | ex st1=>exact j5 hg
  | bad=>rw [hg] at h;cases h
inductive RgI (d:D) (ρ₁:List Addr) (s₁:Shared) (It:Addr) (g:V→St→Res Fl) (fl:Fl) (stF:St) (n:Nat) (s':Shared):Prop
 | mk (ρ':List Addr) (st':St) (x:Int) (m:Nat) (hn:n=m+1) (h0:0 < s'.toks) (q:Post d ρ₁ none s₁ ρ' s' st') (it:IsRangeIter s'.heap It x (m:Int) 1) (hg:rangeGo g x m st' = .ok fl stF)
theorem je {h:Heap} {it:Addr} {x m k:Int} (t:IsRangeIter h it x m k):IsIt h it:=⟨_,_,t,rfl,fun q=>absurd (Value.type.inj q) (by decide),fun q=>absurd (Value.type.inj q) (by decide)⟩
theorem lW {W:Addr→Prop} {h h':Heap} {it:Addr} {x m k:Int} (t:IsRangeIter h it x m k) (K:Keep W h h') (n:¬W it):IsRangeIter h' it x m k:=by
 obtain⟨o',e',_,_,_,hx⟩:=K.old _ _ t n
 rw [hx (.fields _ rfl)] at e'
 exact e'
theorem sB {i:Nat} {x:Str} {px:Pos} {body:List Stmt} {fb:St→Res Fl} {r:Addr} {a c:Int} {t u v:Tok} {fl:Fl} {stF:St} {Q:Flow→Shared→Prop} {E:Value→Shared→Prop} (hA:A.handled=none)
  (hE:EnvOk p d) (hp:(p.fnm.map (·.1)).Nodup) (hc:p.comp=none) (ho:okVar p i x=true) (hb:TSs prog w A d body fb) (I:Inv d ρ none s st) (hr:IsRange s.heap r a c 1 t u v) (ha:0≤a) (ha':a≤LIM) (hcc:0≤c) (hcc':c≤LIM)
  (hgo:rangeGo (fun y st=>fb (setVar st i y)) a (c - a).toNat st = .ok fl stF) (h0:0 < s.toks) (hQ:∀ fv s' ρ',RFl d ρ' s'.heap fl fv→Post d ρ none s ρ' s' stF→Q fv s') :
  wpAny (model prog w) A (pyIter (.ref r)) (fun it s₂=>
   codeAny (model prog w) A (.forLoop (.Name x px) it body [] d.env) (backR prog w A d.env Q E) s₂) E s:=by
 have l62:((LIM:Nat):Int) < 2 ^ 62:=by unfold LIM;grind
 refine wpAny_pyIter_range hr (small_one (by grind) (by grind) (by grind) (by grind)) ?_
 have hsz:Builtin.Range.rangeSize a c 1=(((c - a).toNat:Nat):Int):=by
  rw [rangeSize_one];split<;>grind
 rw [hsz]
 generalize (c - a).toNat=m at hgo
 generalize hg:(fun (y:V) (st:St)=>fb (setVar st i y))=g at hgo
 generalize hIt:s.heap.objs.size=It
 have lowI:s.heap.objs.size≤It:=by rw [hIt];exact am _
 refine codeAny_forLoop_any (RgI d ρ s It g fl stF) (fun n s' hI=>?_) (m+1) ?_
 ·obtain⟨ρ',st',y,m,rfl,h0',q,it,hgo'⟩:=hI
  have hi:=je it
  cases m with
  | zero=>
   cases hgo'
   refine cN (wpAny_pyNext_range_end hA it (Int.le_refl 0) fun h' he hsz'=>?_)
   exact wpAny_execs_nil (hQ .next _ ρ' .next (q.iter (t:=s'.toks) I lowI hi (fun b o n e=>he b o n e) hsz'))
  | succ m=>
   refine wpAny_pyNext_range_item it (by grind) fun h' it' hs=>?_
   have it2:IsRangeIter h' It (y+1) (m:Int) 1:=by
    have:((m+1:Nat):Int) - 1=(m:Int):=by grind
    rw [this] at it'
    exact it'
   have q2:Post d ρ none s ρ' { s' with heap:=h',toks:=s'.toks+1 } st':=q.iter I lowI hi (fun b o n e=>(hs.2 b n).trans e) (by rw [hs.1];exact am _)
   refine wpAny_of_eq (a:=()) rfl ?_
   obtain⟨f,st2,hx,hrest⟩:=oP hgo'
   rw [←hg] at hx
   dsimp only at hx
   refine fV hE hp hc ho q2.inv (.int y s'.toks) (bo _) fun s3 p3 ht3=>?_
   have hi2:=je it2
   have it3:=lW it2 p3.keep (hi2.notW (s:={ s' with heap:=h',toks:=s'.toks+1 }) q2.inv)
   have q3:=q2.trans p3
   refine wpAny_with_toks (n:=1) ht3 (hb ρ' s3 _ p3.inv (by rw [hx];intro z;cases z) ht3 _ _ (fun b st4 a s4 ρ4 eb rf p4 ht4=>?_) fun st4 e s4 ρ4 eb=>by rw [hx] at eb;cases eb)
   rw [hx] at eb
   cases eb
   have it4:=lW it3 p4.keep ((je it3).notW p3.inv)
   have q4:=q3.trans p4
   cases hrest with
   | next e h=>subst e;cases rf;exact⟨m+1,aL _,ρ4,st2,y+1,m,rfl,ht4,q4,it4,h⟩
   | cont e h=>subst e;cases rf;exact⟨m+1,aL _,ρ4,st2,y+1,m,rfl,ht4,q4,it4,h⟩
   | brk e h1 h2=>subst e h1 h2;cases rf;exact hQ _ _ ρ4 .next q4
   | ret v e h1 h2=>
    subst e h1 h2
    cases rf with | ret r=>exact hQ _ _ ρ4 (.ret r) q4
 ·exact⟨ρ,st,a,m,rfl,h0,Post.grown I (fun _ _ e=>af _ e) (by rw [aH];exact bv _),by rw [←hIt];exact ao _ rfl,hgo⟩
theorem rE:(("range":Str),Value.type "range")∈bnames:=ac (i:=11) rfl
theorem nz {i:Nat} {x:Str} {px:Pos} {body:List Stmt} {fb:St→Res Fl} {a b:V} {r:Addr} {t u v:Tok} {a' b':Int} (hA:A.handled=none)
  (hE:EnvOk p d) (hp:(p.fnm.map (·.1)).Nodup) (hc:p.comp=none) (ho:okVar p i x=true) (hb:TSs prog w A d body fb) (I:Inv d ρ none s st) (ha:a = .int a') (hbb:b = .int b') (hr:IsRange s.heap r a' b' 1 t u v) :
  TriP d ρ none s (RFl d) (fun Q E s=>wpAny (model prog w) A (pyIter (.ref r)) (fun it s₂=>
   codeAny (model prog w) A (.forLoop (.Name x px) it body [] d.env) (backR prog w A d.env Q E) s₂) E s) (rangeV (fun y st=>fb (setVar st i y)) a b st):=by
 subst ha hbb
 refine .guard fun hg=>?_
 simp only [aS,decide_eq_true_eq] at hg
 obtain⟨⟨⟨h1,h2⟩,h3⟩,h4⟩:=hg
 intro hbad h0 Q E hQ _
 cases hgo:rangeGo (fun y st=>fb (setVar st i y)) a' (b' - a').toNat st with
 | bad=>exact absurd hgo hbad
 | ex st'=>exact absurd hgo (oQ _ _ _ _)
 | ok fl stF=>exact sB hA hE hp hc ho hb I hr h1 h2 h3 h4 hgo h0 fun fv s' ρ' rf q'=>hQ fl stF fv s' ρ' hgo rf q'
theorem uM {i:Nat} {x:Str} {px:Pos} {hi:Expr} {body:List Stmt} {fh:St→Res V} {fb:St→Res Fl} (hA:A.handled=none) (T:TopOk d.B.heap FA G) (hE:EnvOk p d) (hp:(p.fnm.map (·.1)).Nodup) (hc:p.comp=none) (ho:okVar p i x=true)
  (hr:okTop p "range"=true) (hn:NoStar hi) (hh:TE prog w A d none hi fh) (hb:TSs prog w A d body fb) :
  TS prog w A d (.For (.Name x px) (.Call (.Name "range" np) [hi] [] cp) body [] pos) fun st=>(fh st).bind fun y st=>rangeV (fun y st=>fb (setVar st i y)) (.int 0) y st:=fun ρ s st I=>by
 refine ((hh ρ s st I).bind (F:=fun va Q E s=>wpAny (model prog w) A (call (.type "range") [va]) (fun va s=>wpAny (model prog w) A (pyIter va) (fun it s₂=>
   codeAny (model prog w) A (.forLoop (.Name x px) it body [] d.env) (backR prog w A d.env Q E) s₂) E s) E s) fun y st1 va s1 ρ1 _ r1 p1=>?_).imp fun Q E h=>
    wpAny_For (cB (cU T hE hr rE I (kX (F:=fun _ _ _=>True) (first:=[]) (.inr ⟨_,rfl⟩) hn h))) fun _=>rfl
 cases y with
 | int c=>
  obtain⟨t,rfl⟩:=r1
  have q:=Post.grown (t:=s1.toks+1+1) p1.inv (h':=s1.heap.push { cls:=.type "range",data:=.fields #[.int 0 s1.toks,.int c t,.int 1 (s1.toks+1)] }) (fun _ _ e=>af _ e) (by rw [aH];exact bv _)
  exact (TriP.behind q (fun _=>bo _) (nz hA hE hp hc ho hb q.inv rfl rfl (IsRange.new ..))).imp fun Q E h=>call_range_1 h
 | _=>exact .bad
theorem uL {i:Nat} {x:Str} {px:Pos} {lo hi:Expr} {body:List Stmt} {fl fh:St→Res V} {fb:St→Res Fl} (hA:A.handled=none) (T:TopOk d.B.heap FA G) (hE:EnvOk p d) (hp:(p.fnm.map (·.1)).Nodup) (hc:p.comp=none) (ho:okVar p i x=true)
  (hr:okTop p "range"=true) (hn:NoStar lo) (hm:NoStar hi) (hl:TE prog w A d none lo fl) (hh:TE prog w A d none hi fh) (hb:TSs prog w A d body fb) :
  TS prog w A d (.For (.Name x px) (.Call (.Name "range" np) [lo,hi] [] cp) body [] pos) fun st=>(fl st).bind fun x st=>(fh st).bind fun y st=>rangeV (fun y st=>fb (setVar st i y)) x y st:=fun ρ s st I=>by
 refine ((hl ρ s st I).bind (F:=fun vl Q E s=>wpAny (model prog w) A (eval hi d.env) (fun va s=>wpAny (model prog w) A (call (.type "range") [vl,va]) (fun va s=>wpAny (model prog w) A (pyIter va) (fun it s₂=>
   codeAny (model prog w) A (.forLoop (.Name x px) it body [] d.env) (backR prog w A d.env Q E) s₂) E s) E s) E s) fun z st1 vl s1 ρ1 _ r1 p1=>
  (hh ρ1 s1 st1 p1.inv).bind (F:=fun va Q E s=>wpAny (model prog w) A (call (.type "range") [vl,va]) (fun va s=>wpAny (model prog w) A (pyIter va) (fun it s₂=>
   codeAny (model prog w) A (.forLoop (.Name x px) it body [] d.env) (backR prog w A d.env Q E) s₂) E s) E s) fun y st2 va s2 ρ2 _ r2 p2=>?_).imp fun Q E h=>
    wpAny_For (cB (cU T hE hr rE I (fZ (first:=[]) (.inr ⟨_,rfl⟩) hn hm h))) fun _=>rfl
 cases z with
 | int a=>
  cases y with
  | int c=>
   obtain⟨t,rfl⟩:=r1
   obtain⟨u,rfl⟩:=r2
   have q:=Post.grown (t:=s2.toks+1) p2.inv (h':=s2.heap.push { cls:=.type "range",data:=.fields #[.int a t,.int c u,.int 1 s2.toks] }) (fun _ _ e=>af _ e) (by rw [aH];exact bv _)
   exact (TriP.behind q (fun _=>bo _) (nz hA hE hp hc ho hb q.inv rfl rfl (IsRange.new ..))).imp fun Q E h=>call_range_2 h
  | _=>exact .bad
 | _=>exact .bad
end
section
variable {prog:Program} {w:World} {A:Around} {p:P} {d:D} {ρ ρ':List Addr} {cv:Option V} {s s':Shared} {st st':St} {pos cp np:Pos} {e:Value} {FA:Nat→Addr} {G:Nat→Option V}
theorem Post.iter2 (I:Inv d ρ cv s st) (q:Post d ρ cv s ρ' s' st') {a b:Addr} (hab:a≠b) (ha:s.heap.objs.size≤a) (hb:s.heap.objs.size≤b) (hia:IsIt s'.heap a) (hib:IsIt s'.heap b) {h':Heap} {t:Nat}
  (hib':IsIt h' b) (hs:∀ c o,c≠a→c≠b→s'.heap.get? c=some o→h'.get? c=some o) (hz:s'.heap.objs.size≤h'.objs.size):Post d ρ cv s ρ' { s' with heap:=h',toks:=t } st':=by
 obtain⟨o',vs',hb',hd',hc'⟩:=hib'
 obtain⟨ob,vb,hob,_,_⟩:=id hib
 have hnf:o'.isFreed=false:=eh hd'
 have up1:=bD (fun _=>o') hob hnf
 have q1:Post d ρ cv s ρ' { s' with heap:=s'.heap.update b fun _=>o' } st':=
  q.iter (t:=s'.toks) I hb hib (fun c o n e=>(aI _ _ (Ne.symm n)).trans e) (by rw [aO];exact am _)
 obtain⟨oa,va,hoa,hda,hca⟩:=id hia
 refine q1.iter (t:=t) I ha ⟨oa,va,(aI _ _ (Ne.symm hab)).trans hoa,hda,hca⟩ (fun c o n e=>?_) (by rw [aO];exact hz)
 by_cases hcb:c=b
 ·subst hcb
  cases up1.symm.trans e
  exact hb'
 ·exact hs c o n hcb ((aI _ _ (Ne.symm hcb)).symm.trans e)
theorem itE {c:Value} {T:String} (h:c = .type T) (n:T≠"builtin_function_or_method") (n':T≠"IndexError"):c ≠ .type "builtin_function_or_method"∧c ≠ .type "IndexError":=
 ⟨fun q=>n (Value.type.inj (h.symm.trans q)),fun q=>n' (Value.type.inj (h.symm.trans q))⟩
theorem j8 {h:Heap} {e it:Addr} {i:Int} {old:Value} (t:IsEnum h e it i old):IsIt h e:=⟨_,_,t,rfl,itE rfl (by decide) (by decide)⟩
theorem pk {h:Heap} {e it:Addr} {i:Int} {old:Value} {a:Addr} (t:IsEnumOut h e it i old a):IsIt h e:=⟨_,_,t,rfl,itE rfl (by decide) (by decide)⟩
theorem gd {h:Heap} {a l:Addr} {i:Nat} (t:h.IsListIter a l i):IsIt h a:=by obtain⟨o,e,c,hd⟩:=t;exact⟨o,_,e,hd,itE c (by decide) (by decide)⟩
theorem n7 {W:Addr→Prop} {h h':Heap} {e it:Addr} {i:Int} {old:Value} (t:IsEnum h e it i old) (K:Keep W h h') (n:¬W e):IsEnum h' e it i old:=by
 obtain⟨o',e',_,_,_,hx⟩:=K.old _ _ t n
 rw [hx (.fields _ rfl)] at e'
 exact e'
theorem fN {W:Addr→Prop} {h h':Heap} {a l:Addr} {i:Nat} (t:h.IsListIter a l i) (K:Keep W h h') (n:¬W a):h'.IsListIter a l i:=by
 obtain⟨o,e,c,hd⟩:=t
 obtain⟨o',e',c',_,d',_⟩:=K.old _ _ e n
 exact⟨o',e',c'.trans c,d'.trans hd⟩
inductive EnI (d:D) (ρ₁:List Addr) (s₁:Shared) (en It:Addr) (n:Nat) (g:V→Nat→St→Res Fl) (fl:Fl) (stF:St) (k:Nat) (s':Shared):Prop
 | mk (ρ':List Addr) (st':St) (i:Nat) (old:Value) (l:Addr) (h0:0 < s'.toks) (q:Post d ρ₁ none s₁ ρ' s' st') (hl:ρ'[n]?=some l) (he:IsEnum s'.heap en It i old) (hit:s'.heap.IsListIter It l i) (hg:forGo (.loc n) g k i st' = .ok fl stF)
theorem Ar:(("enumerate":Str),Value.type "enumerate")∈bnames:=ac (i:=12) rfl
theorem zy {i j:Nat} {es:List Expr} {tk:Nat} {tp:Pos} {src:Expr} {body:List Stmt} {fs:St→Res V} {fb:St→Res Fl} (hA:A.handled=none) (T:TopOk d.B.heap FA G) (hE:EnvOk p d) (hp:(p.fnm.map (·.1)).Nodup) (hc:p.comp=none) (ho:NamesOk p [i,j] es)
  (hr:okTop p "enumerate"=true) (hn:NoStar src) (hh:TE prog w A d none src fs) (hb:TSs prog w A d body fb) :
  TS prog w A d (.For (.Tuple es tk tp) (.Call (.Name "enumerate" np) [src] [] cp) body [] pos) fun st=>(fs st).bind fun x st=>onLoc x fun _=>forGo x (fun y k st=>fb (setVar (setVar st i (.int k)) j y)) FUEL 0 st:=fun ρ s st I=>by
 refine ((hh ρ s st I).bind (F:=fun va Q E s=>wpAny (model prog w) A (call (.type "enumerate") [va]) (fun va s=>wpAny (model prog w) A (pyIter va) (fun it s₂=>
   codeAny (model prog w) A (.forLoop (.Tuple es tk tp) it body [] d.env) (backR prog w A d.env Q E) s₂) E s) E s) fun y st1 va s1 ρ1 _ r1 p1=>?_).imp fun Q E h=>
    wpAny_For (cB (cU T hE hr Ar I (kX (F:=fun _ _ _=>True) (first:=[]) (.inr ⟨_,rfl⟩) hn h))) fun _=>rfl
 cases y with
 | loc n=>
  obtain⟨l1,hl1,rfl⟩:=r1
  have I1:=p1.inv
  intro hbad h0 Q E hQ _
  change forGo (.loc n) (fun y k st=>fb (setVar (setVar st i (.int k)) j y)) FUEL 0 st1≠_ at hbad
  generalize hg:(fun (y:V) (k:Nat) (st:St)=>fb (setVar (setVar st i (.int k)) j y))=g at hbad hQ
  change ∀ b st' a s' ρ',forGo (.loc n) g FUEL 0 st1 = .ok b st'→_ at hQ
  cases hgo:forGo (.loc n) g FUEL 0 st1 with
  | bad=>exact absurd hgo hbad
  | ex st'=>exact absurd hgo (mt _ _ _ _)
  | ok fl stF=>
   obtain⟨xs0,k0,e0⟩:=I1.h.at (ac hl1)
   refine call_enumerate_list (br e0) fun h1 he1 hit1 hz1 hk1=>?_
   refine wpAny_pyIter_enum he1 ?_
   have lowI:s1.heap.objs.size≤s1.heap.objs.size:=am _
   have lowE:s1.heap.objs.size≤s1.heap.objs.size+1:=bv _
   have hne:s1.heap.objs.size+1≠s1.heap.objs.size:=bR (aL _)
   generalize hIt:s1.heap.objs.size=It at *
   generalize hEn:It+1=en at *
   have p0:Post d ρ1 none s1 ρ1 { s1 with heap:=h1 } st1:=Post.grown (t:=s1.toks) I1 hk1 (by rw [hz1,hIt];exact aX _ _)
   refine codeAny_forLoop_any (EnI d ρ1 s1 en It n g fl stF) (fun k s' hI=>?_) FUEL ⟨ρ1,st1,0,.none,l1,h0,p0,hl1,he1,hit1,hgo⟩
   obtain⟨ρ',st',m,old,l,h0',q,hl,he,hit,hgo'⟩:=hI
   cases k with
   | zero=>cases hgo'
   | succ k=>
    obtain⟨xs,kk,el⟩:=q.inv.h.at (ac hl)
    have hlist:=br el
    have hi1:=j8 he
    have hi2:=gd hit
    rcases jg hgo' with ⟨hn,rfl,rfl⟩ | ⟨u,f1,st2,hn,hgx,hrest⟩
    ·obtain⟨lv,hlv,hnone⟩:=aF.mp hn
     obtain⟨b,xs',k',L⟩:=q.inv.cellOf hlv
     have g1:=L.i
     have g3:=L.r
     cases L.i.symm.trans hl
     cases L.g.symm.trans el
     have hx:xs[m]?=none:=by
      rw [ni,lens g3]
      exact bq.mp hnone
     refine cN (wpAny_pyNext_enum_end hA he hit hlist hx fun h' he' hsz=>?_)
     exact wpAny_execs_nil (hQ .next stF .next _ ρ' hgo .next (q.iter (t:=s'.toks) I1 (by rw [hIt];exact lowI) hi2 (fun b o n e=>he' b o n e) hsz))
    ·obtain⟨lv,hlv,hsome⟩:=aF.mp hn
     obtain⟨b,xs',k',L⟩:=q.inv.cellOf hlv
     have g1:=L.i
     have g3:=L.r
     cases L.i.symm.trans hl
     cases L.g.symm.trans el
     obtain⟨v,hv,rv⟩:=g3.get hsome
     refine cN (wpAny_pyNext_enum_item he hit hlist (x:=v) (by rw [←ba];exact hv) hne fun h2 ho2 hit2 hT2 hz2 hk2 hsz2=>?_)
     have hi2':=gd hit2
     have q2:Post d ρ1 none s1 ρ' { s' with heap:=h2,toks:=s'.toks+1 } st':=q.iter2 I1 hne (by rw [hIt];exact lowE) (by rw [hIt];exact lowI) hi1 hi2 hi2' hk2 hsz2
     have rv2:VR d.B.heap ρ' h2 u v:=by
      obtain⟨o',vs',hb',hd',hc'⟩:=hi2'
      obtain⟨ob,vb,hob,_,_⟩:=id hi2
      have up1:=bD (fun _=>o') hob (eh hd')
      have r1:VR d.B.heap ρ' (s'.heap.update It fun _=>o') u v:=VR.keep (W:=fun b=>b=It) (IsIt.keep (by rw [aO];exact am _) fun c o n e=>(aI _ _ (Ne.symm n)).trans e) hi2.writ (fun _ _ e=>e) rv
      obtain⟨oa,va',hoa,hda,hca⟩:=id hi1
      refine VR.keep (W:=fun b=>b=en) (IsIt.keep (by rw [aO];exact hsz2) fun c o n e=>?_) (IsIt.writ ⟨oa,va',(aI _ _ (Ne.symm hne)).trans hoa,hda,hca⟩) (fun _ _ e=>e) r1
      by_cases hcb:c=It
      ·subst hcb
       cases up1.symm.trans e
       exact hb'
      ·exact hk2 c o n hcb ((aI _ _ (Ne.symm hcb)).symm.trans e)
     refine wpAny_letOwnedTupleGo_enum ho2 fun h3 he3 hs3=>?_
     replace hs3:bk en h2 h3:=hs3
     have hi3:=pk ho2
     have same3:∀ b o,b≠en→h2.get? b=some o→h3.get? b=some o:=fun b o n e=>(hs3.2 b n).trans e
     have q3:Post d ρ1 none s1 ρ' { s' with heap:=h3,toks:=s'.toks+1 } st':=q2.iter (t:=s'.toks+1) I1 (by rw [hIt];exact lowE) hi3 same3 (by rw [hs3.1];exact am _)
     have hTne:s'.heap.objs.size≠en:=bR (au he)
     have hT3:h3.get? s'.heap.objs.size=some (tobj #[.int m s'.toks,v] 0):=same3 _ _ hTne hT2
     have rv3:VR d.B.heap ρ' h3 u v:=VR.keep (W:=fun b=>b=en) (IsIt.keep (by rw [hs3.1];exact am _) same3) hi3.writ (fun _ _ e=>e) rv2
     have it3:h3.IsListIter It l (m+1):=hit2.at fun o e=>same3 It o (Ne.symm hne) e
     have rT:VR d.B.heap ρ' h3 (.tup [.int (m:Int),u]) (.ref s'.heap.objs.size):=.tup hT3 (show 2≤LIM by decide) (.cons (.int _ _) (.cons rv3 .nil))
     refine wpAny_with_toks (n:=1) (s:={ s' with heap:=h3,toks:=s'.toks+1 }) (bo _) (j3 hA hE hp hc ho ρ' _ st' _ _ q3.inv rT (by intro z;cases z) (bo _) _ _ (fun b4 st4 a4 s4 ρ4 eb _ p4 ht4=>?_) fun st4 e s4 ρ4 eb=>by cases eb)
     cases eb
     have wr3:=q3.inv.writ
     have he4:IsEnum s4.heap en It ((m:Int)+1) v:=n7 he3 p4.keep ((j8 he3).notW (s:={ s' with heap:=h3,toks:=s'.toks+1 }) q3.inv)
     have it4:s4.heap.IsListIter It l (m+1):=fN it3 p4.keep ((gd it3).notW (s:={ s' with heap:=h3,toks:=s'.toks+1 }) q3.inv)
     have q4:=q3.trans p4
     rw [←hg] at hgx
     dsimp only at hgx
     refine wpAny_with_toks (n:=1) ht4 (hb ρ4 s4 _ p4.inv (by show fb (setVar (setVar st' i (.int m)) j u)≠_;rw [hgx];intro z;cases z) ht4 _ _ (fun b5 st5 a5 s5 ρ5 eb rf p5 ht5=>?_) fun st5 e s5 ρ5 eb=>by
      replace eb:fb (setVar (setVar st' i (.int m)) j u)=_:=eb
      rw [hgx] at eb;cases eb)
     replace eb:fb (setVar (setVar st' i (.int m)) j u)=_:=eb
     rw [hgx] at eb
     cases eb
     have hl5:ρ5[n]?=some l:=p5.grow.get (p4.grow.get g1)
     have he5:IsEnum s5.heap en It ((m:Int)+1) v:=n7 he4 p5.keep ((j8 he4).notW p4.inv)
     have it5:s5.heap.IsListIter It l (m+1):=fN it4 p5.keep ((gd it4).notW p4.inv)
     have q5:=q4.trans p5
     have hcast:((m+1:Nat):Int)=(m:Int)+1:=by grind
     cases hrest with
     | next e h=>subst e;cases rf;exact⟨k,aL _,ρ5,st2,m+1,v,l,ht5,q5,hl5,by rw [hcast];exact he5,it5,h⟩
     | cont e h=>subst e;cases rf;exact⟨k,aL _,ρ5,st2,m+1,v,l,ht5,q5,hl5,by rw [hcast];exact he5,it5,h⟩
     | brk e h1 h2=>subst e h1 h2;cases rf;exact hQ .next _ .next _ ρ5 hgo .next q5
     | ret v e h1 h2=>
      subst e h1 h2
      cases rf with | ret r=>exact hQ _ _ _ _ ρ5 hgo (.ret r) q5
 | _=>exact .bad
end
theorem BQ:isSubtype (.type "IndexError") (.type "BaseException")=pure true:=by rw [isSubtype_type];kernel_rfl
theorem BP:isSubtype (.type ((Manifest.find? "IndexError").elim "type" fun x=>x.metatype)) (.type "tuple")=pure false:=by rw [isSubtype_type];kernel_rfl
theorem BO:isSubtype (.type "IndexError") (.type "IndexError")=pure true:=by rw [isSubtype_type];kernel_rfl
inductive ExcM (hd:Option Value) (h₀ h:Heap) (e:Value):Prop
 | mk (a:Addr) (o:Obj) (vs:Array Value) (ex:e = .ref a) (g:h.get? a=some o) (c:o.cls = .type "IndexError") (d:o.data = .fields vs) (z:6≤vs.size) (n:h₀.objs.size≤a) (cx:hd=none→vs[2]?=some .none)
  (t:Addr) (ot:Obj) (ts:Array Value) (v1:vs[1]?=some (.ref t)) (gt:h.get? t=some ot) (dt:ot.data = .fields ts) (ct:ot.cls = .type "traceback") (zt:4≤ts.size) (nt:h₀.objs.size≤t) (ne:t≠a)
theorem ExcN.m {hd:Option Value} {h₀ h:Heap} {f:Option Addr} {e:Value} (x:ExcN hd h₀ h f e):ExcM hd h₀ h e:=by
 obtain⟨a,o,vs,h1,h2,h3,h4,h5,h6,h7,t,ot,ts,L,g1,g2,g3,g4,g5,g6,g7,_,_⟩:=x
 exact⟨a,o,vs,h1,h2,h3,h4,h5,h6,h7,t,ot,ts,g1,g2,g3,g4,g5,g6,g7⟩
section
variable {prog:Program} {w:World} {A:Around} {p:P} {d:D} {ρ ρ':List Addr} {cv:Option V} {s s':Shared} {st st':St} {pos hp tp:Pos} {e:Value} {FA:Nat→Addr} {G:Nat→Option V}
theorem Inv.chg (I:Inv d ρ cv s st) (hd:Option Value) (cx:Bool) (k:HandledOk hd s.heap):Inv { d with hd:=hd,cx:=cx } ρ cv s st:=by
 obtain⟨⟨h1,h2,h3,h4,h5,h6,h7,h8,_⟩,lf,⟨m,n,⟨l,c⟩⟩,cl,ca,cf⟩:=I
 exact⟨⟨h1,h2,h3,h4,h5,h6,h7,h8,k⟩,lf,⟨m,n,⟨l,c⟩⟩,fun i x e1 e2=>let ⟨c,v,l,n,b,r⟩:=cl i x e1 e2; ⟨c,v,l,n,b,r⟩,ca,cf⟩
theorem Post.chg (q:Post d ρ cv s ρ' s' st') (hd:Option Value) (cx:Bool) (k:HandledOk hd s'.heap):Post { d with hd:=hd,cx:=cx } ρ cv s ρ' s' st':=⟨q.inv.chg hd cx k,q.keep,q.grow⟩
theorem RFl.chg {h:Heap} {f:Fl} {v:Flow} {hd:Option Value} {cx:Bool} (r:RFl { d with hd:=hd,cx:=cx } ρ h f v):RFl d ρ h f v:=by
 cases r with
 | next=>exact .next
 | brk=>exact .brk
 | cont=>exact .cont
 | ret r=>exact .ret r
theorem flight {f:Option Addr} {Q:Unit→Shared→Prop} {E:Value→Shared→Prop} (I:Inv d ρ cv s st) (q:Post d ρ cv s ρ' s' st') (x:ExcM d.ctx s.heap s'.heap e)
  (h:∀ h',Post d ρ cv s ρ' { s' with heap:=h' } st'→ExcM d.ctx s.heap h' e→(∀ L,f=some L→ExcN d.ctx s.heap h' f e)→Q () { s' with heap:=h' }):wpAny (model prog w) A (setFlight e f) Q E s':=by
 obtain⟨a,o,vs,rfl,h2,h3,h4,h5,h6,h7,t,ot,ts,g1,g2,g3,g4,g5,g6,g7⟩:=x
 unfold setFlight
 refine wpAny_bind (wpAny_field h2 h4 g1 ?_)
 rw [if_pos (show (Value.ref t != Value.none)=true from by simp)]
 refine wpAny_setField g2 g3 (by omega) ?_
 have hd3:=yR g3 (·.setIfInBounds 3 (f.elim Value.none fun f=>rawInt f))
 have up:=bD (eC (·.setIfInBounds 3 (f.elim Value.none fun f=>rawInt f))) g2 (eh hd3)
 have oth:∀ b o,b≠t→s'.heap.get? b=some o→(s'.heap.update t (eC (·.setIfInBounds 3 (f.elim Value.none fun f=>rawInt f)))).get? b=some o:=fun b o hb e=>(aI _ _ (Ne.symm hb)).trans e
 have hea:=oth a o (Ne.symm g7) h2
 refine h _ (q.fld I g6 ⟨ot,ts,g2,g3,(itE g4 (by decide) (by decide)).1⟩ oth (by rw [aO];exact am _)) ?_ fun L hL=>?_
 ·exact⟨a,o,vs,rfl,hea,h3,h4,h5,h6,h7,t,_,_,g1,up,hd3,by rw [kK];exact g4,by rw [gh];exact g5,g6,g7⟩
 ·subst hL
  refine⟨a,o,vs,rfl,hea,h3,h4,h5,h6,h7,t,_,_,L,g1,up,hd3,by rw [kK];exact g4,by rw [gh];exact g5,g6,g7,rfl,?_⟩
  rw [jT]
  rw [if_pos (by omega)]
  rfl
theorem ExcM.type {hd:Option Value} {h₀:Heap} (x:ExcM hd h₀ s.heap e):s.TypeIs e "IndexError":=by
 obtain⟨a,o,vs,rfl,h2,h3,_⟩:=x
 exact⟨o,h2,h3⟩
theorem ExcM.ref {hd:Option Value} {h₀ h:Heap} (x:ExcM hd h₀ h e):∃ a,e = .ref a:=by
 obtain⟨a,o,vs,rfl,_⟩:=x
 exact⟨a,rfl⟩
theorem ExcM.keep {hd:Option Value} {h₀ h':Heap} (I:Inv d ρ cv s st) (x:ExcM hd h₀ s.heap e) (K:Keep (d.W ρ) s.heap h'):ExcM hd h₀ h' e:=by
 obtain⟨a,o,vs,rfl,h2,h3,h4,h5,h6,h7,t,ot,ts,g1,g2,g3,g4,g5,g6,g7⟩:=x
 obtain⟨o1,e1,_,_,_,x1⟩:=K.old a o h2 fun q=>((I.writ a o h2 q).2 vs h4).2 h3
 obtain⟨o2,e2,_,_,_,x2⟩:=K.old t ot g2 (IsIt.notW ⟨ot,ts,g2,g3,itE g4 (by decide) (by decide)⟩ I)
 rw [x1 (.fields _ h4)] at e1
 rw [x2 (.fields _ g3)] at e2
 exact⟨a,o,vs,rfl,e1,h3,h4,h5,h6,h7,t,ot,ts,g1,e2,g3,g4,g5,g6,g7⟩
theorem zu {body:List Stmt} {h₀:ExceptHandler} {hs:List ExceptHandler} {fb:St→Res Fl} (hb:TSs prog w A d body fb):TS prog w A d (.Try body (h₀::hs) [] [] pos) fun st=>noEx (fb st):=fun ρ s st I=>by
 intro hbad h0 Q E hQ _
 dsimp only at hbad hQ
 cases hr:fb st with
 | bad=>rw [hr] at hbad;exact absurd rfl hbad
 | ex st'=>rw [hr] at hbad;exact absurd rfl hbad
 | ok f st'=>
  rw [hr] at hQ
  refine wpAny_Try_except (hb ρ s st I (by rw [hr];intro z;cases z) h0 _ _ (fun b st2 a s2 ρ2 eb rf p2=>?_) fun st2 e s2 ρ2 eb=>by rw [hr] at eb;cases eb)
  rw [hr] at eb
  cases eb
  have hq:=hQ _ _ _ _ ρ2 rfl rf p2
  cases rf<;>first | exact wpAny_execs_nil hq | exact hq
theorem Cw:(("IndexError":Str),Value.type "IndexError")∈bnames:=ac (i:=17) rfl
theorem zr {body suite:List Stmt} {b₀:Stmt} {fb fh:St→Res Fl} (hfr:A.frames=some d.fs) (hF:FrOk d) (T:TopOk d.B.heap FA G) (hE:EnvOk p d) (hi:okTop p "IndexError"=true) (hb:TSs prog w A { d with cx:=true } body fb)
  (hh:∀ a:Addr,TSs prog w (A.mark (some (.ref a))) d (b₀::suite) fh):TS prog w A d (.Try body [.ExceptHandler (some (.Name "IndexError" tp)) none (b₀::suite) hp] [] [] pos) fun st=>match fb st with
  | .ex st=>noEx (fh st)
  | r=>r:=fun ρ s st I=>by
 intro hbad h0 Q E hQ _
 dsimp only at hbad hQ
 have I':Inv { d with cx:=true } ρ none s st:=I.chg d.hd true I.h.hok
 have back:∀ {ρ' s' st'},Post { d with cx:=true } ρ none s ρ' s' st'→Post d ρ none s ρ' s' st':=fun q=>q.chg d.hd d.cx q.inv.h.hok
 cases hr:fb st with
 | bad=>rw [hr] at hbad;exact absurd rfl hbad
 | ok f st'=>
  rw [hr] at hQ
  refine wpAny_Try_except (hb ρ s st I' (by rw [hr];intro z;cases z) h0 _ _ (fun b st2 a s2 ρ2 eb rf p2=>?_) fun st2 e s2 ρ2 eb=>by rw [hr] at eb;cases eb)
  rw [hr] at eb
  cases eb
  have hq:=hQ _ _ _ _ ρ2 rfl (rf.chg (hd:=d.hd) (cx:=true)) (back p2)
  cases rf<;>first | exact wpAny_execs_nil hq | exact hq
 | ex st'=>
  rw [hr] at hbad hQ
  dsimp only at hbad hQ
  refine wpAny_Try_except (wpAny_with_toks (n:=1) h0 (hb ρ s st I' (by rw [hr];intro z;cases z) h0 _ _ (fun b st2 a s2 ρ2 eb rf p2=>by rw [hr] at eb;cases eb) fun st2 e s2 ρ2 eb p2 x2 ht=>?_))
  rw [hr] at eb
  cases eb
  refine noted (d:={ d with cx:=true }) hfr ⟨hF.top,hF.kinds⟩ I' p2 x2 fun h3 p3 x3=>?_
  refine flight (d:={ d with cx:=true }) (s':={ s2 with heap:=h3 }) I' p3 x3.m fun h4 p4 x4 _=>?_
  obtain⟨a,rfl⟩:=x4.ref
  have q4:=back p4
  refine wpAny_handleBy_builtin BQ BP BO ?_
  refine cU T hE hi Cw q4.inv ⟨rfl,x4.type (s:={ s2 with heap:=h4 }),?_⟩
  rw [if_pos rfl]
  refine flight (d:={ d with cx:=true }) (s':={ s2 with heap:=h4 }) I' p4 x4 fun h5 p5 x5 _=>?_
  have q5:=back p5
  cases hf:fh st' with
  | bad=>rw [hf] at hbad;exact absurd rfl hbad
  | ex _=>rw [hf] at hbad;exact absurd rfl hbad
  | ok f stF=>
   rw [hf] at hQ
   refine hh a ρ2 { s2 with heap:=h5 } st' q5.inv (by rw [hf];intro z;cases z) ht _ _ (fun b st6 v s6 ρ6 eb rf p6=>?_) fun st6 e s6 ρ6 eb=>by rw [hf] at eb;cases eb
   rw [hf] at eb
   cases eb
   exact hQ _ _ _ _ ρ6 rfl rf (q5.trans p6)
theorem zv {body suite:List Stmt} {f₀:Stmt} {fb ff:St→Res Fl} (hd0:d.hd=none) (hcx:d.cx=true) (hfr:A.frames=some d.fs) (hF:FrOk d) (hb:TSs prog w A { d with cx:=false } body fb)
  (hf:TSs prog w A d (f₀::suite) ff) (hf':∀ a:Addr,TSs prog w (A.mark (some (.ref a))) { d with hd:=some (.ref a) } (f₀::suite) ff):TS prog w A d (.Try body [] [] (f₀::suite) pos) fun st=>match fb st with
  | .ok g st=>thenNext (ff st) fun st=>.ok g st
  | .ex st=>thenNext (ff st) fun st=>.ex st
  | .bad=>.bad:=fun ρ s st I=>by
 intro hbad h0 Q E hQ hE
 dsimp only at hbad hQ hE
 have I':Inv { d with cx:=false } ρ none s st:=I.chg d.hd false I.h.hok
 have back:∀ {ρ' s' st'},Post { d with cx:=false } ρ none s ρ' s' st'→Post d ρ none s ρ' s' st':=fun q=>q.chg d.hd d.cx q.inv.h.hok
 cases hr:fb st with
 | bad=>rw [hr] at hbad;exact absurd rfl hbad
 | ok g st'=>
  rw [hr] at hbad hQ hE
  dsimp only at hbad hQ hE
  have fin:∀ (fl:Flow) (s2:Shared) (ρ2:List Addr),RFl d ρ2 s2.heap g fl→Post d ρ none s ρ2 s2 st'→0 < s2.toks →
    wpAny (model prog w) A (execs (f₀::suite) d.env) (fun g s'=>match g with | .next=>Q fl s' | g=>Q g s') (notedBy (model prog w) A d.env (cameBackBy (model prog w) A d.env E)) s2:=by
   intro fl s2 ρ2 rf q2 ht
   refine hf ρ2 s2 st' q2.inv (Res.bind_ne hbad) ht _ _ (fun b st3 a s3 ρ3 eb rb p3=>?_) fun st3 e s3 ρ3 eb p3 x3=>?_
   ·rw [eb] at hbad hQ
    cases rb with
    | next=>
     refine hQ g st3 fl s3 ρ3 rfl ?_ (q2.trans p3)
     cases rf with
     | next=>exact .next
     | brk=>exact .brk
     | cont=>exact .cont
     | ret r=>exact .ret (r.post q2.inv p3)
    | brk=>exact absurd rfl hbad
    | cont=>exact absurd rfl hbad
    | ret r=>exact absurd rfl hbad
   ·rw [eb] at hE
    exact passes hfr hF q2.inv p3 x3 fun h' p3' x'=>hE st3 e _ ρ3 rfl (q2.trans p3') (x'.old q2.keep.size)
  refine wpAny_Try_finally (wpAny_with_toks (n:=1) h0 (hb ρ s st I' (by rw [hr];intro z;cases z) h0 _ _ (fun b st2 a s2 ρ2 eb rf p2 ht=>?_) fun st2 e s2 ρ2 eb=>by rw [hr] at eb;cases eb))
  rw [hr] at eb
  cases eb
  have q2:=back p2
  cases rf with
  | next=>exact wpAny_execs_nil (fin _ _ _ .next q2 ht)
  | brk=>exact fin _ _ _ .brk q2 ht
  | cont=>exact fin _ _ _ .cont q2 ht
  | ret r=>exact fin _ _ _ (.ret r) q2 ht
 | ex st'=>
  rw [hr] at hbad hQ hE
  dsimp only at hbad hQ hE
  refine wpAny_Try_finally (wpAny_with_toks (n:=1) h0 (hb ρ s st I' (by rw [hr];intro z;cases z) h0 _ _ (fun b st2 a s2 ρ2 eb rf p2 ht=>by rw [hr] at eb;cases eb) fun st2 e s2 ρ2 eb p2 x2 ht=>?_))
  rw [hr] at eb
  cases eb
  have F':FrOk { d with cx:=false }:=⟨hF.top,hF.kinds⟩
  refine noted (d:={ d with cx:=false }) hfr F' I' p2 x2 fun h3 p3 x3=>?_
  obtain⟨a,rfl⟩:=x3.m.ref
  refine⟨(by intro z;cases z),?_⟩
  refine noted (d:={ d with cx:=false }) (s':={ s2 with heap:=h3 }) hfr F' I' p3 x3.at fun h4 p4 x4=>?_
  refine flight (d:={ d with cx:=false }) (s':={ s2 with heap:=h4 }) I' p4 x4.m fun h5 p5 x5 _=>?_
  have q5:=back p5
  have hctx:({ d with cx:=false }:D).ctx=none:=hd0
  have J:Inv { d with hd:=some (.ref a) } ρ2 none { s2 with heap:=h5 } st':=q5.inv.chg (some (.ref a)) d.cx fun v hv=>by
   cases hv
   obtain⟨a',o,vs,e1,h2,h3,h4,h5,h6,h7,_⟩:=x5
   cases e1
   exact⟨a,o,vs,rfl,h2,h4,h7 hctx,h3⟩
  have back2:∀ {ρ' s' st'},Post { d with hd:=some (.ref a) } ρ2 none { s2 with heap:=h5 } ρ' s' st'→Post d ρ2 none { s2 with heap:=h5 } ρ' s' st':=fun q=>q.chg d.hd d.cx fun v hv=>by rw [hd0] at hv;cases hv
  refine hf' a ρ2 { s2 with heap:=h5 } st' J (Res.bind_ne hbad) ht _ _ (fun b st6 v s6 ρ6 eb rb p6=>?_) fun st6 e s6 ρ6 eb p6 x6=>?_
  ·rw [eb] at hbad hE
   have q6:=back2 p6
   cases rb with
   | next=>
    have x6:ExcM ({ d with cx:=false }:D).ctx s.heap s6.heap (.ref a):=x5.keep q5.inv q6.keep
    have qq:=q5.trans q6
    have qq':Post { d with cx:=false } ρ none s ρ6 s6 st6:=qq.chg d.hd false qq.inv.h.hok
    show wpAny (model prog w) A (PySem.passOn "try.finally" (.ref a) d.env) Q E s6
    unfold PySem.passOn
    obtain⟨a',o,vs,e1,h2,h3,h4,h5,h6,h7,t,ot,ts,g1,_⟩:=id x6
    cases e1
    refine wpAny_bind (wpAny_field h2 h4 g1 ?_)
    rw [if_neg (by simp)]
    refine wpAny_bind (flight (d:={ d with cx:=false }) I' qq' x6 fun h7 p7 x7 hn=>wpAny_throw ?_)
    obtain⟨outer,ho⟩:=hF.top
    obtain⟨L,mL,hfL,_⟩:=I.h.frames d.env (by rw [ho];exact .head _)
    refine hE st6 (.ref a) _ ρ6 rfl (back p7) ?_
    obtain⟨b,o,vs,h1,h2,h3,h4,h5,h6,h7,h8⟩:=(hn L hfL).at
    exact⟨b,o,vs,h1,h2,h3,h4,h5,h6,fun z=>(nomatch hcx.symm.trans (D.ctx_none z).1),h8⟩
   | brk=>exact absurd rfl hbad
   | cont=>exact absurd rfl hbad
   | ret r=>exact absurd rfl hbad
  ·rw [eb] at hE
   have x6':ExcAt d.ctx ({ s2 with heap:=h5 }:Shared).heap s6.heap d.env.frame e:=by
    obtain⟨b,o,vs,h1,h2,h3,h4,h5,h6,h7,h8⟩:=x6
    exact⟨b,o,vs,h1,h2,h3,h4,h5,h6,fun z=>(nomatch hcx.symm.trans (D.ctx_none z).1),h8⟩
   have q6:=back2 p6
   exact passes (A':=A.mark (some (.ref a))) hfr hF q5.inv q6 x6' fun h' p6' x'=>hE st6 e _ ρ6 rfl (q5.trans p6') (x'.old q5.keep.size)
end
theorem uJ {l:List V} (h:l.length=2):∃ v1 v2,l=[v1,v2]:=by
 match l,h with
 | [v1,v2],_=>exact⟨v1,v2,rfl⟩
section
variable {prog:Program} {w:World} {A:Around} {p:P} {d:D} {ρ ρ':List Addr} {cv:Option V} {s s':Shared} {st st':St} {pos hp tp:Pos} {e:Value} {FA:Nat→Addr} {G:Nat→Option V}
theorem Res.bind_assoc {α β γ:Type} (r:Res α) (F:α→St→Res β) (H:β→St→Res γ):(r.bind F).bind H=r.bind fun a st=>(F a st).bind H:=by cases r<;>rfl
theorem gY {i:Nat} {x y:Str} {px py:Pos} {elt iter:Expr} {ifs:List Expr} {scope:Scope} {cpos:Pos} {fi:St→Res V} {tf:V→St→Res Bool} {ef:V→St→Res V} (hE:EnvOk p d) (hp:(p.fnm.map (·.1)).Nodup) (hc:p.comp=none) (ho:okVar p i x=true)
  (hS:ScopeOk p scope y) (hA:A.handled=none) (hsw:swapsWith (.ListComp elt [⟨.Name y py,iter,ifs,0⟩] scope cpos) (some (.Name x px)) pos.line d.env=pure true)
  (hs:∀ x,foldedSetIterable iter d.env x=pure x) (hit:TE prog w A d none iter fi)
  (hT:∀ C cl x ρ s st,EnvOk (pcomp p scope y) (dcomp d scope C cl y)→Inv (dcomp d scope C cl y) ρ (some x) s st→TriP (dcomp d scope C cl y) ρ (some x) s RBool (wpAny (model prog w) A (compIfs ifs (dcomp d scope C cl y).env)) (tf x st))
  (hEl:∀ C cl x,EnvOk (pcomp p scope y) (dcomp d scope C cl y)→TE prog w A (dcomp d scope C cl y) (some x) elt (ef x)) :
  TS prog w A d (.Assign [.Name x px] (.ListComp elt [⟨.Name y py,iter,ifs,0⟩] scope cpos) pos) fun st=>((fi st).bind fun x st=>compV x (compG tf ef) st).bind fun v st=>.ok .next (setVar st i v):=fun ρ s st I=>by
 have hcl:=pD (scope:=scope) (env:=d.env) (gG hE hS I)
 show TriP d ρ none s (RFl d) _ (((fi st).bind fun x st=>compV x (compG tf ef) st).bind fun v st=>.ok .next (setVar st i v))
 rw [Res.bind_assoc]
 refine ((hit ρ s st I).bind (F:=fun va Q E s=>wpAny (model prog w) A (pyIter va) (fun it s₂=>wpAny (model prog w) A (newList []) (fun acc s₃=>
  wpAny (model prog w) A (newFunctionEnv scope d.env.globals (clos d.env.cells scope.names []) [] d.env.qual none .none (some d.env)) (fun cenv s₄=>
   codeAny (model prog w) A (.compStart (.ListComp elt [⟨.Name y py,iter,ifs,0⟩] scope cpos) 0 it acc { cenv with scope:=relabel scope d.env }) (compPost (model prog w) A E (some (assign (.Name x px) d.env)) (fun _ s'=>Q Flow.next s') acc cenv.locals) s₄) E s₃) E s₂) E s) fun u st1 va s1 ρ1 _ r1 p1=>?_).imp fun Q E h=>?_
 ·have I1:=p1.inv
  unfold compV
  cases hcg:compGo u (compG tf ef) FUEL 0 st1 with
  | bad=>exact .bad
  | ex st'=>exact absurd hcg (fI _ _ _ _)
  | ok full stF=>
   change TriP d ρ1 none s1 (RFl d) _ ((alloc full { stF with fv:=st1.fv }).bind fun v st=>.ok .next (setVar st i v))
   unfold alloc
   by_cases hfl:full.length≤LIM
   ·rw [if_pos hfl]
    intro _ h0 Q E hQ _
    refine ke (R:=fun acc C=>compPost (model prog w) A E (some (assign (.Name x px) d.env)) (fun _ s'=>Q Flow.next s') acc C) accL loopL startL newL (fun _ _=>trivial) hE hS hA hT hEl I1 r1 h0 hcg hfl fun D C s' ρ' m lowC lowD nDC nD a q hn=>?_
    have q':=q.addL I1 nD lowD a hfl
    have rl:VR d.B.heap (ρ'++[D]) s'.heap (.loc stF.hp.length) (.ref D):=VR.new q.inv.h.len
    show wpAny (model prog w) A (assign (.Name x px) d.env (.ref D)) _ E s'
    refine wpAny_assign_Name (store0 hE hp hc ho q'.inv rl fun s2 q2 _=>?_)
    have nC:¬d.W (ρ'++[D]) C:=fun z=>by
     rcases z with z | z | ⟨_,c,z⟩
     ·exact q'.inv.h.nne hn z
     ·obtain⟨m0,⟨o,es,ep,e',_⟩,_⟩:=I1.dict
      rw [←z] at e'
      exact absurd (au e') (bf.mpr lowC)
     ·obtain⟨v,⟨o,e',_⟩,_⟩:=I1.cfresh c C z
      exact absurd (au e') (bf.mpr lowC)
    have hn2:s2.heap.Ns C m:=q2.keep.ns hn nC
    exact⟨m,hn2,fun h' hs'=>hQ .next _ .next _ (ρ'++[D]) rfl .next ((q'.trans q2).dictOff I1 hn2 lowC hs')⟩
   ·rw [if_neg hfl];exact .bad
 ·rw [exec_Assign_Name_used _ _ _ _ hsw]
  refine wpAny_bind (wpAny_standAt (wpAny_bind ?_))
  show wpAny _ A (do let _ ← comprehension (.ListComp elt [⟨.Name y py,iter,ifs,0⟩] scope cpos) scope d.env _ (newList []) false (eval iter d.env) (some (assign (.Name x px) d.env))) _ _ s
  refine wpAny_bind (wpAny_mono (wpAny_comprehension_free (use:=some (assign (.Name x px) d.env)) (Q:=fun _ s'=>Q .next s') rfl hs hcl hS.kind hS.loc h) (fun _ s' hq=>wpAny_pure (wpAny_pure hq)) fun _ _ e=>e)
theorem gv {is:List Nat} {v:V} {st:St} {r:Res Fl} (h:unpackV is v st=r):(∃ l,v = .tup l∧l.length=is.length∧r = .ok .next (setVars st is l))∨r = .bad:=by
 cases v with
 | tup l=>
  by_cases hl:l.length=is.length
  ·exact .inl ⟨l,rfl,hl,by rw [←h];show guard (decide (l.length=is.length)) _=_;rw [decide_eq_true hl];rfl⟩
  ·exact .inr (by rw [←h];show guard (decide (l.length=is.length)) _=_;rw [decide_eq_false hl];rfl)
 | _=>exact .inr h.symm
theorem uK {is:List Nat} {es:List Expr} {k:Nat} {pt:Pos} {x:Expr} {f:St→Res V} (hA:A.handled=none) (hE:EnvOk p d) (hp:(p.fnm.map (·.1)).Nodup) (hc:p.comp=none) (ho:NamesOk p is es) (hn:swapsWithSole [.Tuple es k pt] x pos.line d.env=pure false)
  (hw:swappedStores [.Tuple es k pt] x d.env=pure none) (hx:TE prog w A d none x f):TS prog w A d (.Assign [.Tuple es k pt] x pos) fun st=>(f st).bind fun v st=>unpackV is v st:=fun ρ s st I=>
 ((hx ρ s st I).bind (RV':=RFl d) (f:=fun v st=>unpackV is v st) (F:=fun u Q E s=>wpAny (model prog w) A (assign (.Tuple es k pt) d.env u) (fun _ s=>Q Flow.next s) E s) fun v st1 u s1 ρ1 _ r1 p1=>by
  intro hb h0 Q E hQ hE'
  refine j3 (A:=A) (k:=k) (pt:=pt) hA hE hp hc ho ρ1 s1 st1 v u p1.inv r1 hb h0 _ _ (fun b st2 a s2 ρ2 e _ q=>?_) fun st2 e s2 ρ2 ee=>?_
  ·rcases gv e with ⟨l,_,_,q⟩ | q<;>cases q
   exact hQ .next _ .next s2 ρ2 e .next q
  ·rcases gv ee with ⟨l,_,_,q⟩ | q<;>cases q).imp fun Q E h=>wpAny_Assign_stores (wpAny_mono h (fun v s1 h1=>by
    show wpAny (model prog w) A (assignAll v [assign (.Tuple es k pt) d.env]) _ E s1
    first
     | exact h1
     | exact wpAny_bind (wpAny_mono h1 (fun _ _ z=>wpAny_pure z) fun _ _ e=>e)
     | exact wpAny_bind (wpAny_holding (wpAny_mono h1 (fun _ _ z=>wpAny_pure z) fun _ _ e=>e))) fun _ _ e=>e) hn hw
theorem rZ {i j:Nat} {a b:Str} {pa pb pt px:Pos} {k kx:Nat} {x y:Expr} {f:St→Res V} (hA:A.handled=none) (hE:EnvOk p d) (hp:(p.fnm.map (·.1)).Nodup) (hc:p.comp=none) (ho:okVar p i a=true) (ho':okVar p j b=true) (hij:i≠j) (hn:swapsWithSole [.Tuple [.Name a pa,.Name b pb] k pt] (.Tuple [x,y] kx px) pos.line d.env=pure false)
  (hw:swappedStores [.Tuple [.Name a pa,.Name b pb] k pt] (.Tuple [x,y] kx px) d.env=pure (some [a,b])) (hx:TE prog w A d none (.Tuple [x,y] kx px) f) :
  TS prog w A d (.Assign [.Tuple [.Name a pa,.Name b pb] k pt] (.Tuple [x,y] kx px) pos) fun st=>(f st).bind fun v st=>unpackV [i,j] v st:=fun ρ s st I=>
 ((hx ρ s st I).bind (RV':=RFl d) (f:=fun v st=>unpackV [i,j] v st) (F:=fun u Q E s=>wpAny (model prog w) A (unpackItems u 2 none) (fun items s=>wpAny (model prog w) A (assignInOrder [fun v=>bindName d.env b v,fun v=>bindName d.env a v] items.reverse) (fun _ s=>Q Flow.next s) E s) E s) fun v st1 u s1 ρ1 _ r1 p1=>by
  intro hbad h0 Q E hQ _
  rcases gv (rfl:unpackV [i,j] v st1=_) with ⟨l,rfl,hl,hu⟩ | hu
  ·obtain⟨ad,xs,kk,rfl,e,z,r⟩:=r1
   have hx:xs.size=l.length:=lens r
   obtain⟨v1,v2,rfl⟩:=uJ hl
   have hI:=p1.inv
   have h2:(2:Nat)=xs.size:=by rw [hx];rfl
   rw [h2]
   refine cN (wpAny_unpackItems_tuple hA (items:=xs) ⟨_,e,rfl,_,rfl⟩ fun h' he hsz=>?_)
   have kk':∀ b o,s1.heap.get? b=some o→h'.get? b=some o:=fun b o e=>he b o (aP (au e)) e
   have q:=Post.grown (t:=s1.toks) hI kk' hsz
   have r':=VRs.post hI q r
   generalize hxs:xs.toList=xl at r'
   obtain⟨u1,_,q1,⟨u2,_,q2,r3,rfl⟩,rfl⟩:=r'
   rw [show _=[] from r3]
   refine wpAny_bind (wpAny_holding (wpAny_bindName (store hE hp hc ho' q.inv q2 h0 fun s2 p2 ht2=>?_)))
   refine wpAny_bind (wpAny_holding (wpAny_bindName (store hE hp hc ho p2.inv (q1.post q.inv p2) ht2 fun s3 p3 ht3=>?_)))
   have hset:setVar (setVar st1 j v2) i v1=setVar (setVar st1 i v1) j v2:=congrArg (fun l=>St.mk l st1.hp) (List.set_comm _ _ (Ne.symm hij))
   rw [hset] at p3
   exact wpAny_pure (hQ .next _ .next s3 ρ1 hu .next ((q.trans p2).trans p3))
  ·exact absurd hu hbad).imp fun Q E h=>by
   rw [arm_exec_Assign]
   refine wpAny_bind (wpAny_standAt ?_)
   rw [hn]
   refine wpAny_bind (wpAny_pure ?_)
   rw [if_neg (by decide)]
   refine wpAny_bind (wpAny_mono h (fun v s₁ h₁=>?_) fun _ _ x=>x)
   rw [hw]
   refine wpAny_bind (wpAny_pure ?_)
   unfold assignStores
   refine wpAny_bind (wpAny_rule (wpAny_bind (wpAny_mono h₁ (fun items s2 h2=>?_) fun _ _ e=>e)))
   exact wpAny_bind (wpAny_mono h2 (fun _ _ z=>wpAny_pure z) fun _ _ e=>e)
end
def Binds (prog:Program) (w:World) (B:Heap) (fm:FuncData) (pn:List Str) (fd:FD):Prop:=
 ∀ (A:Around) (ρ:List Addr) (s:Shared) (vs:List V) (xs:List Value) (fv:List (Option V)),(∀ b o,B.get? b=some o→s.heap.get? b=some o)→VRs B ρ s.heap vs xs→frame fd vs=some fv →
  ∀ (Q:List (Str×Value)→Shared→Prop) (E:Value→Shared→Prop),(∀ h' tk us pv k,(∀ b o,s.heap.get? b=some o→h'.get? b=some o)→s.heap.objs.size≤h'.objs.size→fv=pv.map some++bB k none→VRs B ρ h' pv us→pv.length=pn.length →
   Q (pn.zip us) { s with heap:=h',toks:=tk })→wpAny (model prog w) A (bindArgs fm ⟨xs,[]⟩) Q E s
structure FnOk (prog:Program) (w:World) (B:Heap) (fa:Addr) (fd:FD) (scope:Scope) (body:List Stmt) (pn:List Str):Prop where
 ex:∃ o fm,B.get? fa=some o∧o.data = .func fm∧fm.body = .stmts body∧fm.scope=scope∧fm.closure=[]∧fm.globals=mainGlobals∧fm.builtins=builtinsNs∧B.CodeRec fm.code fm.qualname∧Binds prog w B fm pn fd
 lim:B.NoLimit
 kind:scope.kind = .function
 co:scope.isCoroutine=false
 gen:scope.isGenerator=false
 nodup:(scope.names.map (·.1)).Nodup
 par:∀ (i:Nat) (x:Str),pn[i]?=some x→∃ k,scope.names[i]?=some (x,k)∧(k = .local∨k = .cell)
section
variable {prog:Program} {w:World} {A:Around} {ρ ρ':List Addr} {s s':Shared} {B:Shared} {fs:List Env} {σ σ':Hp}
theorem dh {α:Type} {l:List (Str×α)} (h:(l.map (·.1)).Nodup) {x:Str} {a:α} (hm:(x,a)∈l):l.lookup x=some a:=by
 induction l with
 | nil=>cases hm
 | cons y l ih=>
  obtain⟨n,b⟩:=y
  rw [aZ,b0] at h
  rw [gR]
  rcases az.mp hm with hm | hm
  ·cases hm;simp
  ·have:(x == n)=false:=beq_eq_false_iff_ne.mpr fun q=>h.1 (by rw [←q];exact dw (f:=(·.1)) hm)
   rw [this]
   exact ih h.2 hm
theorem gP:∀ (l:List (Str×NameKind)) (n:Nat) (acc:List (Str×Addr)) (x:Str×Addr),x∈cellsFrom n l acc→x∈acc∨(x.1,NameKind.cell)∈l
 | [],_,_,_,h=>.inl h
 | (m,k)::r,n,acc,x,h=>by
  rw [cellsFrom] at h
  split at h
  ·rename_i hk
   rcases gP r _ _ x h with h | h
   ·rcases az.mp h with h | h
    ·rw [h,show k = .cell from eq_of_beq hk];exact .inr (.head _)
    ·exact .inl h
   ·exact .inr (.tail _ h)
  ·rcases gP r _ _ x h with h | h
   ·exact .inl h
   ·exact .inr (.tail _ h)
theorem du:∀ (l:List (Str×NameKind)) (n:Nat) (acc:List (Str×Addr)),(l.map (·.1)).Nodup→(acc.map (·.1)).Nodup→(∀ x∈acc,x.1∉l.map (·.1))→((cellsFrom n l acc).map (·.1)).Nodup
 | [],_,_,_,h,_=>h
 | (m,k)::r,n,acc,hn,h,hd=>by
  rw [cellsFrom]
  rw [aZ,b0] at hn
  split
  ·refine du r _ _ hn.2 ?_ fun x hx=>?_
   ·rw [aZ,b0]
    refine⟨fun q=>?_,h⟩
    obtain⟨y,hy,he⟩:=bE.mp q
    exact hd y hy (by rw [he,aZ];exact .head _)
   ·rcases az.mp hx with hx | hx
    ·rw [hx];exact hn.1
    ·exact fun q=>hd x hx (by rw [aZ];exact .tail _ q)
  ·exact du r _ _ hn.2 h fun x hx q=>hd x hx (by rw [aZ];exact .tail _ q)
theorem fO:∀ (l:List (Str×NameKind)) (n:Nat) (acc:List (Str×Addr)) (x:Str),((x,NameKind.cell)∈l∨x∈acc.map (·.1))→x∈(cellsFrom n l acc).map (·.1)
 | [],_,_,_,h=>h.elim (fun h=>nomatch h) id
 | (m,k)::r,n,acc,x,h=>by
  rw [cellsFrom]
  split
  ·refine fO r _ _ x ?_
   rcases h with h | h
   ·rcases az.mp h with h | h
    ·cases h;exact .inr (by rw [aZ];exact .head _)
    ·exact .inl h
   ·exact .inr (by rw [aZ];exact .tail _ h)
  ·rename_i hk
   refine fO r _ _ x ?_
   rcases h with h | h
   ·rcases az.mp h with h | h
    ·cases h;exact absurd (show (NameKind.cell == NameKind.cell)=true from rfl) hk
    ·exact .inl h
   ·exact .inr h
theorem jP {l:List (Str×NameKind)} {n:Nat} (hn:(l.map (·.1)).Nodup) {x:Str} (h:(x,NameKind.cell)∈l):∃ c,(cellsFrom n l []).lookup x=some c:=by
 obtain⟨y,hy,he⟩:=bE.mp (fO l n [] x (.inl h))
 refine⟨y.2,dh (du l n [] hn .nil fun _ q=>nomatch q) ?_⟩
 rw [←he]
 exact hy
theorem on {kindOf:Str→Option NameKind}:∀ (l:List (Str×Value)) (m:Str→Option Value),(l.map (·.1)).Nodup→∀ (x:Str),(∀ u,(x,u)∈l→kindOf x=some .local→bindL kindOf l m x=some u)∧(x∉l.map (·.1)→bindL kindOf l m x=m x)
 | [],m,_,x=>⟨fun _ h=>(nomatch h),fun _=>rfl⟩
 | (n,v)::r,m,hn,x=>by
  rw [aZ,b0] at hn
  have ih:=on (kindOf:=kindOf) r (if kindOf n=some .local then fun y=>if y=n then some v else m y else m) hn.2 x
  refine⟨fun u hu hk=>?_,fun hx=>?_⟩
  ·rw [bindL]
   rcases az.mp hu with h | h
   ·cases h
    rw [ih.2 hn.1,if_pos hk]
    simp
   ·exact ih.1 u h hk
  ·rw [aZ,az,not_or] at hx
   rw [bindL,ih.2 hx.2]
   split
   ·simp [hx.1]
   ·rfl
theorem oq {kindOf:Str→Option NameKind}:∀ (l:List (Str×Value)) (m:Str→Option Value),(l.map (·.1)).Nodup→∀ (x:Str),(∀ u,(x,u)∈l→kindOf x=some .cell→bindC kindOf l m x=some u)∧(x∉l.map (·.1)→bindC kindOf l m x=m x)
 | [],m,_,x=>⟨fun _ h=>(nomatch h),fun _=>rfl⟩
 | (n,v)::r,m,hn,x=>by
  rw [aZ,b0] at hn
  have ih:=oq (kindOf:=kindOf) r (if kindOf n=some .local then m else fun y=>if y=n then some v else m y) hn.2 x
  refine⟨fun u hu hk=>?_,fun hx=>?_⟩
  ·rw [bindC]
   rcases az.mp hu with h | h
   ·cases h
    rw [ih.2 hn.1,if_neg (by rw [hk];simp)]
    simp
   ·exact ih.1 u h hk
  ·rw [aZ,az,not_or] at hx
   rw [bindC,ih.2 hx.2]
   split
   ·rfl
   ·simp [hx.1]
def D.enter (B:Shared) (fs:List Env) (env:Env) (scope:Scope):D:=⟨B,env::fs,none,env,scope.names,none,false⟩
theorem InvH.enter {scope:Scope} {qual:Str} {fa:Addr} {code:Value} {env:Env} {pv:List V} {us:List Value} {k:Nat} {pn:List Str} (I:InvH B fs none ρ s σ)
  (hnd:(scope.names.map (·.1)).Nodup) (par:∀ (i:Nat) (x:Str),pn[i]?=some x→∃ k,scope.names[i]?=some (x,k)∧(k = .local∨k = .cell)) (hl:pv.length=pn.length) (hv:VRs B.heap ρ s.heap pv us)
  (he:env=newEnv scope s.heap.objs.size mainGlobals (cellsFrom (s.heap.objs.size+1) scope.names []) qual (some fa) code none builtinsNs)
  (x:InCallC s env.locals (bindL env.kindOf (pn.zip us) fun _=>none) env.cells (bindC env.kindOf (pn.zip us) fun _=>none) s') :
  Inv (D.enter B fs env scope) ρ none s' ⟨pv.map some++bB k none,σ⟩:=by
 obtain⟨⟨h1,tk,rfl⟩,ns,keep,fresh⟩:=x.toInCall
 have hL:env.locals=s.heap.objs.size:=by rw [he];rfl
 have hfr:env.frame=some env.locals:=by rw [he];rfl
 have hsc:env.scope=scope:=by rw [he];rfl
 have hce:env.cells=cellsFrom (s.heap.objs.size+1) scope.names []:=by rw [he];rfl
 have hsz:s.heap.objs.size≤h1.objs.size:=by
  have:=ns.lt
  have h2:env.locals < h1.objs.size:=this
  rw [hL] at h2
  exact aW h2
 have up:=I.up (t:=tk) keep hsz
 have low:∀ {a:Addr},s.heap.objs.size≤a→B.heap.get? a=none:=fun {a} ha=>by
  cases z:B.heap.get? a with
  | none=>rfl
  | some o=>exact absurd (au (I.base a o z)) (bf.mpr ha)
 have kof:∀ y,env.kindOf y=scope.names.lookup y:=fun y=>by unfold c8;rw [hsc]
 have hlen:us.length=pn.length:=by rw [hv.length];exact hl
 have pnd:((pn.zip us).map (·.1)).Nodup:=by
  have h2:(pn.zip us).map (·.1)=pn:=by
   rw [eo];grind
  rw [h2]
  refine fR.mpr fun i j hi hj hij hab=>?_
  obtain⟨k1,g1,_⟩:=par i pn[i] (ak hi)
  obtain⟨k2,g2,_⟩:=par j pn[j] (ak hj)
  rw [hab] at g1
  exact absurd (hX hnd g1 g2) (aP hij)
 have vo:∀ (i:Nat) (y:Str) (kd:NameKind),scope.names[i]?=some (y,kd)→∀ v,((pv.map some++bB k none)[i]?.join=some v)→∃ u,(y,u)∈pn.zip us∧VR B.heap ρ h1 v u:=by
  intro i y kd hi v hv'
  have hip:i < pv.length:=by
   rcases dW i pv.length with h | h
   ·exact h
   ·rw [aV (by simpa using h)] at hv'
    rw [List.getElem?_replicate] at hv'
    split at hv'<;>cases hv'
  rw [cb (by simpa using hip),aN,ak hip] at hv'
  have hv2:pv[i]=v:=by simpa using hv'
  obtain⟨u,hu,ru⟩:=hv.get (ak hip)
  rw [hv2] at ru
  have hipn:i < pn.length:=by grind
  obtain⟨k2,g2,_⟩:=par i pn[i] (ak hipn)
  rw [hi] at g2
  cases g2
  refine⟨u,?_,VR.keep (W:=fun _=>False) (.of_all keep hsz) dX (fun _ _ e=>e) ru⟩
  rw [List.mem_iff_getElem?]
  refine⟨i,?_⟩
  rw [pM]
  exact⟨ak hipn,hu⟩
 refine⟨⟨up.base,up.gens,up.os,up.len,up.list,up.nodup,up.fresh,fun e hm=>?_,fun v hv=>nomatch hv⟩,low (by rw [show (D.enter B fs env scope).env.locals=env.locals from rfl,hL];exact am _),⟨_,ns,⟨fun _ i y hi v hv'=>?_,fun y hy=>nomatch hy⟩⟩,fun i y hi hk=>?_,x.apart,fun y c hm=>?_⟩
 ·rcases az.mp hm with rfl | hm
  ·exact⟨_,_,hfr,ns,low (by rw [hL];exact am _)⟩
  ·exact up.frames e hm
 ·obtain⟨u,hu,ru⟩:=vo i y _ hi v hv'
  refine⟨u,(on _ _ pnd y).1 u hu ?_,ru⟩
  rw [kof]
  exact dh hnd (ac hi)
 ·have hmem:=ac hi
  obtain⟨c,hc⟩:=jP (n:=s.heap.objs.size+1) hnd hmem
  rw [←hce] at hc
  refine⟨c,_,hc,x.cell y c hc,low ?_,fun v hv'=>?_⟩
  ·have:=x.above y c (cV hc)
   rw [hL] at this
   exact aW this
  ·obtain⟨u,hu,ru⟩:=vo i y _ hi v hv'
   refine⟨u,(oq _ _ pnd y).1 u hu ?_,ru⟩
   rw [kof]
   exact dh hnd hmem
 ·have hl2:env.cells.lookup y=some c:=by
   refine dh ?_ hm
   rw [hce]
   exact du _ _ _ hnd .nil fun _ q=>nomatch q
  refine⟨_,x.cell y c hl2,low ?_⟩
  have:=x.above y c hm
  rw [hL] at this
  exact aW this
end
theorem mC {F:Nat→Option FD} {G:Nat→Option V} {k f:Nat} {fd:FD} (h:F f=some fd):callN F G (k+1) f=stepN (callN F G k) G fd:=by
 funext vs σ
 unfold callN
 rw [h]
 rfl
section
variable {prog:Program} {w:World} {A:Around} {ρ ρ':List Addr} {s s':Shared} {B:Shared} {fs:List Env} {σ σ':Hp}
inductive StepN (call:CallT) (G:Nat→Option V) (fd:FD) (vs:List V) (σ:Hp) (v:V) (σ':Hp):Prop
 | mk (fv:List (Option V)) (fl:Fl) (st:St) (f:frame fd vs=some fv) (e:exs call G fd.body ⟨fv,σ⟩ = .ok fl st) (h:st.hp=σ') (r:fl = .ret v∨(fl = .next∧v = .none))
theorem sm {call:CallT} {G:Nat→Option V} {fd:FD} {vs:List V} {v:V} (h:stepN call G fd vs σ=some (v,σ')):StepN call G fd vs σ v σ':=by
 unfold stepN at h
 obtain⟨fv,hf,h⟩:=aY.mp h
 cases he:exs call G fd.body ⟨fv,σ⟩ with
 | ok fl st=>
  rw [he] at h
  cases fl with
  | ret v'=>cases h;exact⟨fv,_,st,hf,he,rfl,.inl rfl⟩
  | next=>cases h;exact⟨fv,_,st,hf,he,rfl,.inr ⟨rfl,rfl⟩⟩
  | _=>cases h
 | ex st=>rw [he] at h;cases h
 | bad=>rw [he] at h;cases h
theorem vJ {scope:Scope} {globals:Addr} {n:Str} {v:Value} {qual:Str} {func:Option Addr} {code:Value} {builtins:Addr} {Q:Env→Shared→Prop} {E:Value→Shared→Prop} (hk:scope.kind = .function) (hl:scope.names.lookup n=some .local)
  (hQ:∀ env,env=newEnv scope s.heap.objs.size globals (cellsFrom (s.heap.objs.size+1) scope.names []) qual func code none builtins →
   ∀ s',InCallC s env.locals (bindL env.kindOf [(n,v)] fun _=>none) env.cells (bindC env.kindOf [(n,v)] fun _=>none) s'→0 < s'.toks→Q env s') :
  wpAny (model prog w) A (newFunctionEnv scope globals [] [(n,v)] qual func code none builtins) Q E s:=by
 simp only [newFunctionEnv,Option.isSome_none,be,if_false]
 refine wpAny_bind (wpAny_alloc ?_)
 refine wpAny_bind (wpAny_layCells _ (fun name kind cells=>by cases hkc:kind == NameKind.cell<;>simp [hkc]) _ _ _ _ ?_)
 have ok:=cellsFrom_ok scope.names (s.heap.push { cls:=.type "frame",data:=.dict #[] }) (s.heap.objs.size+1) [] ⟨fun _ _ hm=>(nomatch hm),List.Pairwise.nil⟩ (by rw [aH];exact am _)
 rw [aH] at ok
 rw [show ({ s with heap:=s.heap.push { cls:=.type "frame",data:=.dict #[] } }:Shared).heap.objs.size=s.heap.objs.size+1 from aH ..]
 have key:∀ env,env=newEnv scope s.heap.objs.size globals (cellsFrom (s.heap.objs.size+1) scope.names []) qual func code none builtins →
   wpAny (model prog w) A (storeName env n v) (fun _ s'=>Q env s') E { s with heap:=pushCells (s.heap.push { cls:=.type "frame",data:=.dict #[] }) scope.names }:=by
  intro env he
  have hsc:env.scope=scope:=by rw [he];rfl
  have hL:env.locals=s.heap.objs.size:=by rw [he];rfl
  have hc:env.cells=cellsFrom (s.heap.objs.size+1) scope.names []:=by rw [he];rfl
  have hkd:env.kindOf n=some .local:=by unfold c8;rw [hsc];exact hl
  have x:InCallC s env.locals (fun _=>none) env.cells (fun _=>none) { s with heap:=pushCells (s.heap.push { cls:=.type "frame",data:=.dict #[] }) scope.names }:=by
   rw [hL,hc]
   exact⟨⟨⟨_,_,rfl⟩,(Heap.Ns.new s.heap (.type "frame")).keeps (pushCells_keeps _ _),fun b o e=>pushCells_keeps _ _ b o (af _ e),am _⟩,fun n c hc=>(ok.empty n c (cV hc)).1,ok.apart,fun n c hm=>(ok.empty n c hm).2⟩
  refine wpAny_storeName_local hkd x.toInCall.ns (fun h' hn' hs'=>hQ env he _ ⟨⟨⟨h',_,rfl⟩,?_,fun b o e=>?_,x.toInCall.fresh⟩,fun k c hc=>?_,x.apart,x.above⟩ (bo _)) (by rw [hsc,hk];rfl)
  ·unfold bindL bindL
   rw [if_pos hkd]
   exact hn'
  ·exact hs'.extBut b o (aP (aE (au e) x.toInCall.fresh)) (x.toInCall.keep b o e)
  ·unfold bindC bindC
   rw [if_pos hkd]
   exact (x.cell k c hc).sameBut hs' (bR (x.above k c (cV hc)))
 refine wpAny_bind ?_
 rw [dD]
 exact wpAny_bind (wpAny_bind (wpAny_mono (key _ rfl) (fun _ s' hq=>wpAny_pure (wpAny_pure (wpAny_pure hq))) fun _ _ e=>e))
theorem te {scope:Scope} {globals:Addr} {binds:List (Str×Value)} {qual:Str} {func:Option Addr} {code:Value} {builtins:Addr} {Q:Env→Shared→Prop} {E:Value→Shared→Prop} (hk:scope.kind = .function)
  (hp:0 < s.toks∨∃ n v,binds=[(n,v)]∧scope.names.lookup n=some .local)
  (hkind:∀ x∈binds,scope.names.lookup x.1=some .local∨(scope.names.lookup x.1=some .cell∧((cellsFrom (s.heap.objs.size+1) scope.names []).lookup x.1).isSome=true))
  (hQ:∀ env,env=newEnv scope s.heap.objs.size globals (cellsFrom (s.heap.objs.size+1) scope.names []) qual func code none builtins →
   ∀ s',InCallC s env.locals (bindL env.kindOf binds fun _=>none) env.cells (bindC env.kindOf binds fun _=>none) s'→0 < s'.toks→Q env s') :
  wpAny (model prog w) A (newFunctionEnv scope globals [] binds qual func code none builtins) Q E s:=by
 rcases hp with h | ⟨n,v,rfl,hl⟩
 ·exact wpAny_with_toks (n:=1) h (wpAny_newFunctionEnv_cells hk hkind hQ)
 ·exact vJ hk hl hQ
theorem rp {n:Nat} {fa:Addr} {fd:FD} {scope:Scope} {body:List Stmt} {pn:List Str} {callF:CallT} {G:Nat→Option V} (hF:FnOk prog w B.heap fa fd scope body pn)
  (hex:∀ (d:D) (A:Around),EnvOk ⟨scope.names,scope.names,none,false,true,false⟩ d→d.B=B→COk A d.fs n→FrOk d→TSs prog w A d body (exs callF G fd.body))
  (fs:List Env) (A:Around) (hA:COk A fs (n+1)) (ρ:List Addr) (s:Shared) (σ:Hp) (vs:List V) (xs:List Value) (v:V) (σ':Hp) (I:InvH B fs none ρ s σ) (hv:VRs B.heap ρ s.heap vs xs) (h0:0 < s.toks∨∃ n,pn=[n]∧scope.names.lookup n=some .local) (hc:stepN callF G fd vs σ=some (v,σ'))
  (Q:Value→Shared→Prop) (E:Value→Shared→Prop) (hQ:∀ a s' ρ',InvH B fs none ρ' s' σ'→Keep (·∈ρ) s.heap s'.heap→Grow ρ s.heap ρ'→VR B.heap ρ' s'.heap v a→0 < s'.toks→Q a s'):wpAny (model prog w) A (PySem.call (.ref fa) xs) Q E s:=by
 obtain⟨o,fm,e1,e2,e3,e4,e5,e6,e7,e8,e9⟩:=hF.ex
 obtain⟨fv,fl,stF,hfr,hexs,hhp,hfl⟩:=sm hc
 have base:∀ b o,B.heap.get? b=some o→s.heap.get? b=some o:=I.base
 refine wpAny_call ?_
 have hd:=hA.depth
 refine codeAny_call_function (by grind) (base _ _ e1) e2 (by rw [e4];exact hF.co) (by rw [e4];exact hF.gen) e3 (e8.keeps base) ?_
 refine wpAny_with_toks (n:=s.toks) (am _) (e9 A.in1 ρ s vs xs fv base hv hfr _ _ fun h' tk us pv k keep hsz hpv hus hpl ht=>?_)
 subst hpv
 have I1:InvH B fs none ρ { s with heap:=h',toks:=tk } σ:=I.up keep hsz
 have hlen:us.length=pn.length:=by rw [hus.length];exact hpl
 rw [e4,e5,e6,e7]
 have hpos:0 < tk∨∃ n v,pn.zip us=[(n,v)]∧scope.names.lookup n=some .local:=by
  rcases h0 with q | ⟨n,z1,z2⟩
  ·exact .inl (aE q ht)
  ·right
   cases us with
   | nil=>rw [z1] at hlen;cases hlen
   | cons u us=>exact⟨n,u,by rw [z1];rfl,z2⟩
 refine te hF.kind hpos (fun x hx=>?_) fun env he s2 x ht2=>?_
 ·obtain⟨i,hi⟩:=bJ hx
  rw [pM] at hi
  obtain⟨kd,g1,g2⟩:=hF.par i x.1 hi.1
  have hm:=ac g1
  rcases g2 with rfl | rfl
  ·exact .inl (dh hF.nodup hm)
  ·right
   refine⟨dh hF.nodup hm,?_⟩
   obtain⟨c,hc⟩:=jP (n:=({ s with heap:=h',toks:=tk }:Shared).heap.objs.size+1) hF.nodup hm
   rw [hc];rfl
 ·have J:=I1.enter (k:=k) hF.nodup hF.par hpl hus he x
  have hsc:env.scope=scope:=by rw [he];rfl
  have hL:env.locals=h'.objs.size:=by rw [he];rfl
  refine⟨(hF.lim.keeps fun b o e=>J.h.base b o e),codeAny_func ?_⟩
  have hE:EnvOk ⟨scope.names,scope.names,none,false,true,false⟩ (D.enter B fs env scope):=by
   refine⟨rfl,?_,?_,rfl,?_,?_,fun _=>rfl,rfl⟩
   ·rw [show (D.enter B fs env scope).env=env from rfl,hsc]
   ·rw [show (D.enter B fs env scope).env=env from rfl,hsc];exact hF.kind
   ·rw [show (D.enter B fs env scope).env=env from rfl,he];rfl
   ·rw [show (D.enter B fs env scope).env=env from rfl,he];rfl
  have hC:COk (A.deeper env) (D.enter B fs env scope).fs n:=by
   refine⟨?_,hA.handled,?_,?_,fun e hm=>?_⟩
   ·show A.frames.map (env::·)=some (env::fs)
    rw [hA.frames];rfl
   ·have:=hA.units
    show A.units+3+100 * n+100≤cLine
    grind
   ·show A.depth+1+n < recursionLimit
    grind
   ·rcases az.mp hm with rfl | hm
    ·rw [hsc,hF.kind];simp
    ·exact hA.kinds e hm
  have hT:=hex (D.enter B fs env scope) (A.deeper env) hE rfl hC ⟨⟨fs,rfl⟩,hC.kinds⟩
  have hs2:s.heap.objs.size≤s2.heap.objs.size:=by
   have h1:=x.toInCall.ns.lt
   rw [hL] at h1
   exact aj hsz (aW h1)
  refine wpAny_with_toks (n:=1) ht2 (hT ρ s2 _ J (by rw [hexs];intro z;cases z) ht2 _ _ (fun b st3 a s3 ρ3 eb rf q=>?_) fun st3 e s3 ρ3 eb=>by rw [hexs] at eb;cases eb)
  rw [hexs] at eb
  cases eb
  have keep2:∀ b o,s.heap.get? b=some o→s2.heap.get? b=some o:=fun b o e=>x.toInCall.keep b o (keep b o e)
  have K:Keep (·∈ρ) s.heap s3.heap:=(Keep.of_all (W:=(·∈ρ)) keep2 hs2).trans q.keep fun b hb z=>by
   rcases z with z | z | ⟨_,y,z⟩
   ·exact z
   ·have z':b=env.locals:=z
    rw [z',hL] at hb
    exact absurd hb (bf.mpr hsz)
   ·have:=x.above y b z
    rw [hL] at this
    exact absurd hb (bf.mpr (aj hsz (aW this)))
  have g:Grow ρ s.heap ρ3:=by
   obtain⟨δ,e,hδ⟩:=q.grow
   exact⟨δ,e,fun a ha=>aj hs2 (hδ a ha)⟩
  have H:InvH B fs none ρ3 s3 stF.hp:=by
   have:=q.inv.h
   exact⟨this.base,this.gens,this.os,this.len,this.list,this.nodup,this.fresh,fun e he=>this.frames e (.tail _ he),this.hok⟩
  rw [hhp] at H
  rcases hfl with rfl | ⟨rfl,rfl⟩
  ·cases rf with
   | ret r=>exact fun ht3=>hQ _ s3 ρ3 H K g r ht3
  ·cases rf with
   | next=>exact fun ht3=>hQ _ s3 ρ3 H K g .none ht3
theorem Aq {n:Nat} {fa:Addr} {fd:FD} {scope:Scope} {body:List Stmt} {pn:List Str} {callF:CallT} {G:Nat→Option V} (hF:FnOk prog w B.heap fa fd scope body pn)
  (hex:∀ (d:D) (A:Around),EnvOk ⟨scope.names,scope.names,none,false,true,false⟩ d→d.B=B→COk A d.fs n→FrOk d→TSs prog w A d body (exs callF G fd.body)):CallC prog w B (n+1) fa (stepN callF G fd):=
 fun fs A hA ρ s σ vs xs v σ' I hv h0 hc Q E hQ=>rp hF hex fs A hA ρ s σ vs xs v σ' I hv (.inl h0) hc Q E hQ
end
end Mine
end
section
set_option backward.match.sparseCases false
open PySem PySem.W PyProof.Rows
namespace Mine
noncomputable def plainTest:Expr→Bool
 | .UnaryOp .Not _ _ | .BoolOp .. | .IfExp .. | .Compare ..=>false
 | _=>true
theorem oS {x:Expr} {env:Env} (h:plainTest x=true):∀ whole,isTrue x env whole=(do let v ← whole;standAt x.pos;holding [v] (truthy v)):=by
 intro whole
 cases x with
 | UnaryOp op e pos=>cases op<;>first | (unfold plainTest at h;cases h;done) | rfl
 | _=>first | rfl | (unfold plainTest at h;cases h)
noncomputable def plainIter:Expr→Bool
 | .Set ..=>false
 | _=>true
theorem cS {x:Expr} {env:Env} (h:plainIter x=true):∀ v,foldedSetIterable x env v=pure v:=by
 intro v
 cases x<;>first | rfl | (unfold plainIter at h;cases h)
noncomputable def plainSub:Expr→Bool
 | .Slice ..=>false
 | _=>true
theorem qx {x:Expr} (h:plainSub x=true):∀ o i,subscripted x false o i=operate [o,i] (getItem o i):=by
 intro o i
 cases x<;>first | rfl | (unfold plainSub at h;cases h)
noncomputable def noStar:Expr→Bool
 | .Starred ..=>false
 | _=>true
theorem cj {x:Expr} (h:noStar x=true):NoStar x:=by
 intro xs env
 cases x<;>first | rfl | exact nomatch h
noncomputable def noCall:Expr→Bool
 | .Call ..=>false
 | _=>true
theorem vk {x:Expr} (h:noCall x=true):NoSup x:=by
 intro name env whole
 cases x<;>first | rfl | exact nomatch h
theorem sJ {f:Expr} {x:Expr} {xs:List Expr} {ks:List Keyword} {pos:Pos}:NoSup (.Call f (x::xs) ks pos):=by
 intro name env whole
 cases f<;>rfl
theorem cE {a b:Bool} (h:(a&&b)=true):a=true∧b=true:=by
 cases a with
 | true=>exact⟨rfl,h⟩
 | false=>exact nomatch h
theorem andC {a b:Bool} {C:Prop} (h:(a&&b)=true) (f:a=true→b=true→C):C:=f (cE h).1 (cE h).2
@[elab_as_elim] theorem eqA {α:Type} [BEq α] [LawfulBEq α] {a b:α} {r:Bool} {C:α→Prop} (h:(a == b&&r)=true) (f:r=true→C b):C a:=by
 rw [eq_of_beq (cE h).1];exact f (cE h).2
theorem no {C:Prop} (h:false=true):C:=nomatch h
theorem cZ {c:Prop} [i:Decidable c] {t:c→Bool} {C:Prop} (f:c→(if e:c then t e else false)=true→C) (h:(if e:c then t e else false)=true):C:=by
 by_cases e:c
 ·exact f e h
 ·exact no ((dif_neg e).symm.trans h)
noncomputable def xConst (x:Expr) (k:Const→Bool):Bool:=if h:x.ctorIdx=19 then Expr.Constant.elim (motive_1:=fun _=>Bool) x h fun c _ _=>k c else false
@[elab_as_elim] theorem uz {x:Expr} {k:Const→Bool} {C:Expr→Prop} (h:xConst x k=true) (f:∀ (c:Const) (n:Nat) (p:Pos),k c=true→C (.Constant c n p)):C x:=cZ (fun e=>Expr.Constant.elim (motive_1:=fun x=>xConst x k=true→C x) x e f) h
noncomputable def xName (x:Expr) (k:Str→Pos→Bool):Bool:=if h:x.ctorIdx=23 then Expr.Name.elim (motive_1:=fun _=>Bool) x h fun n p=>k n p else false
@[elab_as_elim] theorem bQ {x:Expr} {k:Str→Pos→Bool} {C:Expr→Prop} (h:xName x k=true) (f:∀ (n:Str) (p:Pos),k n p=true→C (.Name n p)):C x:=cZ (fun e=>Expr.Name.elim (motive_1:=fun x=>xName x k=true→C x) x e f) h
noncomputable def xList (x:Expr) (k:List Expr→Bool):Bool:=if h:x.ctorIdx=24 then Expr.List.elim (motive_1:=fun _=>Bool) x h fun l _=>k l else false
@[elab_as_elim] theorem wq {x:Expr} {k:List Expr→Bool} {C:Expr→Prop} (h:xList x k=true) (f:∀ (l:List Expr) (p:Pos),k l=true→C (.List l p)):C x:=cZ (fun e=>Expr.List.elim (motive_1:=fun x=>xList x k=true→C x) x e f) h
noncomputable def xTup (x:Expr) (k:List Expr→Bool):Bool:=if h:x.ctorIdx=25 then Expr.Tuple.elim (motive_1:=fun _=>Bool) x h fun l _ _=>k l else false
@[elab_as_elim] theorem iy {x:Expr} {k:List Expr→Bool} {C:Expr→Prop} (h:xTup x k=true) (f:∀ (l:List Expr) (n:Nat) (p:Pos),k l=true→C (.Tuple l n p)):C x:=cZ (fun e=>Expr.Tuple.elim (motive_1:=fun x=>xTup x k=true→C x) x e f) h
noncomputable def xBin (x:Expr) (k:Expr→Operator→Expr→Bool):Bool:=if h:x.ctorIdx=2 then Expr.BinOp.elim (motive_1:=fun _=>Bool) x h fun a o b _=>k a o b else false
@[elab_as_elim] theorem zg {x:Expr} {k:Expr→Operator→Expr→Bool} {C:Expr→Prop} (h:xBin x k=true) (f:∀ (a:Expr) (o:Operator) (b:Expr) (p:Pos),k a o b=true→C (.BinOp a o b p)):C x:=cZ (fun e=>Expr.BinOp.elim (motive_1:=fun x=>xBin x k=true→C x) x e f) h
noncomputable def xCmp (x:Expr) (k:Expr→List CmpOp→List Expr→Bool):Bool:=if h:x.ctorIdx=15 then Expr.Compare.elim (motive_1:=fun _=>Bool) x h fun a o b _=>k a o b else false
@[elab_as_elim] theorem oz {x:Expr} {k:Expr→List CmpOp→List Expr→Bool} {C:Expr→Prop} (h:xCmp x k=true) (f:∀ (a:Expr) (o:List CmpOp) (b:List Expr) (p:Pos),k a o b=true→C (.Compare a o b p)):C x:=cZ (fun e=>Expr.Compare.elim (motive_1:=fun x=>xCmp x k=true→C x) x e f) h
noncomputable def xBool (x:Expr) (k:BoolOp→List Expr→Bool):Bool:=if h:x.ctorIdx=0 then Expr.BoolOp.elim (motive_1:=fun _=>Bool) x h fun o l _=>k o l else false
@[elab_as_elim] theorem jq {x:Expr} {k:BoolOp→List Expr→Bool} {C:Expr→Prop} (h:xBool x k=true) (f:∀ (o:BoolOp) (l:List Expr) (p:Pos),k o l=true→C (.BoolOp o l p)):C x:=cZ (fun e=>Expr.BoolOp.elim (motive_1:=fun x=>xBool x k=true→C x) x e f) h
noncomputable def xUn (x:Expr) (k:UnaryOp→Expr→Bool):Bool:=if h:x.ctorIdx=3 then Expr.UnaryOp.elim (motive_1:=fun _=>Bool) x h fun o a _=>k o a else false
@[elab_as_elim] theorem wm {x:Expr} {k:UnaryOp→Expr→Bool} {C:Expr→Prop} (h:xUn x k=true) (f:∀ (o:UnaryOp) (a:Expr) (p:Pos),k o a=true→C (.UnaryOp o a p)):C x:=cZ (fun e=>Expr.UnaryOp.elim (motive_1:=fun x=>xUn x k=true→C x) x e f) h
noncomputable def xIf (x:Expr) (k:Expr→Expr→Expr→Bool):Bool:=if h:x.ctorIdx=5 then Expr.IfExp.elim (motive_1:=fun _=>Bool) x h fun a b c _=>k a b c else false
@[elab_as_elim] theorem AL {x:Expr} {k:Expr→Expr→Expr→Bool} {C:Expr→Prop} (h:xIf x k=true) (f:∀ (a:Expr) (b:Expr) (c:Expr) (p:Pos),k a b c=true→C (.IfExp a b c p)):C x:=cZ (fun e=>Expr.IfExp.elim (motive_1:=fun x=>xIf x k=true→C x) x e f) h
noncomputable def xSub (x:Expr) (k:Expr→Expr→Bool):Bool:=if h:x.ctorIdx=21 then Expr.Subscript.elim (motive_1:=fun _=>Bool) x h fun a b _=>k a b else false
@[elab_as_elim] theorem kM {x:Expr} {k:Expr→Expr→Bool} {C:Expr→Prop} (h:xSub x k=true) (f:∀ (a:Expr) (b:Expr) (p:Pos),k a b=true→C (.Subscript a b p)):C x:=cZ (fun e=>Expr.Subscript.elim (motive_1:=fun x=>xSub x k=true→C x) x e f) h
noncomputable def xSlice3 (x:Expr) (k:Option Expr→Option Expr→Option Expr→Bool):Bool:=if h:x.ctorIdx=26 then Expr.Slice.elim (motive_1:=fun _=>Bool) x h fun a b c _=>k a b c else false
@[elab_as_elim] theorem rN {x:Expr} {k:Option Expr→Option Expr→Option Expr→Bool} {C:Expr→Prop} (h:xSlice3 x k=true) (f:∀ (a:Option Expr) (b:Option Expr) (c:Option Expr) (p:Pos),k a b c=true→C (.Slice a b c p)):C x:=cZ (fun e=>Expr.Slice.elim (motive_1:=fun x=>xSlice3 x k=true→C x) x e f) h
noncomputable def xAttr (x:Expr) (k:Expr→Str→Pos→Bool):Bool:=if h:x.ctorIdx=20 then Expr.Attribute.elim (motive_1:=fun _=>Bool) x h fun a n p=>k a n p else false
@[elab_as_elim] theorem pT {x:Expr} {k:Expr→Str→Pos→Bool} {C:Expr→Prop} (h:xAttr x k=true) (f:∀ (a:Expr) (n:Str) (p:Pos),k a n p=true→C (.Attribute a n p)):C x:=cZ (fun e=>Expr.Attribute.elim (motive_1:=fun x=>xAttr x k=true→C x) x e f) h
noncomputable def xCall (x:Expr) (k:Expr→List Expr→List Keyword→Pos→Bool):Bool:=if h:x.ctorIdx=16 then Expr.Call.elim (motive_1:=fun _=>Bool) x h fun a l m p=>k a l m p else false
@[elab_as_elim] theorem jp {x:Expr} {k:Expr→List Expr→List Keyword→Pos→Bool} {C:Expr→Prop} (h:xCall x k=true) (f:∀ (a:Expr) (l:List Expr) (m:List Keyword) (p:Pos),k a l m p=true→C (.Call a l m p)):C x:=cZ (fun e=>Expr.Call.elim (motive_1:=fun x=>xCall x k=true→C x) x e f) h
noncomputable def xComp (x:Expr) (k:Expr→List Comprehension→Scope→Pos→Bool):Bool:=if h:x.ctorIdx=8 then Expr.ListComp.elim (motive_1:=fun _=>Bool) x h fun a l s p=>k a l s p else false
@[elab_as_elim] theorem ww {x:Expr} {k:Expr→List Comprehension→Scope→Pos→Bool} {C:Expr→Prop} (h:xComp x k=true) (f:∀ (a:Expr) (l:List Comprehension) (s:Scope) (p:Pos),k a l s p=true→C (.ListComp a l s p)):C x:=cZ (fun e=>Expr.ListComp.elim (motive_1:=fun x=>xComp x k=true→C x) x e f) h
noncomputable def xSComp (x:Expr) (k:Expr→List Comprehension→Scope→Bool):Bool:=if h:x.ctorIdx=9 then Expr.SetComp.elim (motive_1:=fun _=>Bool) x h fun a l s _=>k a l s else false
@[elab_as_elim] theorem ux {x:Expr} {k:Expr→List Comprehension→Scope→Bool} {C:Expr→Prop} (h:xSComp x k=true) (f:∀ (a:Expr) (l:List Comprehension) (s:Scope) (p:Pos),k a l s=true→C (.SetComp a l s p)):C x:=cZ (fun e=>Expr.SetComp.elim (motive_1:=fun x=>xSComp x k=true→C x) x e f) h
noncomputable def xNone {α:Type} (o:Option α):Bool:=match o with
 | none=>true
 | _=>false
@[elab_as_elim] theorem xNoneA {α:Type} {o:Option α} {r:Bool} {C:Option α→Prop} (h:(xNone o&&r)=true) (f:r=true→C none):C o:=by
 cases o with
 | none=>exact f (cE h).2
 | some a=>exact no (cE h).1
noncomputable def xSlice (x:Expr) (k:Option Expr→Option Expr→Bool):Bool:=xSlice3 x fun a b c=>xNone c&&k a b
@[elab_as_elim] theorem jU {x:Expr} {k:Option Expr→Option Expr→Bool} {C:Expr→Prop} (h:xSlice x k=true) (f:∀ a b p,k a b=true→C (.Slice a b none p)):C x:=
 rN h fun a b c p h=>xNoneA (C:=fun c=>C (.Slice a b c p)) h (f a b p)
section
variable {α:Type} {l:List α} {o:Option α} {r:Bool} {C:List α→Prop}
noncomputable def x0 {α:Type} (l:List α):Bool:=match l with
 | []=>true
 | _=>false
@[elab_as_elim] theorem kn (h:x0 l=true) (f:C []):C l:=by
 cases l with
 | nil=>exact f
 | cons a l=>exact no h
@[elab_as_elim] theorem x0A (h:(x0 l&&r)=true) (f:r=true→C []):C l:=kn (cE h).1 (f (cE h).2)
noncomputable def xc {α:Type} (l:List α) (k:α→List α→Bool):Bool:=match l with
 | a::l=>k a l
 | _=>false
@[elab_as_elim] theorem gV {k:α→List α→Bool} (h:xc l k=true) (f:∀ a l,k a l=true→C (a::l)):C l:=by
 cases l with
 | nil=>exact no h
 | cons a l=>exact f a l h
noncomputable def x1 {α:Type} (l:List α) (k:α→Bool):Bool:=xc l fun a l=>x0 l&&k a
@[elab_as_elim] theorem dL {k:α→Bool} (h:x1 l k=true) (f:∀ a,k a=true→C [a]):C l:=gV h fun a l h=>x0A (C:=fun l=>C (a::l)) h (f a)
noncomputable def x2 {α:Type} (l:List α) (k:α→α→Bool):Bool:=xc l fun a l=>x1 l (k a)
@[elab_as_elim] theorem fU {k:α→α→Bool} (h:x2 l k=true) (f:∀ a b,k a b=true→C [a,b]):C l:=gV h fun a l h=>dL (C:=fun l=>C (a::l)) h (f a)
noncomputable def xSome {α:Type} (o:Option α) (k:α→Bool):Bool:=match o with
 | some a=>k a
 | _=>false
@[elab_as_elim] theorem fT {k:α→Bool} {C:Option α→Prop} (h:xSome o k=true) (f:∀ a,k a=true→C (some a)):C o:=by
 cases o with
 | none=>exact no h
 | some a=>exact f a h
end
noncomputable def xKw (x:Keyword) (k:Option Str→Expr→Bool):Bool:=match x with
 | ⟨a,b,_⟩=>k a b
@[elab_as_elim] theorem AK {x:Keyword} {k:Option Str→Expr→Bool} {C:Keyword→Prop} (h:xKw x k=true) (f:∀ a b p,k a b=true→C ⟨a,b,p⟩):C x:=by
 cases x;exact f _ _ _ h
noncomputable def xFor1 (x:Comprehension) (k:Str→Expr→List Expr→Bool):Bool:=match x with
 | ⟨t,it,ifs,n⟩=>n == 0&&xName t fun y _=>k y it ifs
noncomputable def xGen (l:List Comprehension) (k:Str→Expr→List Expr→Bool):Bool:=x1 l fun x=>xFor1 x k
@[elab_as_elim] theorem tG {l:List Comprehension} {k:Str→Expr→List Expr→Bool} {C:List Comprehension→Prop} (h:xGen l k=true) (f:∀ y p it ifs,k y it ifs=true→C [⟨.Name y p,it,ifs,0⟩]):C l:=dL h fun x h=>by
 obtain⟨t,it,ifs,n⟩:=x
 exact eqA (C:=fun n=>C [⟨t,it,ifs,n⟩]) h fun h=>bQ (C:=fun t=>C [⟨t,it,ifs,0⟩]) h fun y p h=>f y p it ifs h
noncomputable def xCallN (x:Expr) (k:Str→List Expr→Bool):Bool:=xCall x fun a l m _=>xName a fun n _=>x0 m&&k n l
@[elab_as_elim] theorem dR {x:Expr} {k:Str→List Expr→Bool} {C:Expr→Prop} (h:xCallN x k=true) (f:∀ n np l p,k n l=true→C (.Call (.Name n np) l [] p)):C x:=
 jp h fun a l m p h=>bQ (C:=fun a=>C (.Call a l m p)) h fun n np h=>x0A (C:=fun m=>C (.Call (.Name n np) l m p)) h fun h=>f n np l p h
noncomputable def xCallM (x:Expr) (k:Expr→Str→Pos→List Expr→Pos→Bool):Bool:=xCall x fun a l m p=>xAttr a fun o n q=>x0 m&&k o n q l p
@[elab_as_elim] theorem uA {x:Expr} {k:Expr→Str→Pos→List Expr→Pos→Bool} {C:Expr→Prop} (h:xCallM x k=true) (f:∀ o n q l p,k o n q l p=true→C (.Call (.Attribute o n q) l [] p)):C x:=
 jp h fun a l m p h=>pT (C:=fun a=>C (.Call a l m p)) h fun o n q h=>x0A (C:=fun m=>C (.Call (.Attribute o n q) l m p)) h fun h=>f o n q l p h
section
variable {prog:Program} {w:World} {A:Around} {p:P} {d:D} {cv:Option V} {x:Expr} {xs:List Expr} {pos:Pos}
def TBA (prog:Program) (w:World) (A:Around) (d:D) (cv:Option V) (op:BoolOp) (xs:List Expr) (f:St→Res Bool):Prop:=
 ∀ (ρ:List Addr) (s:Shared) (st:St),Inv d ρ cv s st→TriP d ρ cv s RBool (wpAny (model prog w) A (allTrue op xs d.env)) (f st)
theorem zS:TBA prog w A d cv .And [] fun st=>.ok true st:=fun ρ s st I=>.ok fun Q E hq=>wpAny_allTrue_And_nil (hq true s ρ rfl (.refl I))
theorem zR:TBA prog w A d cv .Or [] fun st=>.ok false st:=fun ρ s st I=>.ok fun Q E hq=>wpAny_allTrue_Or_nil (hq false s ρ rfl (.refl I))
theorem xn {f g:St→Res Bool} (hx:TB prog w A d cv x f) (hy:TBA prog w A d cv .And xs g):TBA prog w A d cv .And (x::xs) fun st=>(f st).bind fun b st=>if b then g st else .ok false st:=fun ρ s st I=>
 ((hx ρ s st I).bind (F:=fun b Q E s=>if b then wpAny (model prog w) A (allTrue .And xs d.env) Q E s else Q false s) fun b st1 vb s1 ρ1 _ r1 p1=>by
  obtain rfl:vb=b:=r1
  cases vb with
  | true=>exact (hy ρ1 s1 st1 p1.inv).imp fun Q E h=>h
  | false=>exact .ok fun Q E hq=>hq false s1 ρ1 rfl (.refl p1.inv)).imp fun Q E h=>wpAny_allTrue_And_cons h
theorem xm {f g:St→Res Bool} (hx:TB prog w A d cv x f) (hy:TBA prog w A d cv .Or xs g):TBA prog w A d cv .Or (x::xs) fun st=>(f st).bind fun b st=>if b then .ok true st else g st:=fun ρ s st I=>
 ((hx ρ s st I).bind (F:=fun b Q E s=>if b then Q true s else wpAny (model prog w) A (allTrue .Or xs d.env) Q E s) fun b st1 vb s1 ρ1 _ r1 p1=>by
  obtain rfl:vb=b:=r1
  cases vb with
  | true=>exact .ok fun Q E hq=>hq true s1 ρ1 rfl (.refl p1.inv)
  | false=>exact (hy ρ1 s1 st1 p1.inv).imp fun Q E h=>h).imp fun Q E h=>wpAny_allTrue_Or_cons h
theorem tY {op:BoolOp} {f:St→Res Bool} (h:TBA prog w A d cv op xs f):TB prog w A d cv (.BoolOp op xs pos) f:=fun ρ s st I=>(h ρ s st I).imp fun Q E h=>wpAny_isTrue_BoolOp h
theorem mo:∀ (ρ:List Addr) (s:Shared) (st:St),Inv d ρ cv s st→TriP d ρ cv s RBool (wpAny (model prog w) A (compIfs [] d.env)) (.ok true st):=fun ρ s st I=>
 .ok fun Q E hq=>wpAny_pure (hq true s ρ rfl (.refl I))
theorem uk {f:St→Res Bool} (h:TB prog w A d cv x f):∀ (ρ:List Addr) (s:Shared) (st:St),Inv d ρ cv s st→TriP d ρ cv s RBool (wpAny (model prog w) A (compIfs [x] d.env)) (f st):=fun ρ s st I=>
 (h ρ s st I).imp fun Q E h=>by
  unfold compIfs
  rw [dD,if_pos rfl]
  refine wpAny_bind (wpAny_bind (wpAny_mono h (fun b s1 h1=>wpAny_pure ?_) fun _ _ e=>e))
  exact wpAny_pure h1
end
end Mine
end
section
open PySem PySem.W PyProof.Rows
open PySem.AutoSeq1 (wpAny_loadPart')
namespace Mine
theorem nK:Manifest.owners.lookup (String.ofList ['p','a','m'].reverse)=some Manifest.sig_map:=by kernel_rfl
theorem mO:Slot "map" "__init__" "object.__init__":=
 .of (owner:="object") (n:="__init__") (by rw [typeLookup_type,builtinLookup_eq_fast];kernel_rfl) (by decide +kernel) (by decide +kernel) (by decide +kernel) (.inl (by decide +kernel)) (by rw [isSubtype_type];kernel_rfl)
theorem iQ:Slot "map" "__iter__" "map.__iter__":=
 .of (owner:="map") (n:="__iter__") (by rw [typeLookup_type,builtinLookup_eq_fast];kernel_rfl) (by decide +kernel) (by decide +kernel) (by decide +kernel) (.inl (by decide +kernel)) (by rw [isSubtype_type];kernel_rfl)
theorem dp:Slot "map" "__next__" "map.__next__":=
 .of (owner:="map") (n:="__next__") (by rw [typeLookup_type,builtinLookup_eq_fast];kernel_rfl) (by decide +kernel) (by decide +kernel) (by decide +kernel) (.inl (by decide +kernel)) (by rw [isSubtype_type];kernel_rfl)
theorem ij:entryFor table "map.__next__"=some Builtin.«map.__next__»:=entryFor_of_tree (by kernel_rfl)
theorem gQ (a:Value):argsOk "map.__next__" ⟨[a],[]⟩:=by
 unfold argsOk;rw [signature?_of (id:="map.__next__") (n:=['_','_','t','x','e','n','_','_']) (o:=['p','a','m']) (by kernel_rfl) nK];kernel_rfl
theorem mw:entryFor table "map.__iter__"=some Builtin.«dict_keyiterator.__iter__»:=
 entryFor_alias (id':="dict_keyiterator.__iter__") (by kernel_rfl) (by first | rfl | decide +kernel) (by decide +kernel) (by kernel_rfl)
theorem kJ (a:Value):argsOk "map.__iter__" ⟨[a],[]⟩:=by
 unfold argsOk;rw [signature?_of (id:="map.__iter__") (n:=['_','_','r','e','t','i','_','_']) (o:=['p','a','m']) (by kernel_rfl) nK];kernel_rfl
theorem t9:mroOf (.type "map")=pure [.type "map",.type "object"]:=by rw [mroOf_type];kernel_rfl
theorem mh:typeLookup (.type "map") "__new__"=pure (some (.builtin "map.__new__")):=by rw [typeLookup_type,builtinLookup_eq_fast];kernel_rfl
theorem tj:TypeCalled "map" "map.__new__" "object.__init__":=
 ⟨by decide +kernel,by decide +kernel,⟨_,_,t9⟩,madeBy_type t9 mh (by decide +kernel),by decide +kernel,by rw [isSubtype_type];kernel_rfl,mO⟩
theorem lG (a b:Value):checkTypeCall "map" ⟨[a,b],[]⟩=pure ():=by kernel_rfl
theorem mQ (a b:Value):checkBuiltinCall "map.__new__" ⟨[.type "map",a,b],[]⟩=pure ():=by kernel_rfl
theorem mY:entryFor table "map.__new__"=some Builtin.«map.__new__»:=entryFor_of_tree (by kernel_rfl)
theorem zT:isSubtype (.type "map") (.type "map")=pure true:=by rw [isSubtype_type];kernel_rfl
theorem sL:typeLookup (.type "map") "__len__"=pure none:=by rw [typeLookup_type,builtinLookup_eq_fast];kernel_rfl
theorem qL:typeLookup (.type "map") "__length_hint__"=pure none:=by rw [typeLookup_type,builtinLookup_eq_fast];kernel_rfl
structure MapAt (h:Heap) (M T It:Addr) (f:Value):Prop where
 m:h.get? M=some { cls:=.type "map",dict:=none,data:=.fields #[.ref T,f],slots:=#[] }
 t:h.get? T=some (tobj #[.ref It] 0)
noncomputable abbrev mapH1 (h:Heap) (l:Addr):Heap:=h.push { cls:=.type "list_iterator",data:=.fields #[.ref l,.int 0 0] }
noncomputable abbrev mapH2 (h:Heap) (l:Addr):Heap:=(mapH1 h l).push { cls:=.type "tuple",data:=.seq #[.ref h.objs.size] }
noncomputable abbrev mapH3 (h:Heap) (l:Addr) (f:Value):Heap:=(mapH2 h l).push { cls:=.type "map",data:=.fields #[.ref (mapH1 h l).objs.size,f] }
theorem mS (f:Value) (l:Addr) (xs:Array Value) :
  Meets (Builtin.«map.__new__» ⟨[.type "map",f,.ref l],[]⟩) (fun _ R s=>s.heap.IsList l xs∧R (.ok (.ret (.ref (mapH2 s.heap l).objs.size))) { s with heap:=mapH3 s.heap l f }):=
 .of_wp fun prog w A R s h=>by
  obtain⟨hp,g,d,tk,os⟩:=s;obtain⟨hl,h⟩:=h
  have hsub:=zT
  have hL:Heap.IsList (Shared.heap ⟨hp,g,d,tk,os⟩) l xs:=hl
  wp_walk using wpAny_pyIter_list hL
  exact⟨_,rfl,h⟩
section
variable {prog:Program} {w:World} {A:Around} {E:Value→Shared→Prop} {s:Shared}
theorem m6 {f:Value} {l:Addr} {xs:Array Value} {Q:Value→Shared→Prop} (hl:s.heap.IsList l xs)
  (h:∀ h',MapAt h' (s.heap.objs.size+2) (s.heap.objs.size+1) s.heap.objs.size f→h'.IsListIter s.heap.objs.size l 0→s.heap.objs.size≤h'.objs.size→(∀ c o,s.heap.get? c=some o→h'.get? c=some o)→Q (.ref (s.heap.objs.size+2)) { s with heap:=h' }) :
  wpAny (model prog w) A (call (.type "map") [f,.ref l]) Q E s:=by
 refine callType_new tj (by decide) (lG _ _) (mQ _ _) (fun obj=>F.args_object_init_3 obj _ _) mY (mS f l xs) ⟨hl,?_⟩
 have z1:(mapH1 s.heap l).objs.size=s.heap.objs.size+1:=aH ..
 have z2:(mapH2 s.heap l).objs.size=s.heap.objs.size+2:=by rw [aH,z1]
 have z3:(mapH3 s.heap l f).objs.size=s.heap.objs.size+3:=by rw [aH,z2]
 have g3:(mapH3 s.heap l f).get? (mapH2 s.heap l).objs.size=some _:=ao _ rfl
 have g2:(mapH3 s.heap l f).get? (mapH1 s.heap l).objs.size=some _:=af _ (ao _ rfl)
 have g1:(mapH3 s.heap l f).get? s.heap.objs.size=some _:=af _ (af _ (ao _ rfl))
 show _∧_
 rw [z1,z2] at g3
 rw [z1] at g2
 rw [z2]
 exact⟨⟨_,g3,rfl⟩,h _ ⟨g3,g2⟩ ⟨_,g1,rfl,rfl⟩ (by rw [z3];exact aX _ _) fun c o x=>af _ (af _ (af _ x))⟩
theorem xJ {M T It l:Addr} {i:Nat} {f x:Value} {items:Array Value} {Q:Option Value→Shared→Prop} (hm:MapAt s.heap M T It f) (hit:s.heap.IsListIter It l i) (hl:s.heap.IsList l items) (hx:items[i]?=some x)
  (hQ:∀ h',h'.IsListIter It l (i+1)→bk It s.heap h'→wpAny (model prog w) A.in1 (call f [x]) (fun r s'=>Q (some r) s') (fun _ _=>False) { s with heap:=h' })
  (hM:M≠It):wpAny (model prog w) A (pyNext (.ref M)) Q E s:=by
 have hT:s.TypeIs (.ref M) "map":=⟨_,hm.m,rfl⟩
 unfold pyNext
 refine wpAny_bind (wpAny_attempt (wpAny_callSpecial?_slot (name:=bF "__next__") hT dp
  (wpAny_call_entry dp hT ij ?_ (gQ _))))
 show wpAny _ _ (field (.ref M) 0 >>= _) _ _ _
 refine wpAny_bind (wpAny_field hm.m rfl (x:=.ref T) rfl ?_)
 refine wpAny_bind (wpAny_seqItems hm.t rfl ?_)
 refine wpAny_bind ?_
 rw [←wi]
 show wpAny _ _ (forIn [Value.ref It] _ _) _ _ _
 rw [dD]
 refine wpAny_bind (wpAny_bind (wpAny_holding (wpAny_nextOf_list_item hit hl hx fun h' it' hs=>wpAny_pure (wpAny_pure ?_))))
 have hm':h'.get? M=some { cls:=.type "map",dict:=none,data:=.fields #[.ref T,f],slots:=#[] }:=(hs.2 M hM).trans hm.m
 refine wpAny_bind (wpAny_field (s:={ s with heap:=h' }) hm' rfl (x:=f) rfl ?_)
 refine wpAny_bind (wpAny_holding (wpAny_mono (hQ h' it' hs) (fun r s' hr=>?_) fun _ _ f=>f.elim))
 exact wpAny_bind (wpAny_letGo (wpAny_pure ⟨r,rfl,wpAny_pure hr⟩))
theorem z8 {M T It l:Addr} {i:Nat} {f:Value} {items:Array Value} {Q:Option Value→Shared→Prop} (hh:A.handled=none) (hm:MapAt s.heap M T It f) (hit:s.heap.IsListIter It l i) (hl:s.heap.IsList l items) (hx:items[i]?=none)
  (hQ:∀ h',mI It s.heap h'→Q none { s with heap:=h' }):wpAny (model prog w) A (pyNext (.ref M)) Q E s:=by
 have hT:s.TypeIs (.ref M) "map":=⟨_,hm.m,rfl⟩
 unfold pyNext
 refine wpAny_bind (wpAny_attempt (wpAny_callSpecial?_slot (name:=bF "__next__") hT dp
  (wpAny_call_entry dp hT ij ?_ (gQ _))))
 show wpAny _ _ (field (.ref M) 0 >>= _) _ _ _
 refine wpAny_bind (wpAny_field hm.m rfl (x:=.ref T) rfl ?_)
 refine wpAny_bind (wpAny_seqItems hm.t rfl ?_)
 refine wpAny_bind ?_
 rw [←wi]
 show wpAny _ _ (forIn [Value.ref It] _ _) _ _ _
 rw [dD]
 refine wpAny_bind (wpAny_bind (wpAny_holding (wpAny_nextOf_list_end hh hit hl hx fun h' e hs he=>?_)))
 obtain⟨o,ho,hc⟩:=he
 refine wpAny_bind (wpAny_isInstance (T:="StopIteration") (b:=true) ⟨o,ho,hc⟩ isSubtype_stop ?_)
 exact wpAny_pure (hQ _ hs)
end
section
variable {prog:Program} {w:World} {A:Around} {B:Shared} {fs:List Env} {hd:Option Value} {n:Nat} {fa:Addr} {call:CallT} {f:Nat}
theorem InvH.low2 {ρ:List Addr} {s:Shared} {σ:Hp} (I:InvH B fs hd ρ s σ) {a:Addr} {o:Obj} (e:s.heap.get? a=some o) (hd:∀ es n,o.data ≠ .dict es n):∀ e∈fs,e.frame≠some a:=fun x hx q=>by
 obtain⟨L,m,h1,⟨o',es,ep,e',hd',_⟩,h3⟩:=I.frames x hx
 cases q.symm.trans h1
 cases e.symm.trans e'
 exact hd _ _ hd'
theorem Cr {h:Heap} {M T It:Addr} {f:Value} (m:MapAt h M T It f):Writ (fun b=>b=M) h:=fun b o e q=>by
 subst q
 exact gn e m.m ⟨fun _ _ q=>(nomatch q),fun vs q=>itE rfl (by decide) (by decide)⟩
structure MapI (B:Shared) (fs:List Env) (ρ₁:List Addr) (h₁:Heap) (S M T It:Addr) (fa:Addr) (n0 l:Nat) (i:Nat) (done:List V) (ρ:List Addr) (s:Shared) (σ:Hp):Prop where
 I:InvH B fs none ρ s σ
 h0:0 < s.toks
 K:Keep (·∈ρ₁) h₁ s.heap
 G:Grow ρ₁ h₁ ρ
 m:MapAt s.heap M T It (.ref fa)
 it:s.heap.IsListIter It l i
 rn:ρ[n0]?=some l
 acc:AccL B.heap S ρ s.heap done
 nS:S∉ρ
theorem xK (hC:CallC prog w B n fa (call f)) (hA:A.handled=none) (hK:COk A.in1.in1 fs n) {ρ₁:List Addr} {h₁:Heap} {S M T It n0 l:Nat} (lS:h₁.objs.size≤S) (lI:h₁.objs.size≤It) (nSM:S≠M) (nST:S≠T) (nSI:S≠It) (nMI:M≠It) (nTI:T≠It)
  (hI0:B.heap.get? It=none) (hS0:B.heap.get? S=none) {full:List V} (hfl:full.length≤LIM) {stF:St} {res:Value} {R:Result→Shared→Prop}
  (hR:∀ s' ρ',InvH B fs none ρ' s' stF.hp→Keep (·∈ρ₁) h₁ s'.heap→Grow ρ₁ h₁ ρ'→AccL B.heap S ρ' s'.heap full→R (.ok (.ret res)) s') :
  ∀ (k i:Nat) (done rest:List V) (ρ:List Addr) (s:Shared) (st:St),MapI B fs ρ₁ h₁ S M T It fa n0 l i done ρ s st.hp→compGo (.loc n0) (fun y st=>(callR call f [y] st).bind fun r st=>.ok [r] st) k i st = .ok rest stF→full=done++rest →
   codeAny (model prog w) A (.builtin "list.extend.loop" ⟨[.ref S,.ref M,res],[]⟩) R s:=by
 intro k
 induction k with
 | zero=>intro i done rest ρ s st J hc;cases hc
 | succ k ih=>
  intro i done rest ρ s st J hc hf
  obtain⟨I,h0,K,G,m,it,rn,acc,nS⟩:=J
  obtain⟨xs,q,g⟩:=I.at (ac rn)
  have hlist:=br g
  have iit:=gd it
  obtain⟨oi,ei,ci,di⟩:=id it
  have nIr:It∉ρ:=fun q=>by obtain⟨o,vs,e,hd,_⟩:=iit;exact I.ne_data e (fun _ _ z=>nomatch hd.symm.trans z) q
  refine codeAny_builtin F.entry_extend_loop ?_
  rw [Around.under_plainId F.plain_extend_loop _]
  show wpAny _ A.in1 (pyNext (.ref M) >>= _) _ _ s
  rcases d7 hc with ⟨hn,rfl,rfl⟩ | ⟨u,ys,st2,zs,hn,hgx,hc',rfl⟩
  ·obtain⟨lv,hlv,hnone⟩:=aF.mp hn
   obtain⟨a,xs',q',h1,h2,h3,_⟩:=I.list n0 lv hlv
   cases rn.symm.trans h1
   cases g.symm.trans h2
   have hx:xs[i]?=none:=by rw [ni,lens h3];exact bq.mp hnone
   refine wpAny_bind (cN (z8 hA m it hlist hx fun h' hs hsz=>?_))
   rw [al] at hf
   subst hf
   have K2:Keep (fun b=>b=It) s.heap h':=IsIt.keep hsz fun b o hb e=>hs b o hb e
   refine wpAny_pure (hR _ ρ ?_ (K.trans K2 fun b hb q=>absurd hb (by rw [q];exact bf.mpr lI)) G ((accL (prog:=prog) (w:=w) S).keep K2 iit.writ (fun _ _ e=>e) nSI acc))
   exact { base:=fun b o e=>hs b o (fun q=>by rw [q,hI0] at e;cases e) (I.base b o e),gens:=I.gens,os:=I.os,len:=I.len,list:=fun n l e=>(I.list n l e).keep K2 iit.writ (fun _ _ e=>e) fun b hb q=>nIr (by rw [←q];exact hb),nodup:=I.nodup,fresh:=I.fresh,frames:=fun e he=>(I.frames e he).keep K2 fun L m' f z=>AF iit z,hok:=fun v hv=>nomatch hv }
  ·obtain⟨lv,hlv,hsome⟩:=aF.mp hn
   obtain⟨a,xs',q',h1,h2,h3,_⟩:=I.list n0 lv hlv
   cases rn.symm.trans h1
   cases g.symm.trans h2
   obtain⟨v,hv,rv⟩:=h3.get hsome
   obtain⟨r,st3,hg1,hg2⟩:=dk hgx
   cases hg2
   obtain⟨⟨r',σ'⟩,hg3,hg4⟩:=j4 hg1
   cases hg4
   refine wpAny_bind (xJ m it hlist (by rw [←ba];exact hv) (fun h' it' hs=>?_) nMI)
   have K2:Keep (fun b=>b=It) s.heap h':=.sameBut hs fun _=>rfl
   have I2:InvH B fs none ρ { s with heap:=h',toks:=s.toks } st.hp:=I.one hs iit.writ hI0 nIr (I.frames1 hs (I.low2 ei fun es n z=>nomatch di.symm.trans z))
   have rv2:=VR.keep K2 iit.writ (fun _ _ e=>e) rv
   have m2:MapAt h' M T It (.ref fa):=⟨(hs.2 M nMI).trans m.m,(hs.2 T nTI).trans m.t⟩
   have acc2:=(accL (prog:=prog) (w:=w) S).keep K2 iit.writ (fun _ _ e=>e) nSI acc
   have K3:Keep (·∈ρ₁) h₁ h':=K.trans K2 fun b hb q=>absurd hb (by rw [q];exact bf.mpr lI)
   refine hC fs A.in1.in1 hK ρ { s with heap:=h' } st.hp [u] [v] r' σ' I2 (.cons rv2 .nil) h0 hg3 _ _ fun a s4 ρ4 I4 K4 G4 r4 h4=>?_
   have W2:=I2.writ
   have nM:M∉ρ:=I2.ne_data (s:={ s with heap:=h' }) m2.m (fun _ _ z=>nomatch z)
   have nT:T∉ρ:=fun q=>by obtain⟨xs9,k9,e9⟩:=I2.at q;exact mj (congrArg Obj.cls (Option.some.inj (m2.t.symm.trans e9)))
   have m4:MapAt s4.heap M T It (.ref fa):=by
    obtain⟨o1,e1,_,_,_,x1⟩:=K4.old _ _ m2.m nM
    obtain⟨o2,e2,_,_,_,x2⟩:=K4.old _ _ m2.t nT
    rw [x1 (.fields _ rfl)] at e1
    rw [x2 (.seq _ _ rfl)] at e2
    exact⟨e1,e2⟩
   have it4:s4.heap.IsListIter It l (i+1):=fN it' K4 (by obtain⟨o',e',_,hd'⟩:=it';exact I2.ne_data (s:={ s with heap:=h' }) e' fun _ _ z=>nomatch hd'.symm.trans z)
   have acc4:=(accL (prog:=prog) (w:=w) S).keep K4 W2 (fun _ _=>G4.get) nS acc2
   have low4:S < h'.objs.size:=by obtain⟨kA,c,e,_⟩:=acc2;exact au e
   have nS4:S∉ρ4:=by
    obtain⟨δ,rfl,hδ⟩:=G4
    exact fun q=>(aU.mp q).elim nS fun q=>absurd (hδ S q) (kh.mpr low4)
   have K5:Keep (·∈ρ₁) h₁ s4.heap:=K3.trans K4 fun b hb q=>by
    obtain⟨δ,rfl,hδ⟩:=G
    exact (aU.mp q).elim id fun q=>absurd hb (bf.mpr (hδ b q))
   have G5:Grow ρ₁ h₁ ρ4:=G.trans G4 K3.size
   obtain⟨kA,c,eS,rS⟩:=id acc4
   have hlen:done.length < LIM:=aE (by rw [hf,aa];exact cn (bo _)) hfl
   show wpAny _ A.in1 (updateSeq S (·.push a) >>= _) _ _ _
   refine wpAny_bind (wpAny_updateSeq eS rfl (wpAny_pure ⟨plainId_quiet F.plain_extend_loop _,?_⟩) (by have:=lens rS;have:=bT;grind) (by have:=lens rS;have:=bT;show (kA.push a).size≤sizeLine+1;have e:=y9 (xs:=kA) a;grind))
   have hsS:bk S s4.heap (s4.heap.update S (aR (·.push a))):=.update ..
   have wS:=dS eS
   have KS:Keep (fun b=>b=S) s4.heap (s4.heap.update S (aR (·.push a))):=.sameBut hsS fun _=>rfl
   refine ih (i+1) (done++[r']) zs ρ4 _ { st with hp:=σ' } ⟨?_,h4,K5.other hsS lS,G5,?_,?_,G4.get rn,?_,nS4⟩ hc' (by rw [hf,aw])
   ·exact I4.one (t:=s4.toks) hsS wS hS0 nS4 (I4.frames1 hsS (I4.low2 eS fun _ _ z=>nomatch z))
   ·exact⟨(hsS.2 M (Ne.symm nSM)).trans m4.m,(hsS.2 T (Ne.symm nST)).trans m4.t⟩
   ·exact it4.at fun o e=>(hsS.2 It (Ne.symm nSI)).trans e
   ·refine⟨_,_,get?_update_seq eS fun x=>x.push a,?_⟩
    ·rw [dc]
     exact VRs.keep KS wS (fun _ _ e=>e) ((VRs.cons r4 .nil).append rS)
theorem re {Q:List Value→Shared→Prop} {E:Value→Shared→Prop} {s:Shared} {ρ:List Addr} {st stF:St} {M T It n0 l:Nat} (hC:CallC prog w B n fa (call f)) (hA:A.handled=none) (hK:COk A.in1.in1 fs n) (I:InvH B fs none ρ s st.hp) (h0:0 < s.toks)
  (m:MapAt s.heap M T It (.ref fa)) (it:s.heap.IsListIter It l 0) (rn:ρ[n0]?=some l) (hI0:B.heap.get? It=none) {h₁:Heap} (lI:h₁.objs.size≤It) (K:Keep (·∈ρ) h₁ s.heap) (nMI:M≠It) (nTI:T≠It)
  {full:List V} (hfl:full.length≤LIM) (hc:compGo (.loc n0) (fun y st=>(callR call f [y] st).bind fun r st=>.ok [r] st) FUEL 0 st = .ok full stF)
  (hQ:∀ acc s' ρ',InvH B fs none ρ' s' stF.hp→Keep (·∈ρ) h₁ s'.heap→Grow ρ h₁ ρ'→VRs B.heap ρ' s'.heap full acc→Q acc s') :
  wpAny (model prog w) A (collect (.ref M)) Q E s:=by
 have hSM:s.heap.objs.size≠M:=fun q=>absurd (au m.m) (by rw [q];exact bx _)
 have hST:s.heap.objs.size≠T:=fun q=>absurd (au m.t) (by rw [q];exact bx _)
 have hSI:s.heap.objs.size≠It:=fun q=>by obtain⟨o,e,_⟩:=it;exact absurd (au e) (by rw [q];exact bx _)
 have hS0:B.heap.get? s.heap.objs.size=none:=I.b_new (am _)
 unfold collect
 refine wpAny_bind (wpAny_runValue (codeAny_builtin F.entry_proto_collect ?_))
 rw [Around.under_plainId F.plain_proto_collect _]
 show wpAny _ A.in1 (newList [] >>= fun l=>again (.builtin "list.__iadd__" ⟨[l,.ref M],[]⟩)) _ _ s
 refine wpAny_bind (wpAny_newObj_type ?_)
 refine wpAny_pure ⟨plainId_quiet F.plain_list_iadd _,codeAny_builtin F.entry_list_iadd ?_⟩
 rw [Around.under_plainId F.plain_list_iadd _]
 have up:∀ b o,s.heap.get? b=some o→(s.heap.push (lobj ([]:List Value).toArray 0)).get? b=some o:=fun b o e=>af _ e
 have szp:=(Keep.push (W:=fun _=>False) (h:=s.heap) (lobj ([]:List Value).toArray 0)).size
 have m1:MapAt (s.heap.push (lobj ([]:List Value).toArray 0)) M T It (.ref fa):=⟨up _ _ m.m,up _ _ m.t⟩
 have hT1:Shared.TypeIs { s with heap:=s.heap.push (lobj ([]:List Value).toArray 0) } (.ref M) "map":=⟨_,m1.m,rfl⟩
 show wpAny _ A.in1 (Builtin.List.listExtendWith (.ref s.heap.objs.size) (.ref M) (.ref s.heap.objs.size)) _ _ _
 unfold Builtin.List.listExtendWith
 refine wpAny_bind (wpAny_typeOf hT1 ?_)
 have g1:Builtin.List.listSameRef (.ref s.heap.objs.size) (.ref M)=false:=beq_eq_false_iff_ne.mpr hSM
 rw [if_neg (by rw [g1];decide)]
 refine wpAny_bind (wpAny_pyIter_slot hT1 iQ (wpAny_call_entry iQ hT1 mw ?_ (kJ _)))
 show wpAny _ _ (ret (.ref M)) _ _ _
 refine wpAny_pure ⟨_,rfl,"map",_,hT1,dp.lookup,?_⟩
 refine wpAny_bind (wpAny_holding ?_)
 unfold Builtin.List.listLengthHint
 refine wpAny_bind (wpAny_specialOf hT1 sL ?_)
 show wpAny _ A.in1 (specialOf (Value.ref M) (bF "__length_hint__") >>= _) _ _ _
 refine wpAny_bind (wpAny_specialOf hT1 qL ?_)
 refine wpAny_pure ?_
 show wpAny _ A.in1 (rule "list.extend.makes-room" >>= fun _=>Builtin.List.listTouch (.ref s.heap.objs.size) >>= fun _=>
  again (.builtin "list.extend.loop" ⟨[.ref s.heap.objs.size,.ref M,.ref s.heap.objs.size],[]⟩)) _ _ _
 refine wpAny_bind (wpAny_rule ?_)
 have hS₁:(s.heap.push (lobj ([]:List Value).toArray 0)).get? s.heap.objs.size=some (lobj ([]:List Value).toArray 0):=ao _ rfl
 refine wpAny_bind ?_
 show wpAny _ A.in1 (updateSeq s.heap.objs.size (·.push .none) >>= fun _=>updateSeq s.heap.objs.size (·.pop)) _ _ _
 refine wpAny_bind (wpAny_updateSeq hS₁ rfl ?_)
 have hS₂:=bD (aR (·.push Value.none)) hS₁ rfl
 refine wpAny_updateSeq hS₂ rfl ?_
 have hS₃:=bD (aR (·.pop)) hS₂ rfl
 generalize hh2:((s.heap.push (lobj ([]:List Value).toArray 0)).update s.heap.objs.size (aR (·.push Value.none))).update s.heap.objs.size (aR (·.pop))=h2 at hS₃
 have all2:∀ b o,s.heap.get? b=some o→h2.get? b=some o:=fun b o e=>by
  have hb:s.heap.objs.size≠b:=bR (au e)
  rw [←hh2]
  exact (aI _ _ hb).trans ((aI _ _ hb).trans (up b o e))
 have sz2:s.heap.objs.size≤h2.objs.size:=by rw [←hh2,aO,aO];exact szp
 have I2:InvH B fs none ρ { s with heap:=h2,toks:=s.toks } st.hp:=I.up all2 sz2
 have K2:Keep (·∈ρ) h₁ h2:=K.trans (W':=fun _=>False) (.of_all all2 sz2) fun _ _ f=>f.elim
 refine wpAny_pure ⟨plainId_quiet F.plain_extend_loop _,xK hC hA hK (ρ₁:=ρ) (h₁:=h₁) (aj K.size (am _)) lI hSM hST hSI nMI nTI hI0 hS0 hfl (fun s' ρ' I' K' G' a'=>?_) FUEL 0 [] full ρ { s with heap:=h2 } st
  ⟨I2,h0,K2,.refl,⟨all2 _ _ m.m,all2 _ _ m.t⟩,it.at fun o e=>all2 _ _ e,rn,⟨#[],_,hS₃,.nil⟩,I.ne_new (am _)⟩ hc rfl⟩
 obtain⟨kA,c,eS,rS⟩:=a'
 show wpAny _ A (load s.heap.objs.size >>= _) _ _ s'
 exact wpAny_bind (wpAny_load eS (wpAny_pure (hQ _ s' ρ' I' K' G' rS)))
theorem my {Q₁:Value→Shared→Prop} {E:Value→Shared→Prop} {s:Shared} {ρ:List Addr} {st stF:St} {M T It n0 l:Nat} (hC:CallC prog w B n fa (call f)) (hA:A.handled=none) (hK:COk A.in1.in1.in1 fs n) (I:InvH B fs none ρ s st.hp) (h0:0 < s.toks)
  (m:MapAt s.heap M T It (.ref fa)) (it:s.heap.IsListIter It l 0) (rn:ρ[n0]?=some l) (hI0:B.heap.get? It=none) {h₁:Heap} (lI:h₁.objs.size≤It) (K:Keep (·∈ρ) h₁ s.heap) (nMI:M≠It) (nTI:T≠It)
  {full:List V} (hfl:full.length≤LIM) (hc:compGo (.loc n0) (fun y st=>(callR call f [y] st).bind fun r st=>.ok [r] st) FUEL 0 st = .ok full stF)
  (hQ:∀ acc s' ρ',InvH B fs none ρ' s' stF.hp→Keep (·∈ρ) h₁ s'.heap→Grow ρ h₁ ρ'→VRs B.heap ρ' s'.heap full acc→Q₁ (.ref s'.heap.objs.size) { s' with heap:=s'.heap.push { cls:=.type "tuple",data:=.seq acc.toArray } }) :
  codeAny (model prog w) A (.call (.builtin "tuple.__new__") ⟨[.type "tuple",.ref M],[]⟩) (wants Q₁ E) s:=by
 refine codeAny_of_tree ?_
 show wpAny _ A.in1 (do checkBuiltinCall "tuple.__new__" ⟨[.type "tuple",.ref M],[]⟩;again (.builtin "tuple.__new__" ⟨[.type "tuple",.ref M],[]⟩)) _ _ s
 refine wpAny_bind (wpAny_of_eq (F.newCall_tuple_1 _) (wpAny_pure ⟨plainId_quiet F.plain_tuple_new _,codeAny_builtin F.entry_tuple_new ?_⟩))
 rw [Around.under_plainId F.plain_tuple_new _]
 have hsub:=sub_tuple_self
 have hinit:=init_tuple_lookup
 have hmh:=madeHere_tuple
 have hTI:s.TypeIs (.ref M) "map":=⟨_,m.m,rfl⟩
 wp_walk using wpAny_typeOf hTI,re (A:=A.in1) hC hA hK I h0 m it rn hI0 lI K nMI nTI hfl hc
 intro acc s' ρ' I' K' G' r'
 show wpAny _ _ (Builtin.Tuple.tupleExact acc.toArray >>= fun v=>ret v) _ _ _
 unfold Builtin.Tuple.tupleExact
 refine wpAny_bind (wpAny_newObj_type ?_ (by show acc.toArray.size≤sizeLine;have:=r'.length;have:=bT;rw [cH];grind))
 exact wpAny_pure (hQ acc s' ρ' I' K' G' r')
end
theorem vN {call:CallT} {f:Nat} {src:V} (k:Nat):∀ (i:Nat) (st stF:St) (l:List V),compGo src (fun y st=>(callR call f [y] st).bind fun r st=>.ok [r] st) k i st = .ok l stF→stF.fv=st.fv:=by
 induction k with
 | zero=>intro i st stF l h;cases h
 | succ k ih=>
  intro i st stF l h
  rcases d7 h with ⟨hn,rfl,rfl⟩ | ⟨u,ys,st2,zs,hn,hgx,hc',rfl⟩
  ·rfl
  ·obtain⟨r,st3,hg1,hg2⟩:=dk hgx
   cases hg2
   obtain⟨⟨r',σ'⟩,hg3,hg4⟩:=j4 hg1
   cases hg4
   exact (ih _ _ _ _ hc').trans rfl
theorem Ca:(("map":Str),Value.type "map")∈bnames:=ac (i:=13) rfl
theorem yL:(("tuple":Str),Value.type "tuple")∈bnames:=ac (i:=14) rfl
theorem qE {n:Str} {np:Pos}:NoStar (.Name n np):=fun _ _=>rfl
theorem qF {g:Expr} {xs:List Expr} {ks:List Keyword} {pos:Pos}:NoStar (.Call g xs ks pos):=fun _ _=>rfl
section
variable {prog:Program} {w:World} {A:Around} {p:P} {d:D} {cv:Option V} {FA:Nat→Addr} {G:Nat→Option V} {y:Expr} {g:St→Res V} {pos np mp fp p2:Pos}
theorem COk.in4 {A:Around} {fs:List Env} {n:Nat} (h:COk A fs (n+1)):COk A.in1.in1.in1.in1 fs n:=⟨h.frames,h.handled,by have:=h.units;show A.units+1+1+1+1+100 * n+100≤cLine;grind,by have:=h.depth;show A.depth+n < recursionLimit;grind,h.kinds⟩
theorem zL {n i:Nat} {nm:Str} {call:CallT} (T:TopOk d.B.heap FA G) (hE:EnvOk p d) (ho:okTop p nm=true) (hot:okTop p "tuple"=true) (hom:okTop p "map"=true) (hi:fnames[i]?=some nm) (hC:CallC prog w d.B n (FA i) (call i)) (hA:COk A d.fs (n+1)) (hd0:d.hd=none)
  (hn:NoStar y) (hy:TE prog w A d cv y g):TE prog w A d cv (.Call (.Name "tuple" np) [.Call (.Name "map" mp) [.Name nm fp,y] [] p2] [] pos) fun st=>(g st).bind fun x st=>tmapV call i x st:=fun ρ s st I=>by
 refine ((hy ρ s st I).bind (F:=fun va Q E s=>wpAny (model prog w) A (PySem.call (.type "map") [.ref (FA i),va]) (fun m s=>wpAny (model prog w) A (PySem.call (.type "tuple") [m]) Q E s) E s) fun a st1 va s1 ρ1 _ r1 p1=>?_).imp
  fun Q E h=>cB (cU T hE hot yL I (kX (F:=fun _ _ _=>True) (first:=[]) (.inr ⟨_,rfl⟩) qF (cB (cU T hE hom Ca I (fZ (first:=[]) (.inr ⟨_,rfl⟩) qE hn (oV T hE ho hi I h))))))
 cases a with
 | loc n0=>
  obtain⟨l,rn,rfl⟩:=r1
  have I1:=p1.inv
  have hI:InvH d.B d.fs none ρ1 s1 st1.hp:=by rw [←hd0];exact I1.h
  obtain⟨xs,q,gl⟩:=hI.at (ac rn)
  have hm:s1.heap.objs.size+2≠s1.heap.objs.size:=by grind
  have ht:s1.heap.objs.size+1≠s1.heap.objs.size:=by grind
  show TriP d ρ1 cv s1 (RVal d) _ ((compGo (.loc n0) (fun y st=>(callR call i [y] st).bind fun r st=>.ok [r] st) FUEL 0 st1).bind fun l st=>mkTup l st)
  cases hcg:compGo (.loc n0) (fun y st=>(callR call i [y] st).bind fun r st=>.ok [r] st) FUEL 0 st1 with
  | bad=>exact .bad
  | ex st'=>exact absurd hcg (fI _ _ _ _)
  | ok full stF=>
   refine TriP.ifb fun hfl=>?_
   intro _ h0 Q E hQ _
   refine m6 (br gl) fun h' m it sz up=>?_
   refine callType_codes (Q₁:=fun obj s₁=>s₁.TypeIs obj "tuple"∧Q obj s₁) F.called_tuple (F.typeCall_tuple_1 _) F.entry_object_init
    (my hC hA.handled hA.in4 (hI.up (t:=s1.toks) up sz) h0 m it rn (hI.b_new (am _)) (h₁:=s1.heap) (am _) (.of_all up sz) hm ht hfl hcg fun acc s' ρ' I' K' G' r'=>⟨⟨_,ao _ rfl,rfl⟩,?_⟩)
    fun obj s₁ h₁=>⟨h₁.1,F.args_object_init_2 obj _,object_init_meets F.called_tuple.init.lookup F.called_tuple.made (by decide) prog w A.in1 _ s₁ ⟨h₁.1,rfl,h₁.2⟩⟩
   have up2:∀ b o,s'.heap.get? b=some o→(s'.heap.push (tobj acc.toArray 0)).get? b=some o:=fun b o e=>af _ e
   have sz2:=(Keep.push (W:=fun _=>False) (h:=s'.heap) (tobj acc.toArray 0)).size
   have P:=Post.step I1 (s':={ s' with heap:=s'.heap.push (tobj acc.toArray 0),toks:=s'.toks }) (K'.trans (W':=fun _=>False) (.of_all up2 sz2) fun _ _ f=>f.elim) G' (by rw [hd0];exact I'.up up2 sz2)
   rw [show ({ st1 with hp:=stF.hp }:St)=stF from by have:=vN _ _ _ _ _ hcg;cases stF;cases st1;cases this;rfl] at P
   exact hQ (.tup full) stF _ _ ρ' rfl (.tup (ao _ rfl) hfl (r'.up up2 sz2)) P
 | _=>exact .bad
end
end Mine
end
section
open PySem PySem.W PyProof.Rows
namespace Mine
noncomputable def isNm (n:Str) (x:Expr):Bool:=xName x fun m _=>m == n
@[elab_as_elim] theorem jJ {n:Str} {x:Expr} {C:Expr→Prop} (h:isNm n x=true) (f:∀ p,C (.Name n p)):C x:=bQ h fun m p h=>by rw [eq_of_beq h];exact f p
noncomputable def isConst (c:Const) (x:Expr):Bool:=xConst x fun m=>m == c
@[elab_as_elim] theorem fe {c:Const} {x:Expr} {C:Expr→Prop} (h:isConst c x=true) (f:∀ n p,C (.Constant c n p)):C x:=uz h fun m n p h=>by rw [eq_of_beq h];exact f n p
noncomputable def callB (p:P) (nm:Str) (x:Expr) (k:Expr→Bool):Bool:=xCallN x fun n xs=>n == nm&&(okTop p nm&&x1 xs fun y=>noStar y&&k y)
noncomputable def callB2 (p:P) (nm:Str) (x:Expr) (k:Expr→Expr→Bool):Bool:=xCallN x fun n xs=>n == nm&&(okTop p nm&&x2 xs fun y z=>noStar y&&k y z)
@[elab_as_elim] theorem yE {p:P} {nm:Str} {x:Expr} {k:Expr→Bool} {C:Expr→Prop} (h:callB p nm x k=true) (f:∀ np y pos,okTop p nm=true→NoStar y→k y=true→C (.Call (.Name nm np) [y] [] pos)):C x:=
 dR h fun n np xs pos h=>eqA (C:=fun n=>C (.Call (.Name n np) xs [] pos)) h fun h=>andC h fun h2 h=>dL (C:=fun xs=>C (.Call (.Name nm np) xs [] pos)) h fun y h=>andC h fun h3 h4=>f np y pos h2 (cj h3) h4
@[elab_as_elim] theorem iH {p:P} {nm:Str} {x:Expr} {k:Expr→Expr→Bool} {C:Expr→Prop} (h:callB2 p nm x k=true) (f:∀ np y z pos,okTop p nm=true→NoStar y→k y z=true→C (.Call (.Name nm np) [y,z] [] pos)):C x:=
 dR h fun n np xs pos h=>eqA (C:=fun n=>C (.Call (.Name n np) xs [] pos)) h fun h=>andC h fun h2 h=>fU (C:=fun xs=>C (.Call (.Name nm np) xs [] pos)) h fun y z h=>andC h fun h3 h4=>f np y z pos h2 (cj h3) h4
noncomputable def noSup (x:Expr):Bool:=noCall x||xCall x fun _ l _ _=>xc l fun _ _=>true
theorem xD {x:Expr} (h:noSup x=true):NoSup x:=by
 cases hc:noCall x with
 | true=>exact vk hc
 | false=>
  unfold noSup at h
  rw [hc] at h
  exact jp h fun a l m p h=>gV (C:=fun l=>NoSup (.Call a l m p)) h fun _ _ _=>sJ
noncomputable def callM (nm:Str) (x:Expr) (k:Expr→List Expr→Bool):Bool:=xCallM x fun o n ap xs pos=>n == nm&&((ap.endLine == pos.line)&&(noSup o&&k o xs))
@[elab_as_elim] theorem gf {nm:Str} {x:Expr} {k:Expr→List Expr→Bool} {C:Expr→Prop} (h:callM nm x k=true) (f:∀ o ap xs pos,(ap.endLine == pos.line)=true→NoSup o→k o xs=true→C (.Call (.Attribute o nm ap) xs [] pos)):C x:=
 uA h fun o n ap xs pos h=>eqA (C:=fun n=>C (.Call (.Attribute o n ap) xs [] pos)) h fun h=>andC h fun h2 h=>andC h fun h3 h4=>f o ap xs pos h2 (xD h3) h4
noncomputable def arg1 (xs:List Expr) (k:Expr→Bool):Bool:=x1 xs fun z=>noStar z&&k z
@[elab_as_elim] theorem jQ {xs:List Expr} {k:Expr→Bool} {C:List Expr→Prop} (h:arg1 xs k=true) (f:∀ z,NoStar z→k z=true→C [z]):C xs:=dL h fun z h=>andC h fun h1 h=>f z (cj h1) h
noncomputable def compB (p:P) (x:Expr) (ks:Scope→Pos→Bool) (kit:Expr→Bool) (kel:P→Expr→Bool) (kif:P→List Expr→Bool):Bool:=
 xComp x fun z gs scope cp=>xGen gs fun y iter ifs=>ks scope cp&&(okScope p scope y&&(plainIter iter&&(kit iter&&(kel (pcomp p scope y) z&&kif (pcomp p scope y) ifs))))
@[elab_as_elim] theorem mx {p:P} {x:Expr} {ks:Scope→Pos→Bool} {kit:Expr→Bool} {kel:P→Expr→Bool} {kif:P→List Expr→Bool} {C:Expr→Prop} (h:compB p x ks kit kel kif=true)
  (f:∀ z y yp iter ifs scope pos,ks scope pos=true→ScopeOk p scope y→plainIter iter=true→kit iter=true→kel (pcomp p scope y) z=true→kif (pcomp p scope y) ifs=true→C (.ListComp z [⟨.Name y yp,iter,ifs,0⟩] scope pos)):C x:=
 ww h fun z gs scope cp h=>tG (C:=fun gs=>C (.ListComp z gs scope cp)) h fun y yp iter ifs h=>andC h fun h0 h=>andC h fun h1 h=>andC h fun h2 h=>andC h fun h3 h=>andC h fun h4 h5=>f z y yp iter ifs scope cp h0 (gC h1) h2 h3 h4 h5
mutual
noncomputable def okE (p:P) (e:E) (x:Expr):Bool:=match e with
 | .lit v=>okLit v&&isConst (constOf v) x
 | .var i=>xName x fun n _=>okVar p i n
 | .cv=>xName x fun n _=>okCv p n
 | .glob k=>xName x fun n _=>okTop p n&&(gnames[k]? == some n)
 | .list es=>xList x fun xs=>okEs p es xs
 | .tup es=>xTup x fun xs=>okEs p es xs
 | .bin op a b=>xBin x fun y o z=>o == opOf op&&(okE p a y&&okE p b z)
 | .cmp op a b=>xCmp x fun y os zs=>x1 os fun o=>x1 zs fun z=>o == cOf op&&(!behindInMarks (cOf op) z&&(okE p a y&&okE p b z))
 | .chain o1 o2 a b c=>xCmp x fun y os zs=>x2 os fun q1 q2=>x2 zs fun z u=>q1 == cOf o1&&(q2 == cOf o2&&(!behindInMarks (cOf o2) u&&(okE p a y&&(okE p b z&&okE p c u))))
 | .and a b=>xBool x fun o zs=>x2 zs fun y z=>o == BoolOp.And&&(okE p a y&&okE p b z)
 | .or a b=>xBool x fun o zs=>x2 zs fun y z=>o == BoolOp.Or&&(okE p a y&&okE p b z)
 | .neg a=>xUn x fun o y=>o == UnaryOp.USub&&okE p a y
 | .ife t a b=>xIf x fun u y z=>okT p t u&&(okE p a y&&okE p b z)
 | .idx a i=>xSub x fun y z=>p.ix&&(plainSub z&&(okE p a y&&okE p i z))
 | .sliceHi a hi=>xSub x fun y z=>xSlice z fun l h=>xNone l&&xSome h fun h=>okE p a y&&okE p hi h
 | .sliceLo a lo=>xSub x fun y z=>xSlice z fun l h=>xSome l fun l=>xNone h&&(okE p a y&&okE p lo l)
 | .sliceLH a lo hi=>xSub x fun y z=>xSlice z fun l h=>xSome l fun l=>xSome h fun h=>okE p a y&&(okE p lo l&&okE p hi h)
 | .b1 f a=>!p.hd&&callB p (b1Nm f) x fun y=>okE p a y
 | .isbytes a=>callB2 p "isinstance" x fun y z=>okTop p "bytes"&&(isNm "bytes" z&&okE p a y)
 | .issub a=>callB2 p "issubclass" x fun y z=>xTup z fun ts=>x2 ts fun m k=>okTop p "str"&&(okTop p "bytes"&&(isNm "str" m&&(isNm "bytes" k&&okE p a y)))
 | .int16 a=>callB2 p "int" x fun y z=>isConst (.int 16) z&&okE p a y
 | .divmod a b=>callB2 p "divmod" x fun y z=>noStar z&&(okE p a y&&okE p b z)
 | .m0 f a=>callM (m0Nm f) x fun y xs=>x0 xs&&okE p a y
 | .m1 f a b=>callM (m1Nm f) x fun y xs=>arg1 xs fun z=>okE p a y&&okE p b z
 | .replace a c t=>callM "replace" x fun y xs=>x2 xs fun u v=>isConst (.str (mk [c])) u&&(isConst (.str (mk t)) v&&okE p a y)
 | .append a b=>callM "append" x fun y xs=>arg1 xs fun z=>okE p a y&&okE p b z
 | .extend a b=>callM "extend" x fun y xs=>arg1 xs fun z=>okE p a y&&okE p b z
 | .insert0 a b=>callM "insert" x fun y xs=>x2 xs fun u v=>isConst (.int 0) u&&(noStar v&&(okE p a y&&okE p b v))
 | .bapp a=>xAttr x fun y n _=>xName y fun m q=>n == ("append":Str)&&okE p a (.Name m q)
 | .callv i b=>xCallN x fun n xs=>okVar p i n&&arg1 xs fun z=>okE p b z
 | .call f es=>!p.hd&&xCallN x fun n xs=>okTop p n&&((fnames[f]? == some n)&&xc xs fun y ys=>noStar y&&okEs p es (y::ys))
 | .comp elt it=>compB p x (fun _ _=>true) (fun y=>okE p it y) (fun q z=>okE q elt z) fun _ ifs=>x0 ifs
 | .compIf elt it c=>compB p x (fun _ _=>true) (fun y=>okE p it y) (fun q z=>okE q elt z) fun q ifs=>x1 ifs fun u=>okT q c u
 | .sortK f a=>!p.hd&&xCall x fun n xs ks _=>isNm "sorted" n&&(okTop p "sorted"&&x1 ks fun k=>xKw k fun k m=>k == some ("key":Str)&&xName m fun m _=>okTop p m&&((fnames[f]? == some m)&&arg1 xs fun y=>okE p a y))
 | .tmap f a=>!p.hd&&xCallN x fun n xs=>n == ("tuple":Str)&&x1 xs fun y=>xCallN y fun m ys=>m == ("map":Str)&&x2 ys fun u v=>xName u fun nm _=>
   okTop p "tuple"&&(okTop p "map"&&(okTop p nm&&((fnames[f]? == some nm)&&(noStar v&&okE p a v))))
noncomputable def okEs (p:P) (es:Es) (xs:List Expr):Bool:=match es with
 | .nil=>x0 xs
 | .cons e es=>xc xs fun x xs=>noStar x&&(okE p e x&&okEs p es xs)
noncomputable def okT (p:P) (t:T) (x:Expr):Bool:=match t with
 | .val e=>plainTest x&&okE p e x
 | .cmp op a b=>xCmp x fun y os zs=>x1 os fun o=>x1 zs fun z=>o == cOf op&&(!behindInMarks (cOf op) z&&(okE p a y&&okE p b z))
 | .not t=>xUn x fun o y=>o == UnaryOp.Not&&okT p t y
 | .and ts=>xBool x fun o zs=>o == BoolOp.And&&okTs p ts zs
 | .or ts=>xBool x fun o zs=>o == BoolOp.Or&&okTs p ts zs
noncomputable def okTs (p:P) (ts:Ts) (xs:List Expr):Bool:=match ts with
 | .nil=>x0 xs
 | .cons t ts=>xc xs fun x xs=>okT p t x&&okTs p ts xs
end
structure CtxE (prog:Program) (w:World) (FA:Nat→Addr) (G:Nat→Option V) (call:CallT) (n:Nat) (p:P) (d:D) (A:Around):Prop where
 E:EnvOk p d
 T:TopOk d.B.heap FA G
 u:A.units+20 < cLine
 ix:p.ix=true→A.handled=d.hd
 hd:p.hd=false→A.handled=none∧COk A d.fs (n+1)
 C:∀ (i:Nat) (nm:Str),fnames[i]?=some nm→CallC prog w d.B n (FA i) (call i)
theorem COk.in2 {A:Around} {fs:List Env} {n:Nat} (h:COk A fs (n+1)):COk A.in1.in1 fs n:=⟨h.frames,h.handled,by have:=h.units;show A.units+1+1+100 * n+100≤cLine;grind,by have:=h.depth;show A.depth+n < recursionLimit;grind,h.kinds⟩
theorem COk.pred {A:Around} {fs:List Env} {n:Nat} (h:COk A fs (n+1)):COk A fs n:=⟨h.frames,h.handled,by have:=h.units;grind,by have:=h.depth;grind,h.kinds⟩
theorem dg {b:Bool} (h:(!b)=true):b=false:=by cases b with | true=>exact nomatch h | false=>rfl
section
variable {prog:Program} {w:World} {FA:Nat→Addr} {G:Nat→Option V} {call:CallT} {n:Nat}
theorem CtxE.comp {p:P} {d:D} {A:Around} {scope:Scope} {y:Str} {C:Addr} {cl:List (Str×Addr)} (c:CtxE prog w FA G call n p d A) (hS:ScopeOk p scope y) (hE:EnvOk (pcomp p scope y) (dcomp d scope C cl y)):CtxE prog w FA G call n (pcomp p scope y) (dcomp d scope C cl y) A where
 E:=hE
 T:=c.T
 u:=c.u
 ix:=fun _=>by rw [(c.hd hS.hd).1];exact (c.E.hd hS.hd).symm
 hd:=fun _=>c.hd hS.hd
 C:=c.C
mutual
theorem ar (e:E):∀ (p:P) (d:D) (A:Around) (cv:Option V) (x:Expr),okE p e x=true→CtxE prog w FA G call n p d A→TE prog w A d cv x fun st=>ev call G cv e st:=match e with
 | .lit v=>fun p d A cv x h c=>andC h fun h1 h2=>fe (x:=x) h2 fun k np=>Bp h1
 | .var i=>fun p d A cv x h c=>bQ h fun n np h=>xe c.E h
 | .cv=>fun p d A cv x h c=>bQ h fun n np h=>Cn c.E h
 | .glob k=>fun p d A cv x h c=>bQ h fun n np h=>andC h fun h1 h2=>zN c.T c.E h1 (eq_of_beq h2)
 | .list es=>fun p d A cv x h c=>wq h fun xs np h=>zM (gD es _ _ _ _ _ h c)
 | .tup es=>fun p d A cv x h c=>iy h fun xs k np h=>xf (gD es _ _ _ _ _ h c)
 | .bin op a b=>fun p d A cv x h c=>zg h fun y o z np h=>eqA (a:=o) h fun h=>andC h fun h2 h3=>Bt op (ar a _ _ _ _ _ h2 c) (ar b _ _ _ _ _ h3 c)
 | .cmp op a b=>fun p d A cv x h c=>oz h fun y os zs np h=>dL (l:=os) h fun o h=>dL (l:=zs) h fun z h=>eqA (a:=o) h fun h=>andC h fun h2 h=>andC h fun h3 h4=>Bs op c.u (dg h2) (ar a _ _ _ _ _ h3 c) (ar b _ _ _ _ _ h4 c)
 | .chain o1 o2 a b u=>fun p d A cv x h c=>oz h fun y os zs np h=>fU (l:=os) h fun q1 q2 h=>fU (l:=zs) h fun z v h=>eqA (a:=q1) h fun h=>eqA (a:=q2) h fun h=>andC h fun h3 h=>andC h fun h4 h=>andC h fun h5 h6=>xj o1 o2 c.u (dg h3) (ar a _ _ _ _ _ h4 c) (ar b _ _ _ _ _ h5 c) (ar u _ _ _ _ _ h6 c)
 | .and a b=>fun p d A cv x h c=>jq h fun o zs np h=>fU (l:=zs) h fun y z h=>eqA (a:=o) h fun h=>andC h fun h2 h3=>Bv (ar a _ _ _ _ _ h2 c) (ar b _ _ _ _ _ h3 c)
 | .or a b=>fun p d A cv x h c=>jq h fun o zs np h=>fU (l:=zs) h fun y z h=>eqA (a:=o) h fun h=>andC h fun h2 h3=>Ck (ar a _ _ _ _ _ h2 c) (ar b _ _ _ _ _ h3 c)
 | .neg a=>fun p d A cv x h c=>wm h fun o y np h=>eqA (a:=o) h fun h=>Bo (ar a _ _ _ _ _ h c)
 | .ife t a b=>fun p d A cv x h c=>AL h fun u y z np h=>andC h fun h1 h=>andC h fun h2 h3=>Bq (dz t _ _ _ _ _ h1 c) (ar a _ _ _ _ _ h2 c) (ar b _ _ _ _ _ h3 c)
 | .idx a i=>fun p d A cv x h c=>kM h fun y z np h=>andC h fun h1 h=>andC h fun h2 h=>andC h fun h3 h4=>Br (c.ix h1) (qx h2) (ar a _ _ _ _ _ h3 c) (ar i _ _ _ _ _ h4 c)
 | .sliceHi a hi=>fun p d A cv x h c=>kM h fun y z np h=>jU (x:=z) h fun l u sp h=>xNoneA (o:=l) h fun h=>fT (o:=u) h fun u h=>andC h fun h1 h2=>sf (ar a _ _ _ _ _ h1 c) (ar hi _ _ _ _ _ h2 c)
 | .sliceLo a lo=>fun p d A cv x h c=>kM h fun y z np h=>jU (x:=z) h fun l u sp h=>fT (o:=l) h fun l h=>xNoneA (o:=u) h fun h=>andC h fun h1 h2=>sd (ar a _ _ _ _ _ h1 c) (ar lo _ _ _ _ _ h2 c)
 | .sliceLH a lo hi=>fun p d A cv x h c=>kM h fun y z np h=>jU (x:=z) h fun l u sp h=>fT (o:=l) h fun l h=>fT (o:=u) h fun u h=>andC h fun h1 h=>andC h fun h2 h3=>se (ar a _ _ _ _ _ h1 c) (ar lo _ _ _ _ _ h2 c) (ar hi _ _ _ _ _ h3 c)
 | .b1 f a=>fun p d A cv x h c=>andC h fun h1 h=>yE h fun np y pos h4 h5 h6=>Co (c.hd (dg h1)).1 c.u c.T c.E h4 h5 (ar a _ _ _ _ _ h6 c)
 | .isbytes a=>fun p d A cv x h c=>iH h fun np y z pos h4 h5 h6=>andC h6 fun h7 h=>andC h fun h8 h9=>jJ (x:=z) h8 fun bp=>si c.T c.E h4 h7 h5 (ar a _ _ _ _ _ h9 c)
 | .issub a=>fun p d A cv x h c=>iH h fun np y z pos h4 h5 h=>iy (x:=z) h fun ts k0 tp h=>fU (l:=ts) h fun m k h=>andC h fun h1 h=>andC h fun h2 h=>andC h fun h3 h=>andC h fun h7 h8=>jJ (x:=m) h3 fun sp=>jJ (x:=k) h7 fun bp=>xh c.T c.E h4 h1 h2 h5 (ar a _ _ _ _ _ h8 c)
 | .int16 a=>fun p d A cv x h c=>iH h fun np y z pos h4 h5 h6=>andC h6 fun h7 h8=>fe (x:=z) h7 fun k cp=>xi c.T c.E h4 h5 (ar a _ _ _ _ _ h8 c)
 | .divmod a b=>fun p d A cv x h c=>iH h fun np y z pos h4 h5 h6=>andC h6 fun h7 h=>andC h fun h8 h9=>uS c.T c.E h4 h5 (cj h7) (ar a _ _ _ _ _ h8 c) (ar b _ _ _ _ _ h9 c)
 | .m0 f a=>fun p d A cv x h c=>gf h fun o ap xs pos h2 h3 h=>x0A (l:=xs) h fun h=>Cm h3 h2 (ar a _ _ _ _ _ h c)
 | .m1 f a b=>fun p d A cv x h c=>gf h fun o ap xs pos h2 h3 h=>jQ (xs:=xs) h fun z h4 h=>andC h fun h5 h6=>Cl h3 h2 h4 (ar a _ _ _ _ _ h5 c) (ar b _ _ _ _ _ h6 c)
 | .replace a q t=>fun p d A cv x h c=>gf h fun o ap xs pos h2 h3 h=>fU (l:=xs) h fun u v h=>andC h fun h4 h=>andC h fun h5 h6=>fe (x:=u) h4 fun k1 p1=>fe (x:=v) h5 fun k2 p2=>sh h3 h2 (ar a _ _ _ _ _ h6 c)
 | .append a b=>fun p d A cv x h c=>gf h fun o ap xs pos h2 h3 h=>jQ (xs:=xs) h fun z h4 h=>andC h fun h5 h6=>uT h3 h2 h4 (ar a _ _ _ _ _ h5 c) (ar b _ _ _ _ _ h6 c)
 | .extend a b=>fun p d A cv x h c=>gf h fun o ap xs pos h2 h3 h=>jQ (xs:=xs) h fun z h4 h=>andC h fun h5 h6=>uR h3 h2 h4 (ar a _ _ _ _ _ h5 c) (ar b _ _ _ _ _ h6 c)
 | .insert0 a b=>fun p d A cv x h c=>gf h fun o ap xs pos h2 h3 h=>fU (l:=xs) h fun u v h=>andC h fun h4 h=>andC h fun h5 h=>andC h fun h6 h7=>fe (x:=u) h4 fun k1 p1=>sj h3 h2 (cj h5) (ar a _ _ _ _ _ h6 c) (ar b _ _ _ _ _ h7 c)
 | .bapp a=>fun p d A cv x h c=>pT h fun y n np h=>bQ (x:=y) h fun m mp h=>eqA (a:=n) h fun h=>zQ (ar a _ _ _ _ _ h c)
 | .callv i b=>fun p d A cv x h c=>dR h fun n np xs pos h=>andC h fun h1 h=>jQ (xs:=xs) h fun z h4 h=>xk (xe c.E h1) h4 (ar b _ _ _ _ _ h c)
 | .call f es=>fun p d A cv x h c=>andC h fun h1 h=>dR h fun n np xs pos h=>andC h fun h2 h=>andC h fun h3 h=>gV (l:=xs) h fun y ys h=>andC h fun h4 h5=>zP c.T c.E h2 (eq_of_beq h3) (c.C _ _ (eq_of_beq h3)) (c.hd (dg h1)).2.pred (c.E.hd (dg h1)) (cj h4) (gD es _ _ _ _ _ h5 c)
 | .comp elt it=>fun p d A cv x h c=>mx h fun z y yp iter ifs scope pos _ hS h2 h3 h4 h5=>kn (l:=ifs) h5 (qg (tf:=fun _ st=>.ok true st) (ef:=fun y st=>ev call G (some y) elt st) c.E hS (c.hd hS.hd).1 (cS h2) (ar it _ _ _ _ _ h3 c) (fun C cl x ρ s st E' I=>mo ρ s st I) fun C cl x E'=>ar elt _ _ _ _ _ h4 (c.comp hS E'))
 | .compIf elt it t=>fun p d A cv x h c=>mx h fun z y yp iter ifs scope pos _ hS h2 h3 h4 h5=>dL (l:=ifs) h5 fun u h5=>qg (tf:=fun y st=>evT call G (some y) t st) (ef:=fun y st=>ev call G (some y) elt st) c.E hS (c.hd hS.hd).1 (cS h2) (ar it _ _ _ _ _ h3 c) (fun C cl x ρ s st E' I=>uk (dz t _ _ _ _ _ h5 (c.comp hS E')) ρ s st I) fun C cl x E'=>ar elt _ _ _ _ _ h4 (c.comp hS E')
 | .sortK f a=>fun p d A cv x h c=>andC h fun h1 h=>jp h fun n xs ks pos h=>andC h fun h2 h=>andC h fun h3 h=>dL (l:=ks) h fun k h=>AK (x:=k) h fun k m kp h=>eqA (a:=k) h fun h=>bQ (x:=m) h fun m mp h=>andC h fun h5 h=>andC h fun h6 h=>jQ (xs:=xs) h fun z h7 h8=>jJ (x:=n) h2 fun np=>xg c.T c.E h5 h3 (eq_of_beq h6) (c.C _ _ (eq_of_beq h6)) (c.hd (dg h1)).2.in2 (c.E.hd (dg h1)) h7 (ar a _ _ _ _ _ h8 c)
 | .tmap f a=>fun p d A cv x h c=>by
  refine andC h fun h1 h=>?_
  refine dR h fun n np xs pos h=>?_
  refine eqA (a:=n) h fun h=>dL (l:=xs) h fun y h=>?_
  refine dR (x:=y) h fun m mp ys p2 h=>?_
  refine eqA (a:=m) h fun h=>fU (l:=ys) h fun u v h=>?_
  exact bQ (x:=u) h fun nm fp h=>andC h fun h4 h=>andC h fun h5 h=>andC h fun h6 h=>andC h fun h7 h=>andC h fun h8 h9=>zL c.T c.E h6 h4 h5 (eq_of_beq h7) (c.C _ _ (eq_of_beq h7)) (c.hd (dg h1)).2 (c.E.hd (dg h1)) (cj h8) (ar a _ _ _ _ _ h9 c)
theorem gD (es:Es):∀ (p:P) (d:D) (A:Around) (cv:Option V) (xs:List Expr),okEs p es xs=true→CtxE prog w FA G call n p d A→TEs prog w A d cv xs fun st=>evs call G cv es st:=match es with
 | .nil=>fun p d A cv xs h c=>kn h tX
 | .cons e es=>fun p d A cv xs h c=>gV h fun y ys h=>andC h fun h1 h=>andC h fun h2 h3=>lJ (cj h1) (ar e _ _ _ _ _ h2 c) (gD es _ _ _ _ _ h3 c)
theorem dz (t:T):∀ (p:P) (d:D) (A:Around) (cv:Option V) (x:Expr),okT p t x=true→CtxE prog w FA G call n p d A→TB prog w A d cv x fun st=>evT call G cv t st:=match t with
 | .val e=>fun p d A cv x h c=>andC h fun h1 h2=>xo (oS h1) (ar e _ _ _ _ _ h2 c)
 | .cmp op a b=>fun p d A cv x h c=>oz h fun y os zs np h=>dL (l:=os) h fun o h=>dL (l:=zs) h fun z h=>eqA (a:=o) h fun h=>andC h fun h2 h=>andC h fun h3 h4=>Bx op c.u (dg h2) (ar a _ _ _ _ _ h3 c) (ar b _ _ _ _ _ h4 c)
 | .not t=>fun p d A cv x h c=>wm h fun o y np h=>eqA (a:=o) h fun h=>Bw (dz t _ _ _ _ _ h c)
 | .and ts=>fun p d A cv x h c=>jq h fun o zs np h=>eqA (a:=o) h fun h=>tY (gB ts _ _ _ _ _ h c).1
 | .or ts=>fun p d A cv x h c=>jq h fun o zs np h=>eqA (a:=o) h fun h=>tY (gB ts _ _ _ _ _ h c).2
theorem gB (ts:Ts):∀ (p:P) (d:D) (A:Around) (cv:Option V) (xs:List Expr),okTs p ts xs=true→CtxE prog w FA G call n p d A →
  (TBA prog w A d cv .And xs fun st=>evTA call G cv ts st)∧(TBA prog w A d cv .Or xs fun st=>evTO call G cv ts st):=match ts with
 | .nil=>fun p d A cv xs h c=>kn h ⟨zS,zR⟩
 | .cons t ts=>fun p d A cv xs h c=>gV h fun y ys h=>andC h fun h1 h2=>⟨xn (dz t _ _ _ _ _ h1 c) (gB ts _ _ _ _ _ h2 c).1,xm (dz t _ _ _ _ _ h1 c) (gB ts _ _ _ _ _ h2 c).2⟩
end
end
section
noncomputable def xAssign (x:Stmt) (k:List Expr→Expr→Bool):Bool:=if h:x.ctorIdx=5 then Stmt.Assign.elim (motive_2:=fun _=>Bool) x h fun l v _=>k l v else false
@[elab_as_elim] theorem i5 {x:Stmt} {k:List Expr→Expr→Bool} {C:Stmt→Prop} (h:xAssign x k=true) (f:∀ (l:List Expr) (v:Expr) (p:Pos),k l v=true→C (.Assign l v p)):C x:=cZ (fun e=>Stmt.Assign.elim (motive_2:=fun x=>xAssign x k=true→C x) x e f) h
noncomputable def xAug (x:Stmt) (k:Expr→Operator→Expr→Bool):Bool:=if h:x.ctorIdx=7 then Stmt.AugAssign.elim (motive_2:=fun _=>Bool) x h fun t o v _=>k t o v else false
@[elab_as_elim] theorem zh {x:Stmt} {k:Expr→Operator→Expr→Bool} {C:Stmt→Prop} (h:xAug x k=true) (f:∀ (t:Expr) (o:Operator) (v:Expr) (p:Pos),k t o v=true→C (.AugAssign t o v p)):C x:=cZ (fun e=>Stmt.AugAssign.elim (motive_2:=fun x=>xAug x k=true→C x) x e f) h
noncomputable def xExprS (x:Stmt) (k:Expr→Bool):Bool:=if h:x.ctorIdx=24 then Stmt.Expr.elim (motive_2:=fun _=>Bool) x h fun v _=>k v else false
@[elab_as_elim] theorem uy {x:Stmt} {k:Expr→Bool} {C:Stmt→Prop} (h:xExprS x k=true) (f:∀ (v:Expr) (p:Pos),k v=true→C (.Expr v p)):C x:=cZ (fun e=>Stmt.Expr.elim (motive_2:=fun x=>xExprS x k=true→C x) x e f) h
noncomputable def xRet1 (x:Stmt) (k:Option Expr→Bool):Bool:=if h:x.ctorIdx=3 then Stmt.Return.elim (motive_2:=fun _=>Bool) x h fun v _=>k v else false
@[elab_as_elim] theorem wo {x:Stmt} {k:Option Expr→Bool} {C:Stmt→Prop} (h:xRet1 x k=true) (f:∀ (v:Option Expr) (p:Pos),k v=true→C (.Return v p)):C x:=cZ (fun e=>Stmt.Return.elim (motive_2:=fun x=>xRet1 x k=true→C x) x e f) h
noncomputable def xIfS (x:Stmt) (k:Expr→List Stmt→List Stmt→Bool):Bool:=if h:x.ctorIdx=12 then Stmt.If.elim (motive_2:=fun _=>Bool) x h fun t b o _=>k t b o else false
@[elab_as_elim] theorem ze {x:Stmt} {k:Expr→List Stmt→List Stmt→Bool} {C:Stmt→Prop} (h:xIfS x k=true) (f:∀ (t:Expr) (b:List Stmt) (o:List Stmt) (p:Pos),k t b o=true→C (.If t b o p)):C x:=cZ (fun e=>Stmt.If.elim (motive_2:=fun x=>xIfS x k=true→C x) x e f) h
noncomputable def xWhl1 (x:Stmt) (k:Expr→List Stmt→List Stmt→Bool):Bool:=if h:x.ctorIdx=11 then Stmt.While.elim (motive_2:=fun _=>Bool) x h fun t b o _=>k t b o else false
@[elab_as_elim] theorem wl {x:Stmt} {k:Expr→List Stmt→List Stmt→Bool} {C:Stmt→Prop} (h:xWhl1 x k=true) (f:∀ (t:Expr) (b:List Stmt) (o:List Stmt) (p:Pos),k t b o=true→C (.While t b o p)):C x:=cZ (fun e=>Stmt.While.elim (motive_2:=fun x=>xWhl1 x k=true→C x) x e f) h
noncomputable def xFor4 (x:Stmt) (k:Expr→Expr→List Stmt→List Stmt→Bool):Bool:=if h:x.ctorIdx=9 then Stmt.For.elim (motive_2:=fun _=>Bool) x h fun t i b o _=>k t i b o else false
@[elab_as_elim] theorem wu {x:Stmt} {k:Expr→Expr→List Stmt→List Stmt→Bool} {C:Stmt→Prop} (h:xFor4 x k=true) (f:∀ (t:Expr) (i:Expr) (b:List Stmt) (o:List Stmt) (p:Pos),k t i b o=true→C (.For t i b o p)):C x:=cZ (fun e=>Stmt.For.elim (motive_2:=fun x=>xFor4 x k=true→C x) x e f) h
noncomputable def xTry4 (x:Stmt) (k:List Stmt→List ExceptHandler→List Stmt→List Stmt→Bool):Bool:=if h:x.ctorIdx=17 then Stmt.Try.elim (motive_2:=fun _=>Bool) x h fun b c o g _=>k b c o g else false
@[elab_as_elim] theorem wn {x:Stmt} {k:List Stmt→List ExceptHandler→List Stmt→List Stmt→Bool} {C:Stmt→Prop} (h:xTry4 x k=true) (f:∀ (b:List Stmt) (c:List ExceptHandler) (o:List Stmt) (g:List Stmt) (p:Pos),k b c o g=true→C (.Try b c o g p)):C x:=cZ (fun e=>Stmt.Try.elim (motive_2:=fun x=>xTry4 x k=true→C x) x e f) h
noncomputable def xBrk (x:Stmt) (k:Pos→Bool):Bool:=if h:x.ctorIdx=26 then Stmt.Break.elim (motive_2:=fun _=>Bool) x h fun p=>k p else false
@[elab_as_elim] theorem zf {x:Stmt} {k:Pos→Bool} {C:Stmt→Prop} (h:xBrk x k=true) (f:∀ (p:Pos),k p=true→C (.Break p)):C x:=cZ (fun e=>Stmt.Break.elim (motive_2:=fun x=>xBrk x k=true→C x) x e f) h
noncomputable def xCont (x:Stmt) (k:Pos→Bool):Bool:=if h:x.ctorIdx=27 then Stmt.Continue.elim (motive_2:=fun _=>Bool) x h fun p=>k p else false
@[elab_as_elim] theorem wv {x:Stmt} {k:Pos→Bool} {C:Stmt→Prop} (h:xCont x k=true) (f:∀ (p:Pos),k p=true→C (.Continue p)):C x:=cZ (fun e=>Stmt.Continue.elim (motive_2:=fun x=>xCont x k=true→C x) x e f) h
noncomputable def xRet (x:Stmt) (k:Expr→Bool):Bool:=xRet1 x fun v=>xSome v k
@[elab_as_elim] theorem zd {x:Stmt} {k:Expr→Bool} {C:Stmt→Prop} (h:xRet x k=true) (f:∀ v p,k v=true→C (.Return (some v) p)):C x:=wo h fun v p h=>fT h fun v h=>f v p h
noncomputable def xWhl (x:Stmt) (k:Expr→List Stmt→Bool):Bool:=xWhl1 x fun t b o=>x0 o&&k t b
@[elab_as_elim] theorem zc {x:Stmt} {k:Expr→List Stmt→Bool} {C:Stmt→Prop} (h:xWhl x k=true) (f:∀ t b p,k t b=true→C (.While t b [] p)):C x:=wl h fun t b o p h=>x0A h fun h=>f t b p h
noncomputable def xFor (x:Stmt) (k:Expr→Expr→List Stmt→Bool):Bool:=xFor4 x fun t i b o=>x0 o&&k t i b
@[elab_as_elim] theorem oy {x:Stmt} {k:Expr→Expr→List Stmt→Bool} {C:Stmt→Prop} (h:xFor x k=true) (f:∀ t i b p,k t i b=true→C (.For t i b [] p)):C x:=wu h fun t i b o p h=>x0A h fun h=>f t i b p h
noncomputable def xTry (x:Stmt) (k:List Stmt→List ExceptHandler→List Stmt→Bool):Bool:=xTry4 x fun b c o g=>x0 o&&k b c g
@[elab_as_elim] theorem ox {x:Stmt} {k:List Stmt→List ExceptHandler→List Stmt→Bool} {C:Stmt→Prop} (h:xTry x k=true) (f:∀ b c g p,k b c g=true→C (.Try b c [] g p)):C x:=wn h fun b c o g p h=>x0A h fun h=>f b c g p h
noncomputable def xHand (x:ExceptHandler) (k:Expr→List Stmt→Bool):Bool:=match x with
 | .ExceptHandler t n b _=>xNone n&&xSome t fun t=>k t b
@[elab_as_elim] theorem wt {x:ExceptHandler} {k:Expr→List Stmt→Bool} {C:ExceptHandler→Prop} (h:xHand x k=true) (f:∀ t b p,k t b=true→C (.ExceptHandler (some t) none b p)):C x:=by
 obtain⟨t,n,b,p⟩:=x
 exact xNoneA (o:=n) h fun h=>fT h fun t h=>f t b p h
set_option backward.match.sparseCases false in
noncomputable def noComp:Expr→Bool
 | .ListComp ..=>false
 | .SetComp ..=>false
 | .DictComp ..=>false
 | _=>true
theorem hY {x:Expr} {t:Option Expr} {l:Nat} {env:Env} (h:noComp x=true):swapsWith x t l env=pure false:=by
 cases x<;>first | rfl | exact nomatch h
set_option backward.match.sparseCases false in
noncomputable def noTup:Expr→Bool
 | .Tuple ..=>false
 | _=>true
theorem sI {ts:List Expr} {k:Nat} {pt:Pos} {v:Expr} {env:Env} (h:noTup v=true):swappedStores [.Tuple ts k pt] v env=pure none:=by
 cases v<;>first | rfl | exact nomatch h
noncomputable def swaps (p:P) (scope:Scope) (t:Str) (np cp:Pos):Bool:=
 (p.kinds.lookup t == some .local)&&((np.line == cp.line)&&!(scope.names.any fun (n,k)=>n == t&&(k == .local||k == .cell)))
theorem qj {p:P} {d:D} {scope:Scope} {t:Str} {np cp:Pos} {elt:Expr} {gs:List Comprehension} {l:Nat} (hE:EnvOk p d) (h:swaps p scope t np cp=true):swapsWith (.ListComp elt gs scope cp) (some (.Name t np)) l d.env=pure true:=by
 obtain⟨h1,h⟩:=cE h
 obtain⟨h2,h3⟩:=cE h
 have hk:d.env.kindOf t=some .local:=by unfold c8;rw [hE.kinds];exact eq_of_beq h1
 have hb:d.env.blockKind = .function:=by unfold Env.blockKind;rw [hE.fn];rfl
 show (pure (d.env.blockKind == .function&&d.env.kindOf t == some .local&&np.line == cp.line&&!(scope.names.any fun (n,k)=>n == t&&(k == .local||k == .cell))):Sem Bool)=_
 rw [hb,hk,h2,h3]
 rfl
noncomputable def swaps2 (p:P) (a b:Str) (pa pb:Pos) (x y:Expr):Bool:=
 (p.kinds.lookup a == some .local)&&((p.kinds.lookup b == some .local)&&((pb.line == pa.line)&&(!(b == a)&&(noStar x&&(noStar y&&(!([x,y].all (foldedForSure 8))&&!([x,y].all (constantsAlone 8))))))))
noncomputable def isStar:Expr→Bool
 | .Starred ..=>true
 | _=>false
theorem nQ {x:Expr} (h:noStar x=true):isStar x=false:=by
 cases x<;>first | rfl | exact nomatch h
theorem nt {b:Bool} (h:b=false):¬b=true:=fun q=>nomatch h.symm.trans q
theorem uU {p:P} {d:D} {a b:Str} {pa pb pt px:Pos} {k kx:Nat} {x y:Expr} (hE:EnvOk p d) (h:swaps2 p a b pa pb x y=true) :
  swappedStores [.Tuple [.Name a pa,.Name b pb] k pt] (.Tuple [x,y] kx px) d.env=pure (some [a,b]):=by
 obtain⟨h1,h⟩:=cE h
 obtain⟨h2,h⟩:=cE h
 obtain⟨h3,h⟩:=cE h
 obtain⟨h4,h⟩:=cE h
 obtain⟨h5,h⟩:=cE h
 obtain⟨h6,h⟩:=cE h
 obtain⟨h7,h8⟩:=cE h
 have hk:d.env.kindOf a=some .local:=by unfold c8;rw [hE.kinds];exact eq_of_beq h1
 have hk':d.env.kindOf b=some .local:=by unfold c8;rw [hE.kinds];exact eq_of_beq h2
 have hb:d.env.blockKind = .function:=by unfold Env.blockKind;rw [hE.fn];rfl
 have hst:(isStar x||(isStar y||false))=false:=by
  rw [nQ h5,nQ h6];rfl
 have hd:[a,b].eraseDups=[a,b]:=by
  have e:List.filter (fun b=>!b == a) [b]=[b]:=bH (p:=fun b=>!b == a) h4
  rw [List.eraseDups_cons,e]
  rfl
 unfold swappedStores
 dsimp only
 refine Eq.trans (if_neg fun q=>?_) (Eq.trans (if_neg (nt hst)) ?_)
 ·rw [hb] at q;exact nomatch q
 generalize hn:List.filterMap _ [Expr.Name a pa,Expr.Name b pb]=names
 have hf:names=[a,b]:=by
  rw [←hn,pR (b:=a),pR (b:=b)]
  ·rfl
  ·show (if (d.env.kindOf b == some NameKind.local&&pb.line == pa.line)=true then some b else none)=_
   rw [hk',h3];rfl
  ·show (if (d.env.kindOf a == some NameKind.local&&pa.line == pa.line)=true then some a else none)=_
   rw [hk,beq_self_eq_true pa.line];exact if_pos rfl
 subst hf
 refine Eq.trans (if_neg fun q=>?_) (Eq.trans (if_neg (nt (dg h7))) (Eq.trans (if_neg (nt (dg h8))) rfl))
 rw [hd] at q
 exact nomatch q
end
noncomputable abbrev set0 (b:Bool):Obj:={ cls:=.type "set",dict:=none,data:=.set #[] 0 (.fresh 0 0 b),slots:=#[] }
noncomputable abbrev T1 (b:Bool):SetTable:={ mask:=7,place:=#[1],dummies:=#[],finger:=0,led:=b,moves:=0,plain:=true }
noncomputable abbrev set1 (b:Bool):Obj:={ cls:=.type "set",dict:=none,data:=.set #[(1,.bool true)] 1 (T1 b),slots:=#[] }
section
variable {prog:Program} {w:World} {A:Around} {E:Value→Shared→Prop} {s:Shared}
theorem nZ {Q:Int→Shared→Prop} (h:Q 1 { s with toks:=s.toks+1 }):wpAny (model prog w) A (pyHash (.bool true)) Q E s:=by
 have hT:s.TypeIs (.bool true) "bool":=rfl
 unfold pyHash
 have hv:[Value.bool true].any Value.onHeap=false:=rfl
 refine wpAny_bind ?_
 rw [cRoomFor,if_neg (by rw [hv];exact aA)];refine wpAny_pure ?_
 refine wpAny_bind (wpAny_specialOf hT F.slot_bool_hash.lookup ?_)
 show wpAny _ _ (if (some (Value.builtin "int.__hash__") == some Value.none)=true then _ else _) Q E s
 rw [if_neg (by rw [beq_builtin_none];exact aA)]
 refine wpAny_bind (wpAny_specialOf hT F.slot_bool_hash.lookup ?_)
 show wpAny _ _ (callSpecialIfBoundUnlessNone? (.bool true) "__hash__" _ >>= _) Q E s
 refine wpAny_bind (wpAny_callSpecialIfBoundUnlessNone?_slot hT F.slot_bool_hash
  (wpAny_call_entry F.slot_bool_hash hT entry_int_hash
   (show wpAny _ _ (do ret (← mkInt (rawHash 1))) _ _ s from wpAny_ret_mkInt ?_) (args_int_hash _)))
 show wpAny _ _ (if (decide (-(2:Int) ^ 63≤rawHash 1)&&decide (rawHash 1 < 2 ^ 63))=true then _ else _) Q E _
 rw [if_pos (by decide +kernel)]
 exact wpAny_pure h
theorem pz {Q:Bool→Shared→Prop} (h:Q true s):wpAny (model prog w) A (eqBool (.bool true) (.bool true)) Q E s:=by
 unfold eqBool
 refine wpAny_holding ?_
 rw [if_pos (beq_self_eq_true _)]
 exact wpAny_bind (wpAny_rule (wpAny_pure h))
theorem Cp {a:Addr} {o:Obj} {es:Array (Int×Value)} {ep:Nat} {t:SetTable} {Q:(Array (Int×Value)×Nat×SetTable)→Shared→Prop} (ho:s.heap.get? a=some o) (hd:o.data = .set es ep t) (hf:t.fits es.size=true) (h:Q (es,ep,t) s) :
  wpAny (model prog w) A (setState a) Q E s:=wpAny_setState_of ho hd hf h
theorem lay1 (b:Bool):layNew (.fresh 0 0 b) #[] 1 (.bool true)=(#[(1,.bool true)],T1 b,false,false):=by cases b<;>kernel_rfl
theorem vX {D:Addr} {b:Bool} {Q:Value→Shared→Prop} (ho:s.heap.get? D=some (set0 b))
  (h:∀ h',h'.get? D=some (set1 b)→bk D s.heap h'→Q .none { s with heap:=h',toks:=s.toks+1 }):wpAny (model prog w) A (call (.builtin "set.add") [.ref D,.bool true]) Q E s:=by
 refine wpAny_call_entry F.slot_set_add ⟨_,ho,rfl⟩ F.entry_set_add ?_ (F.args_set_add_2 _ _)
 unfold Builtin.«set.add» Builtin.Frozenset.oneOther
 simp only [et,bind_assoc]
 unfold Builtin.Frozenset.addrOf setAdd
 refine wpAny_bind (wpAny_pure ?_)
 try dsimp only
 refine wpAny_bind (wpAny_pure ?_)
 try dsimp only
 refine wpAny_bind (wpAny_holding (wpAny_bind (nZ ?_)))
 unfold setAddHashed setAddHashedIn
 refine wpAny_holding ?_
 refine wpAny_bind (wpAny_setState_of (s:={ s with toks:=s.toks+1 }) ho rfl (by cases b<;>rfl) ?_)
 try dsimp only
 rw [if_pos (show byScan (.bool true) #[]=true by kernel_rfl)]
 refine wpAny_bind ?_
 unfold setAddByScan
 refine wpAny_bind (wpAny_rule (wpAny_bind (wpAny_pure ?_)))
 try dsimp only
 refine wpAny_bind (wpAny_pure ?_)
 rw [lay1]
 try dsimp only
 refine wpAny_bind (wpAny_pure ?_)
 rw [if_pos (show true=true from rfl)]
 refine wpAny_bind (wpAny_storeSet_of (s:={ s with toks:=s.toks+1 }) ho rfl ?_ (show 1≤sizeLine by rw [sizeLine_eq];decide))
 rw [if_neg (show ¬((!false&&(T1 b).tooFull)=true) by cases b<;>decide)]
 refine wpAny_pure (wpAny_pure (wpAny_pure ⟨_,rfl,h _ ?_ (Heap.SameBut.update ..)⟩))
 exact bD _ ho rfl
theorem vY {D:Addr} {b:Bool} {Q:Value→Shared→Prop} (ho:s.heap.get? D=some (set1 b)) (h:Q .none { s with toks:=s.toks+1 }):wpAny (model prog w) A (call (.builtin "set.add") [.ref D,.bool true]) Q E s:=by
 refine wpAny_call_entry F.slot_set_add ⟨_,ho,rfl⟩ F.entry_set_add ?_ (F.args_set_add_2 _ _)
 unfold Builtin.«set.add» Builtin.Frozenset.oneOther
 simp only [et,bind_assoc]
 unfold Builtin.Frozenset.addrOf setAdd
 refine wpAny_bind (wpAny_pure ?_)
 try dsimp only
 refine wpAny_bind (wpAny_pure ?_)
 try dsimp only
 refine wpAny_bind (wpAny_holding (wpAny_bind (nZ ?_)))
 unfold setAddHashed setAddHashedIn
 refine wpAny_holding ?_
 refine wpAny_bind (wpAny_setState_of (s:={ s with toks:=s.toks+1 }) ho rfl (by cases b<;>rfl) ?_)
 try dsimp only
 rw [if_pos (show byScan (.bool true) #[(1,.bool true)]=true by kernel_rfl)]
 refine wpAny_bind ?_
 unfold setAddByScan
 refine wpAny_bind (wpAny_rule (wpAny_bind ?_))
 show wpAny _ _ (setScanFrom D (.bool true) 1 true [(1,.bool true)] 0) _ _ _
 unfold setScanFrom
 rw [if_pos (show ((1:Int) == 1)=true from rfl)]
 refine wpAny_bind (wpAny_setEpoch_of (s:={ s with toks:=s.toks+1 }) ho rfl (by cases b<;>rfl) ?_)
 refine wpAny_bind (pz ?_)
 exact wpAny_pure (wpAny_pure (wpAny_pure (wpAny_pure ⟨_,rfl,h⟩)))
theorem z4 {Q:Value→Shared→Prop} (h:Q (.ref s.heap.objs.size) { s with heap:=s.heap.push (set0 (!(w.params.followText "set-order"))) }):wpAny (model prog w) A (newSet (.type "set")) Q E s:=by
 unfold newSet setsByText
 refine wpAny_bind (wpAny_bind (wpAny_askSetting (wpAny_pure ?_)))
 exact wpAny_newObj_type h
end
theorem mv:entryFor table "set.__iter__"=some Builtin.«frozenset.__iter__»:=
 entryFor_alias (id':="frozenset.__iter__") (by kernel_rfl) rfl (by decide +kernel) (by kernel_rfl)
theorem i8:Manifest.owners.lookup (String.ofList ['r','o','t','a','r','e','t','i','_','t','e','s'].reverse)=some Manifest.sig_set_iterator:=by kernel_rfl
theorem bW:Slot "set_iterator" "__next__" "set_iterator.__next__":=
 .of (owner:="set_iterator") (n:="__next__") (by rw [typeLookup_type,builtinLookup_eq_fast];kernel_rfl) (by decide +kernel) (by decide +kernel) (by decide +kernel) (.inl (by decide +kernel)) (by rw [isSubtype_type];kernel_rfl)
theorem dB:entryFor table "set_iterator.__next__"=some Builtin.«set_iterator.__next__»:=entryFor_of_tree (by kernel_rfl)
theorem dI (a:Value):argsOk "set_iterator.__next__" ⟨[a],[]⟩:=by
 unfold argsOk;rw [signature?_of (id:="set_iterator.__next__") (n:=['_','_','t','x','e','n','_','_']) (o:=['r','o','t','a','r','e','t','i','_','t','e','s']) (by kernel_rfl) i8];kernel_rfl
noncomputable abbrev setIt (first i:Nat) (s:Value):Obj:={ cls:=.type "set_iterator",dict:=none,data:=.fields #[rawInt first,rawInt i,s,rawInt 1,rawInt 1],slots:=#[] }
theorem fK {α:Type} {M:Model} {A:Around} {c:Prop} [Decidable c] {t e:Sem α} {Q:α→Shared→Prop} {E:Value→Shared→Prop} {s:Shared} (h:¬c) (k:wpAny M A e Q E s):wpAny M A (ite c t e) Q E s:=by rw [if_neg h];exact k
theorem oB {α:Type} {M:Model} {A:Around} {c:Prop} [Decidable c] {t e:Sem α} {Q:α→Shared→Prop} {E:Value→Shared→Prop} {s:Shared} (h:c) (k:wpAny M A t Q E s):wpAny M A (ite c t e) Q E s:=by rw [if_pos h];exact k
theorem pick1 {α:Type} (f:Nat→Nat) (x:α):pickOrder f #[x]=#[x]:=by
 show pickOrder.go f 1 0 [x] #[]=_
 unfold pickOrder.go
 rw [show f 0 % [x].length=0 from Nat.mod_one _]
 rfl
section
variable {prog:Program} {w:World} {A:Around} {E:Value→Shared→Prop} {s:Shared}
theorem xV {D:Addr} {b:Bool} {Q:Value→Shared→Prop} (ho:s.heap.get? D=some (set1 b)) (h:Q (.ref s.heap.objs.size) { s with heap:=s.heap.push (setIt 0 0 (.ref D)) }):wpAny (model prog w) A (pyIter (.ref D)) Q E s:=by
 have hT:s.TypeIs (.ref D) "set":=⟨_,ho,rfl⟩
 refine wpAny_pyIter_slot hT F.slot_set_iter (wpAny_call_entry F.slot_set_iter hT mv ?_ (F.args_set_iter_1 _))
 unfold Builtin.«frozenset.__iter__» Builtin.Frozenset.slot0 slotArgs
 simp only [et,pS,be,↓reduceIte,bind_assoc,mJ,bne_self_eq_false]
 unfold Builtin.Frozenset.addrOf Builtin.Frozenset.sizeOf
 refine wpAny_bind (wpAny_pure ?_)
 try dsimp only
 refine wpAny_bind (wpAny_pure ?_)
 refine wpAny_bind (wpAny_bind (wpAny_setEntries_of ho rfl (by cases b<;>rfl) (wpAny_pure ?_)))
 unfold setDrawn
 refine wpAny_bind (wpAny_bind (wpAny_setState_of ho rfl (by cases b<;>rfl) ?_))
 unfold setsByText
 refine wpAny_bind (wpAny_bind (wpAny_askSetting (wpAny_pure (wpAny_pure ?_))))
 refine fK (fun q=>absurd (cI.mp q).2 aA) ?_
 refine wpAny_bind (wpAny_pure (wpAny_bind (wpAny_setEpoch_of ho rfl (by cases b<;>rfl) (wpAny_bind (wpAny_newObj_type ?_)))))
 exact wpAny_pure ⟨_,rfl,"set_iterator",_,⟨_,ao _ rfl,rfl⟩,bW.lookup,h⟩
theorem xu {D I:Addr} {Q:Option Value→Shared→Prop} (ho:s.heap.get? D=some (set1 (!(w.params.followText "set-order")))) (hi:s.heap.get? I=some (setIt 0 0 (.ref D)))
  (h:∀ h' j,h'.get? I=some (setIt j 1 (.ref D))→((w.params.followText "set-order"=true∧j=0)∨(w.params.followText "set-order"=false∧j=2))→bk I s.heap h'→Q (some (.bool true)) { s with heap:=h' }):wpAny (model prog w) A (pyNext (.ref I)) Q E s:=by
 have hT:s.TypeIs (.ref I) "set_iterator":=⟨_,hi,rfl⟩
 unfold pyNext
 refine wpAny_bind (wpAny_attempt (wpAny_callSpecial?_slot (name:=bF "__next__") hT bW
  (wpAny_call_entry bW hT dB ?_ (dI _))))
 unfold Builtin.«set_iterator.__next__» slotArgs
 dsimp only [et,pS,mJ]
 refine wpAny_bind (wpAny_pure ?_)
 try dsimp only
 refine wpAny_bind (wpAny_fieldsOf hi rfl ?_)
 show wpAny _ _ (setEntries D >>= _) _ _ _
 refine wpAny_bind (wpAny_setEntries_of ho rfl (by cases w.params.followText "set-order"<;>rfl) ?_)
 rw [if_neg (show ¬((((#[((1:Int),Value.bool true)]:Array (Int×Value)).size:Nat):Int) != 1)=true by decide)]
 show wpAny _ _ (setNext D 0 0 1 >>= _) _ _ _
 have key:∀ j:Nat,((w.params.followText "set-order"=true∧j=0)∨(w.params.followText "set-order"=false∧j=2))→wpAny (model prog w) A.in1 (do setField (.ref I) 0 (rawInt j);setField (.ref I) 1 (rawInt (0+1));ret (.bool true)) (fun fin s'=>∃ v,fin=Fin.done (Flow.ret v)∧wpAny (model prog w) A (pure (some v)) Q E s') (fun _ _=>False) s:=by
  intro j hj
  refine wpAny_bind (wpAny_setField_rec hi (by simp) fun h₁ hi₁ hs₁=>?_)
  refine wpAny_bind (wpAny_setField_rec (s:={ s with heap:=h₁ }) hi₁ (by simp) fun h₂ hi₂ hs₂=>?_)
  exact wpAny_pure ⟨_,rfl,wpAny_pure (h h₂ j hi₂ hj (hs₁.trans hs₂))⟩
 unfold setNext setsByText
 refine wpAny_bind (wpAny_bind (wpAny_setState_of ho rfl (by cases w.params.followText "set-order"<;>rfl) ?_))
 dsimp only
 refine wpAny_bind (wpAny_bind (wpAny_askSetting (wpAny_pure ?_)))
 cases hB:w.params.followText "set-order" with
 | true=>
  refine (oB hB (fK (show ¬((1:Nat) != 1)=true by decide) ?_))
  refine wpAny_bind ?_
  unfold setWalk setsByText
  refine wpAny_bind (wpAny_setState_of ho rfl (by cases w.params.followText "set-order"<;>rfl) ?_)
  dsimp only
  refine wpAny_bind (wpAny_bind (wpAny_askSetting (wpAny_pure (oB hB (wpAny_bind (wpAny_askSetting (wpAny_pure (wpAny_pure ?_))))))))
  rw [pick1]
  exact wpAny_mono (key 0 (.inl ⟨hB,rfl⟩)) (fun _ _ z=>z) fun _ _ z=>z.elim
 | false=>
  refine (fK (nt hB) (fK aA (wpAny_bind (fK ?_ (wpAny_pure ?_)))))
  ·exact aA
  ·exact wpAny_pure (wpAny_mono (key 2 (.inr ⟨hB,rfl⟩)) (fun _ _ z=>z) fun _ _ z=>z.elim)
theorem zU {D I:Addr} {j:Nat} {Q:Option Value→Shared→Prop} (hh:A.handled=none) (ho:s.heap.get? D=some (set1 (!(w.params.followText "set-order")))) (hi:s.heap.get? I=some (setIt j 1 (.ref D)))
  (hj:(w.params.followText "set-order"=true∧j=0)∨(w.params.followText "set-order"=false∧j=2)) (h:∀ h',mI I s.heap h'→Q none { s with heap:=h' }):wpAny (model prog w) A (pyNext (.ref I)) Q E s:=by
 have hT:s.TypeIs (.ref I) "set_iterator":=⟨_,hi,rfl⟩
 unfold pyNext
 refine wpAny_bind (wpAny_attempt (wpAny_callSpecial?_slot (name:=bF "__next__") hT bW
  (wpAny_call_entry bW hT dB ?_ (dI _))))
 unfold Builtin.«set_iterator.__next__» slotArgs
 dsimp only [et,pS,mJ]
 refine wpAny_bind (wpAny_pure ?_)
 try dsimp only
 refine wpAny_bind (wpAny_fieldsOf hi rfl ?_)
 show wpAny _ _ (setEntries D >>= _) _ _ _
 refine wpAny_bind (wpAny_setEntries_of ho rfl (by cases w.params.followText "set-order"<;>rfl) ?_)
 rw [if_neg (show ¬((((#[((1:Int),Value.bool true)]:Array (Int×Value)).size:Nat):Int) != 1)=true by decide)]
 show wpAny _ _ (setNext D j 1 1 >>= _) _ _ _
 have key:wpAny (model prog w) A.in1 (do setField (.ref I) 2 .none;raiseNew (← newExc (.type "StopIteration") [])) (fun (_:Fin) _=>False) (fun e s'=>wpAny (model prog w) A (do if ← isInstance e (.type "StopIteration") then pure none else throw e) Q E s') s:=by
  refine wpAny_bind (wpAny_setField hi rfl (show 2 < 5 by decide) ?_)
  show wpAny _ _ (newExc (.type "StopIteration") [] >>= _) _ _ _
  refine wpAny_bind ?_
  simp only [newExc,newTuple]
  refine wpAny_bind (wpAny_newObj_type ?_ (by size_fits))
  refine wpAny_bind (m:=firstArgMember _ _) (wpAny_of_eq (a:=Value.none) (by first | rfl | (simp only [firstArgMember];rfl)) ?_)
  refine wpAny_newObj_type ?_ (by size_fits)
  simp only [raiseNew]
  refine wpAny_bind (wpAny_handled ?_)
  rw [show A.in1.handled=none from hh]
  refine wpAny_bind (wpAny_pure (wpAny_throw ?_))
  refine wpAny_bind (wpAny_isInstance (T:="StopIteration") (b:=true) ⟨_,ao _ rfl,rfl⟩ isSubtype_stop ?_)
  exact wpAny_pure (h _ (((Heap.SameBut.update ..).extBut.push _).push _))
 unfold setNext setsByText
 refine wpAny_bind (wpAny_bind (wpAny_setState_of ho rfl (by cases w.params.followText "set-order"<;>rfl) ?_))
 dsimp only
 refine wpAny_bind (wpAny_bind (wpAny_askSetting (wpAny_pure ?_)))
 cases hB:w.params.followText "set-order" with
 | true=>
  refine (oB hB (fK (show ¬((1:Nat) != 1)=true by decide) ?_))
  refine wpAny_bind ?_
  unfold setWalk setsByText
  refine wpAny_bind (wpAny_setState_of ho rfl (by cases w.params.followText "set-order"<;>rfl) ?_)
  dsimp only
  refine wpAny_bind (wpAny_bind (wpAny_askSetting (wpAny_pure (oB hB (wpAny_bind (wpAny_askSetting (wpAny_pure (wpAny_pure ?_))))))))
  rw [pick1]
  exact wpAny_mono key (fun _ _ z=>z.elim) fun _ _ z=>z
 | false=>
  obtain rfl:j=2:=by
   rcases hj with ⟨h1,_⟩ | ⟨_,hj⟩
   ·exact nomatch h1.symm.trans hB
   ·exact hj
  refine (fK (nt hB) (fK aA (wpAny_bind (fK ?_ (wpAny_pure ?_)))))
  ·exact aA
  ·exact wpAny_pure (wpAny_mono key (fun _ _ z=>z.elim) fun _ _ z=>z)
end
section
variable {prog:Program} {w:World} {A:Around} {E:Value→Shared→Prop} {R:Result→Shared→Prop} {s:Shared}
theorem rX {D:Addr} {Q:List Value→Shared→Prop} (hh:A.handled=none) (ho:s.heap.get? D=some (set1 (!(w.params.followText "set-order"))))
  (hQ:∀ h',mI s.heap.objs.size s.heap h'→Q [.bool true] { s with heap:=h' }):wpAny (model prog w) A (unpackItems (.ref D) 1 none) Q E s:=by
 have hlt:D≠s.heap.objs.size:=aP (au ho)
 have hT:s.TypeIs (.ref D) "set":=⟨_,ho,rfl⟩
 unfold unpackItems
 refine wpAny_bind ?_
 unfold notIterableAtAll
 refine wpAny_bind (wpAny_specialOf hT F.slot_set_iter.lookup ?_)
 refine wpAny_pure ?_
 rw [if_neg aA]
 refine wpAny_bind (wpAny_holding (xV ho ?_))
 have ho1:(s.heap.push (setIt 0 0 (.ref D))).get? D=some (set1 (!(w.params.followText "set-order"))):=af _ ho
 refine wpAny_bind (wpAny_holding ?_)
 show wpAny _ _ (pyNext (.ref s.heap.objs.size) >>= _) _ _ _
 refine wpAny_bind (xu (s:={ s with heap:=s.heap.push (setIt 0 0 (.ref D)) }) ho1 (ao _ rfl) fun h₁ j hi₁ hj hs₁=>?_)
 refine wpAny_bind (wpAny_holding (wpAny_pure (wpAny_pure ?_)))
 rw [if_neg (show ¬([Value.bool true].length < 1) by decide)]
 have ho2:h₁.get? D=some (set1 (!(w.params.followText "set-order"))):=(hs₁.2 D hlt).trans ho1
 refine wpAny_bind (wpAny_holding (zU (s:={ s with heap:=h₁ }) hh ho2 hi₁ hj fun h₂ he₂=>?_))
 rw [if_neg (show ¬((none:Option Value).isSome=true) from aA)]
 exact wpAny_pure (hQ h₂ fun b o hb e=>he₂ b o hb ((hs₁.2 b hb).trans (af _ e)))
theorem pC (elt target iter:Expr) (ifs:List Expr) (scope:Scope) (pos:Pos) (it acc:Value) (env:Env) :
  compTurn (.SetComp elt [⟨target,iter,ifs,0⟩] scope pos) 0 it acc env=(do
   standAt iter.pos
   match ← pyNext it with
   | none=>pure (.done .next)
   | some v=>
    letOwnedTupleGo target it v
    assign target env v
    let mut ok:=true
    for c in ifs do
     if ok then ok ← isTrue c env (eval c env)
    if ok then
     (do let v ← eval elt env;standAt elt.pos;let _ ← call (.builtin "set.add") [acc,v])
    again (.compLoop (.SetComp elt [⟨target,iter,ifs,0⟩] scope pos) 0 it acc env)):=by rfl
theorem loopS {elt iter:Expr} {y:Str} {px pos:Pos} {ifs:List Expr} {sc:Scope}:LoopOk prog w A "set.add" (.SetComp elt [⟨.Name y px,iter,ifs,0⟩] sc pos) elt y px ifs:=fun env It D J R n s turn h=>by
 refine codeAny_loop rfl J (fun n s hI=>?_) n h
 show wpAny _ A ((compTurn (.SetComp elt [⟨.Name y px,iter,ifs,0⟩] sc pos) 0 (.ref It) (.ref D) env).onRaise (fun x=>do noteFrame x env;theTreesLotGoes x)) _ _ s
 refine wpAny_noted ?_
 rw [pC]
 refine wpAny_bind (wpAny_standAt (wpAny_bind (wpAny_mono (turn n s hI) (fun r s₁ h₁=>?_) fun _ _ h'=>h')))
 cases r with
 | none=>exact wpAny_pure h₁
 | some v=>
  refine wpAny_bind (wpAny_of_eq (a:=()) rfl ?_)
  refine wpAny_bind (wpAny_mono h₁ (fun _ s₂ h₂=>wpAny_bind (wpAny_mono h₂ (fun ok s₃ h₃=>?_) fun _ _ h'=>h')) fun _ _ h'=>h')
  cases ok with
  | false=>exact wpAny_pure ⟨rfl,h₃⟩
  | true=>
   exact wpAny_bind (wpAny_bind (wpAny_mono h₃ (fun x s₄ h₄=>wpAny_bind (wpAny_standAt (wpAny_bind (wpAny_mono h₄ (fun _ s₅ h₅=>wpAny_pure (wpAny_pure ⟨rfl,h₅⟩)) fun _ _ h'=>h')))) fun _ _ h'=>h'))
theorem startS {elt iter:Expr} {y:Str} {px pos:Pos} {ifs:List Expr} {sc:Scope}:StartOk prog w A (.SetComp elt [⟨.Name y px,iter,ifs,0⟩] sc pos):=fun env it acc R s h0 h=>by
 refine codeAny_of_tree ?_
 show wpAny _ _ ((compStart (.SetComp elt (⟨.Name y px,iter,ifs,0⟩::[]) sc pos) 0 it acc env).onRaise (fun x=>do noteFrame x env;standAt theWindowsPlace)) _ _ s
 refine wpAny_notedAt ?_
 unfold compStart
 show wpAny _ _ (ask >>= _) _ _ s
 refine wpAny_bind (wpAny_askSetting (wpAny_ite ?_))
 split
 ·first
   | exact wpAny_bind (wpAny_pure (wpAny_pure (And.intro rfl h0)))
   | exact wpAny_pure (And.intro rfl h0)
 ·first
   | exact wpAny_bind (wpAny_rule (wpAny_bind (wpAny_standAt (wpAny_bind (wpAny_mono h (fun it' s' h'=>wpAny_pure (And.intro rfl h')) fun _ _ x=>x)))))
   | (refine wpAny_bind (wpAny_rule ?_);show wpAny _ _ (standAt iter.pos >>= _) _ _ s;exact wpAny_bind (wpAny_standAt (wpAny_bind (wpAny_mono h (fun it' s' h'=>wpAny_pure (And.intro rfl h')) fun _ _ x=>x))))
def AccS (w:World) (D:Addr) (ρ:List Addr) (h:Heap) (l:List V):Prop:=h.get? D=some (match l with | []=>set0 (!(w.params.followText "set-order")) | _::_=>set1 (!(w.params.followText "set-order")))
theorem rJ {D:Addr} {ρ:List Addr} {h:Heap} {l:List V} (a:AccS w D ρ h l):∃ o es ep t,h.get? D=some o∧o.data = .set es ep t:=by
 cases l with
 | nil=>exact⟨_,_,_,_,a,rfl⟩
 | cons x l=>exact⟨_,_,_,_,a,rfl⟩
theorem accS {B:Heap} (D:Addr):AccOk prog w B "set.add" D (fun v=>v = .bool true) (AccS w D) where
 keep:=fun {ρ ρ' h h' W l} k _ _ n a=>by
  obtain⟨o,es,ep,t,e,hd⟩:=rJ a
  obtain⟨o',e',_,_,_,x⟩:=k.old D o e n
  rw [x (.set _ _ _ hd)] at e'
  exact e'.trans (e.symm.trans a)
 obj:=fun {ρ h l} a=>by
  obtain⟨o,es,ep,t,e,hd⟩:=rJ a
  exact⟨o,e,fun _ _ q=>(nomatch hd.symm.trans q),fun _ q=>(nomatch hd.symm.trans q),fun _ _ q=>(nomatch hd.symm.trans q),fun _ q=>(nomatch hd.symm.trans q)⟩
 add:=fun {A ρ s l r a Q E} acc hl hg ra h=>by
  subst hg
  obtain rfl:a = .bool true:=ra
  cases l with
  | nil=>exact vX acc fun h' e hs=>h h' _ hs e (bv _)
  | cons x l=>exact vY acc (h s.heap _ (.refl ..) acc (bv _))
theorem newS:NewOk prog w A (newSet (.type "set")) (AccS w):=fun ρ s Q E h=>z4 (h _ (ao _ rfl))
theorem vO {src:V} {tf:V→St→Res Bool} {ef:V→St→Res V} (k:Nat):∀ (i:Nat) (st st':St) (l:List V),compGo src (compG tf ef) k i st = .ok l st'→l.length≤k:=by
 induction k with
 | zero=>intro i st st' l h;cases h
 | succ k ih=>
  intro i st st' l h
  rcases d7 h with ⟨hn,rfl,rfl⟩ | ⟨u,ys,st2,zs,hn,hgx,hc',rfl⟩
  ·exact aD _
  ·obtain⟨b,st3,hg1,hg2⟩:=dk hgx
   have hz:=ih _ _ _ _ hc'
   have hy:ys.length≤1:=by
    cases b with
    | true=>obtain⟨r,st4,_,hg4⟩:=dk hg2;cases hg4;exact am _
    | false=>cases hg2;exact aD _
   rw [aa]
   grind
theorem yP {l:List V} (h:allT l=true):∀ v∈l,v = .bool true:=by
 induction l with
 | nil=>intro v q;cases q
 | cons x l ih=>
  cases x with
  | bool c=>
   obtain⟨h1,h2⟩:=cE h
   intro v q
   rcases az.mp q with q | q
   ·rw [q,h1]
   ·exact ih h2 v q
  | _=>exact nomatch h
end
section
variable {prog:Program} {w:World} {A:Around} {p:P} {d:D} {pos:Pos}
theorem zw {i k:Nat} {x y:Str} {px py tp:Pos} {elt iter:Expr} {scope:Scope} {cpos:Pos} {fi:St→Res V} {ef:V→St→Res V} (hE:EnvOk p d) (hp:(p.fnm.map (·.1)).Nodup) (hc:p.comp=none) (ho:okVar p i x=true)
  (hS:ScopeOk p scope y) (hA:A.handled=none) (hs:∀ x,foldedSetIterable iter d.env x=pure x) (hit:TE prog w A d none iter fi)
  (hEl:∀ C cl x,EnvOk (pcomp p scope y) (dcomp d scope C cl y)→TE prog w A (dcomp d scope C cl y) (some x) elt (ef x)) :
  TS prog w A d (.Assign [.Tuple [.Name x px] k tp] (.SetComp elt [⟨.Name y py,iter,[],0⟩] scope cpos) pos) fun st=>(fi st).bind fun u st=>(compGo u (fun y st=>(ef y st).bind fun r st=>.ok [r] st) FUEL 0 st).bind fun r st'=>oneTrue r (.ok .next (setVar { st' with fv:=st.fv } i (.bool true))):=fun ρ s st I=>by
 have hcl:=pD (scope:=scope) (env:=d.env) (gG hE hS I)
 refine ((hit ρ s st I).bind (F:=fun va Q E s=>wpAny (model prog w) A (pyIter va) (fun it s₂=>wpAny (model prog w) A (newSet (.type "set")) (fun acc s₃=>
  wpAny (model prog w) A (newFunctionEnv scope d.env.globals (clos d.env.cells scope.names []) [] d.env.qual none .none (some d.env)) (fun cenv s₄=>
   codeAny (model prog w) A (.compStart (.SetComp elt [⟨.Name y py,iter,[],0⟩] scope cpos) 0 it acc { cenv with scope:=relabel scope d.env }) (compPost (model prog w) A E none (fun u s=>wpAny (model prog w) A (assign (.Tuple [.Name x px] k tp) d.env u) (fun _ s=>Q Flow.next s) E s) acc cenv.locals) s₄) E s₃) E s₂) E s) fun u st1 va s1 ρ1 _ r1 p1=>?_).imp fun Q E h=>?_
 ·have I1:=p1.inv
  change TriP d ρ1 none s1 (RFl d) _ ((compGo u (compG (fun _ st=>.ok true st) ef) FUEL 0 st1).bind fun r st'=>oneTrue r (.ok .next (setVar { st' with fv:=st1.fv } i (.bool true))))
  cases hcg:compGo u (compG (fun _ st=>.ok true st) ef) FUEL 0 st1 with
  | bad=>exact .bad
  | ex st'=>exact absurd hcg (fI _ _ _ _)
  | ok full stF=>
   refine TriP.guard fun hg=>?_
   obtain⟨hg1,hg2⟩:=cE hg
   have hgood:=yP hg2
   obtain⟨fx,fl,hfx⟩:∃ a l,full=a::l:=by
    cases full with
    | nil=>exact nomatch hg1
    | cons a l=>exact⟨a,l,rfl⟩
   intro _ h0 Q E hQ _
   refine ke (R:=fun acc C=>compPost (model prog w) A E none (fun u s=>wpAny (model prog w) A (assign (.Tuple [.Name x px] k tp) d.env u) (fun _ s=>Q Flow.next s) E s) acc C) accS loopS startS newS hgood hE hS hA (fun C cl x ρ s st E' I=>mo ρ s st I) hEl I1 r1 h0 hcg (aj (vO _ _ _ _ _ hcg) (show FUEL≤LIM by decide)) fun D C s' ρ' m lowC lowD nDC nD a q hn=>⟨m,hn,fun h' hs'=>?_⟩
   have q':=q.dictOff I1 hn lowC hs'
   subst hfx
   have eD:h'.get? D=some (set1 (!(w.params.followText "set-order"))):=(hs'.2 D nDC).trans a
   show wpAny (model prog w) A (assign (.Tuple [.Name x px] k tp) d.env (.ref D)) _ E { s' with heap:=h' }
   rw [arm_assign_Tuple]
   refine wpAny_bind (wpAny_standAt ?_)
   unfold unpack
   refine wpAny_bind (wpAny_holding ?_)
   show wpAny _ _ (unpackItems (.ref D) 1 none) _ _ _
   refine cN (rX (s:={ s' with heap:=h' }) hA eD fun h2 he hsz=>?_)
   have up:∀ b o,h'.get? b=some o→h2.get? b=some o:=fun b o e=>he b o (aP (au e)) e
   have q2:=Post.grown (t:=s'.toks) q'.inv up hsz
   show wpAny _ A (do holding _ (assign (.Name x px) d.env (.bool true));assignInOrder [] []) _ E _
   refine wpAny_bind (wpAny_holding (wpAny_assign_Name (store0 hE hp hc ho q2.inv (.bool true) fun s3 q3 _=>wpAny_pure ?_)))
   exact hQ .next _ .next s3 ρ' rfl .next ((q'.trans q2).trans q3)
 ·have h':wpAny (model prog w) A (eval (.SetComp elt [⟨.Name y py,iter,[],0⟩] scope cpos) d.env) (fun u s=>wpAny (model prog w) A (assign (.Tuple [.Name x px] k tp) d.env u) (fun _ s=>Q Flow.next s) E s) E s:=by
   rw [arm_eval_SetComp]
   exact wpAny_comprehension_free (use:=none) rfl hs hcl hS.kind hS.loc h
  exact wpAny_Assign_stores (wpAny_mono h' (fun v s1 h1=>by
    show wpAny (model prog w) A (assignAll v [assign (.Tuple [.Name x px] k tp) d.env]) _ E s1
    first
     | exact h1
     | exact wpAny_bind (wpAny_mono h1 (fun _ _ z=>wpAny_pure z) fun _ _ e=>e)
     | exact wpAny_bind (wpAny_holding (wpAny_mono h1 (fun _ _ z=>wpAny_pure z) fun _ _ e=>e))) fun _ _ e=>e) rfl rfl
end
section
noncomputable def okNames (p:P):List Nat→List Expr→Bool
 | [],es=>x0 es
 | i::is,es=>xc es fun x xs=>xName x fun n _=>okVar p i n&&okNames p is xs
theorem ja {p:P} {is:List Nat}:∀ {es:List Expr},okNames p is es=true→NamesOk p is es:=by
 induction is with
 | nil=>exact fun h=>kn h rfl
 | cons i is ih=>exact fun h=>gV h fun x xs h=>bQ h fun n np h=>andC h fun h1 h2=>⟨n,np,xs,h1,ih h2,rfl⟩
noncomputable def asgName (p:P) (i:Nat) (x:Stmt) (k:Str→Pos→Expr→Bool):Bool:=xAssign x fun ts v=>x1 ts fun t=>xName t fun n np=>okVar p i n&&k n np v
@[elab_as_elim] theorem mF {p:P} {i:Nat} {x:Stmt} {k:Str→Pos→Expr→Bool} {C:Stmt→Prop} (h:asgName p i x k=true) (f:∀ n np v pos,okVar p i n=true→k n np v=true→C (.Assign [.Name n np] v pos)):C x:=
 i5 h fun ts v pos h=>dL h fun t h=>bQ h fun n np h=>andC h fun h1 h2=>f n np v pos h1 h2
noncomputable def asgTup (x:Stmt) (k:List Expr→Expr→Bool):Bool:=xAssign x fun ts v=>x1 ts fun t=>xTup t fun es=>k es v
@[elab_as_elim] theorem kg {x:Stmt} {k:List Expr→Expr→Bool} {C:Stmt→Prop} (h:asgTup x k=true) (f:∀ es m np v pos,k es v=true→C (.Assign [.Tuple es m np] v pos)):C x:=
 i5 h fun ts v pos h=>dL h fun t h=>iy h fun es m np h=>f es m np v pos h
noncomputable def asgComp (p:P) (i:Nat) (x:Stmt) (kit:Expr→Bool) (kel:P→Expr→Bool) (kif:P→List Expr→Bool):Bool:=
 asgName p i x fun n np v=>compB p v (fun scope cpos=>swaps p scope n np cpos) kit kel kif
@[elab_as_elim] theorem mG {p:P} {i:Nat} {x:Stmt} {kit:Expr→Bool} {kel:P→Expr→Bool} {kif:P→List Expr→Bool} {C:Stmt→Prop} (h:asgComp p i x kit kel kif=true)
  (f:∀ n np pos z y yp iter ifs scope cpos,okVar p i n=true→swaps p scope n np cpos=true→ScopeOk p scope y→plainIter iter=true→kit iter=true→kel (pcomp p scope y) z=true→kif (pcomp p scope y) ifs=true→C (.Assign [.Name n np] (.ListComp z [⟨.Name y yp,iter,ifs,0⟩] scope cpos) pos)):C x:=
 mF h fun n np v pos ho h=>mx h fun z y yp iter ifs scope cpos h1 hS hp k1 k2 k3=>f n np pos z y yp iter ifs scope cpos ho h1 hS hp k1 k2 k3
noncomputable def forB (p:P) (nm:Str) (x:Stmt) (k:Expr→List Expr→List Stmt→Bool):Bool:=xFor x fun t it b=>xCallN it fun n xs=>n == nm&&(okTop p nm&&k t xs b)
@[elab_as_elim] theorem pq {p:P} {nm:Str} {x:Stmt} {k:Expr→List Expr→List Stmt→Bool} {C:Stmt→Prop} (h:forB p nm x k=true) (f:∀ t np xs cp b pos,okTop p nm=true→k t xs b=true→C (.For t (.Call (.Name nm np) xs [] cp) b [] pos)):C x:=
 oy h fun t it b pos h=>dR h fun n np xs cp h=>eqA (a:=n) h fun h=>andC h fun h2 h3=>f t np xs cp b pos h2 h3
mutual
noncomputable def okS (p:P) (m:S) (x:Stmt):Bool:=match m with
 | .assign i e=>asgName p i x fun _ _ v=>noComp v&&okE p e v
 | .asgC i elt it=>asgComp p i x (fun y=>okE p it y) (fun q z=>okE q elt z) fun _ ifs=>x0 ifs
 | .asgCI i elt it c=>asgComp p i x (fun y=>okE p it y) (fun q z=>okE q elt z) fun q ifs=>x1 ifs fun u=>okT q c u
 | .assign2 i j e=>xAssign x fun ts v=>x2 ts fun t u=>xName t fun a _=>xName u fun b _=>okVar p i a&&(okVar p j b&&okE p e v)
 | .unpack is e=>!p.hd&&asgTup x fun es v=>noTup v&&(noComp v&&(okNames p is es&&okE p e v))
 | .unpack2 i j a b=>!p.hd&&asgTup x fun es v=>x2 es fun t u=>xName t fun n np=>xName u fun m mp=>xTup v fun vs=>x2 vs fun y z=>
   okVar p i n&&(okVar p j m&&(!(i == j)&&(swaps2 p n m np mp y z&&(noStar y&&(okE p a y&&(noStar z&&okE p b z))))))
 | .aug i op e=>xAug x fun t o v=>xName t fun n _=>okVar p i n&&(o == opOf op&&okE p e v)
 | .expr e=>xExprS x fun v=>noComp v&&okE p e v
 | .ret e=>xRet x fun v=>okE p e v
 | .ifS t b o=>xIfS x fun u xs ys=>okT p t u&&(okSs p b xs&&okSs p o ys)
 | .whileS t b=>xWhl x fun u xs=>okT p t u&&okSs p b xs
 | .forL i e b=>!p.hd&&xFor x fun t it xs=>xName t fun n _=>okVar p i n&&(plainIter it&&(okE p e it&&okSs p b xs))
 | .forT is e b=>!p.hd&&xFor x fun t it xs=>xTup t fun es=>okNames p is es&&(plainIter it&&(okE p e it&&okSs p b xs))
 | .forR i hi b=>!p.hd&&forB p "range" x fun t as xs=>xName t fun n _=>okVar p i n&&x1 as fun y=>noStar y&&(okE p hi y&&okSs p b xs)
 | .forR2 i lo hi b=>!p.hd&&forB p "range" x fun t as xs=>xName t fun n _=>okVar p i n&&x2 as fun y z=>noStar y&&(noStar z&&(okE p lo y&&(okE p hi z&&okSs p b xs)))
 | .forE i j e b=>!p.hd&&forB p "enumerate" x fun t as xs=>xTup t fun es=>okNames p [i,j] es&&x1 as fun y=>noStar y&&(okE p e y&&okSs p b xs)
 | .brk=>xBrk x fun _=>true
 | .cont=>xCont x fun _=>true
 | .tryP b=>xTry x fun xs hs f=>xc hs fun _ _=>x0 f&&okSs p b xs
 | .tryX b h=>xTry x fun xs hs f=>x1 hs fun u=>x0 f&&xHand u fun t ys=>xc ys fun y ys=>
   isNm "IndexError" t&&(okTop p "IndexError"&&(okSs { p with cx:=true } b xs&&okSs { p with hd:=true,ix:=false } h (y::ys)))
 | .tryF b f=>xTry x fun xs hs g=>x0 hs&&xc g fun y ys=>!p.hd&&(p.cx&&(p.ix&&(okSs { p with cx:=false } b xs&&okSs { p with hd:=true } f (y::ys))))
 | .setc i elt it=>!p.hd&&asgTup x fun es v=>x1 es fun t=>xName t fun n _=>okVar p i n&&xSComp v fun z gs scope=>xGen gs fun y iter ifs=>
   okScope p scope y&&(plainIter iter&&(okE p it iter&&(okE (pcomp p scope y) elt z&&x0 ifs)))
noncomputable def okSs (p:P) (ms:Ss) (xs:List Stmt):Bool:=match ms with
 | .nil=>x0 xs
 | .stop=>true
 | .cons m ms=>xc xs fun x xs=>okS p m x&&okSs p ms xs
end
structure CtxS (prog:Program) (w:World) (FA:Nat→Addr) (G:Nat→Option V) (call:CallT) (n:Nat) (p:P) (d:D) (A:Around):Prop extends CtxE prog w FA G call n p d A where
 fr:A.frames=some d.fs
 F:FrOk d
 nd:(p.fnm.map (·.1)).Nodup
 nc:p.comp=none
theorem wX {prog:Program} {w:World} {A:Around} {d:D} {xs:List Stmt}:TSs prog w A d xs fun _=>.bad:=fun _ _ _ _=>.bad
theorem yk {p:P} {d:D} (hE:EnvOk p d):interactive d.env=false:=by unfold interactive;rw [hE.fn];rfl
section
variable {prog:Program} {w:World} {FA:Nat→Addr} {G:Nat→Option V} {call:CallT} {n:Nat}
theorem CtxS.cx {p:P} {d:D} {A:Around} (c:CtxS prog w FA G call n p d A) (b:Bool):CtxS prog w FA G call n { p with cx:=b } { d with cx:=b } A where
 E:=⟨c.E.fnm,c.E.kinds,c.E.fn,c.E.comp,c.E.gl,c.E.bl,c.E.hd,rfl⟩
 T:=c.T
 u:=c.u
 ix:=c.ix
 hd:=c.hd
 C:=c.C
 fr:=c.fr
 F:=⟨c.F.top,c.F.kinds⟩
 nd:=c.nd
 nc:=c.nc
theorem CtxS.handler {p:P} {d:D} {A:Around} (c:CtxS prog w FA G call n p d A) (v:Option Value):CtxS prog w FA G call n { p with hd:=true,ix:=false } d (A.mark v) where
 E:=⟨c.E.fnm,c.E.kinds,c.E.fn,c.E.comp,c.E.gl,c.E.bl,fun h=>(nomatch h),c.E.cx⟩
 T:=c.T
 u:=c.u
 ix:=fun h=>nomatch h
 hd:=fun h=>nomatch h
 C:=c.C
 fr:=c.fr
 F:=c.F
 nd:=c.nd
 nc:=c.nc
theorem CtxS.fin {p:P} {d:D} {A:Around} (c:CtxS prog w FA G call n p d A):CtxS prog w FA G call n { p with hd:=true } d A where
 E:=⟨c.E.fnm,c.E.kinds,c.E.fn,c.E.comp,c.E.gl,c.E.bl,fun h=>(nomatch h),c.E.cx⟩
 T:=c.T
 u:=c.u
 ix:=c.ix
 hd:=fun h=>nomatch h
 C:=c.C
 fr:=c.fr
 F:=c.F
 nd:=c.nd
 nc:=c.nc
theorem CtxS.finX {p:P} {d:D} {A:Around} (c:CtxS prog w FA G call n p d A) (a:Addr):CtxS prog w FA G call n { p with hd:=true } { d with hd:=some (.ref a) } (A.mark (some (.ref a))) where
 E:=⟨c.E.fnm,c.E.kinds,c.E.fn,c.E.comp,c.E.gl,c.E.bl,fun h=>(nomatch h),c.E.cx⟩
 T:=c.T
 u:=c.u
 ix:=fun _=>rfl
 hd:=fun h=>nomatch h
 C:=c.C
 fr:=c.fr
 F:=⟨c.F.top,c.F.kinds⟩
 nd:=c.nd
 nc:=c.nc
theorem B8 {i j:Nat} (h:(!(i == j))=true):i≠j:=fun q=>by rw [q,beq_self_eq_true j] at h;exact nomatch h
mutual
theorem vi (m:S):∀ (p:P) (d:D) (A:Around) (x:Stmt),okS p m x=true→CtxS prog w FA G call n p d A→TS prog w A d x fun st=>ex call G m st:=match m with
 | .assign i e=>fun p d A x h c=>mF h fun n np v pos ho h=>andC h fun h1 h2=>uN c.E c.nd c.nc ho (ar e _ _ _ _ _ h2 c.toCtxE) (hY h1)
 | .asgC i elt it=>fun p d A x h c=>mG h fun n np pos z y yp iter ifs scope cpos ho hw hS hp h1 h2 h3=>kn (l:=ifs) h3 (gY (tf:=fun _ st=>.ok true st) (ef:=fun y st=>ev call G (some y) elt st) c.E c.nd c.nc ho hS (c.hd hS.hd).1 (qj c.E hw) (cS hp) (ar it _ _ _ _ _ h1 c.toCtxE) (fun C cl x ρ s st E' I=>mo ρ s st I) fun C cl x E'=>ar elt _ _ _ _ _ h2 (c.toCtxE.comp hS E'))
 | .asgCI i elt it t=>fun p d A x h c=>mG h fun n np pos z y yp iter ifs scope cpos ho hw hS hp h1 h2 h3=>dL (l:=ifs) h3 fun u h5=>gY (tf:=fun y st=>evT call G (some y) t st) (ef:=fun y st=>ev call G (some y) elt st) c.E c.nd c.nc ho hS (c.hd hS.hd).1 (qj c.E hw) (cS hp) (ar it _ _ _ _ _ h1 c.toCtxE) (fun C cl x ρ s st E' I=>uk (dz t _ _ _ _ _ h5 (c.toCtxE.comp hS E')) ρ s st I) fun C cl x E'=>ar elt _ _ _ _ _ h2 (c.toCtxE.comp hS E')
 | .assign2 i j e=>fun p d A x h c=>i5 h fun ts v pos h=>fU h fun t u h=>bQ (x:=t) h fun a ap h=>bQ (x:=u) h fun b bp h=>andC h fun h1 h=>andC h fun h2 h3=>r5 c.E c.nd c.nc h1 h2 (ar e _ _ _ _ _ h3 c.toCtxE) rfl
 | .unpack is e=>fun p d A x h c=>andC h fun h0 h=>kg h fun es m np v pos h=>andC h fun h1 h=>andC h fun h2 h=>andC h fun h3 h4=>uK (c.hd (dg h0)).1 c.E c.nd c.nc (ja h3) (hY (t:=some (.Tuple es m np)) (l:=pos.line) (env:=d.env) h2) (sI h1) (ar e _ _ _ _ _ h4 c.toCtxE)
 | .unpack2 i j a b=>fun p d A x h c=>andC h fun h0 h=>kg h fun es m np v pos h=>fU (l:=es) h fun t u h=>bQ (x:=t) h fun n1 p1 h=>bQ (x:=u) h fun n2 p2 h=>iy (x:=v) h fun vs k vp h=>fU (l:=vs) h fun y z h=>andC h fun h1 h=>andC h fun h2 h=>andC h fun h3 h=>andC h fun h4 h=>andC h fun h5 h=>andC h fun h6 h=>andC h fun h7 h8=>rZ (c.hd (dg h0)).1 c.E c.nd c.nc h1 h2 (B8 h3) rfl (uU c.E h4) (xf (lJ (cj h5) (ar a _ _ _ _ _ h6 c.toCtxE) (lJ (cj h7) (ar b _ _ _ _ _ h8 c.toCtxE) tX)))
 | .aug i op e=>fun p d A x h c=>zh h fun t o v pos h=>bQ (x:=t) h fun a ap h=>andC h fun h1 h=>eqA (a:=o) h fun h=>Bj op c.E c.nd c.nc h1 (ar e _ _ _ _ _ h c.toCtxE)
 | .expr e=>fun p d A x h c=>uy h fun v pos h=>andC h fun h1 h2=>zx (ar e _ _ _ _ _ h2 c.toCtxE) (yk c.E) (hY h1)
 | .ret e=>fun p d A x h c=>zd h fun v pos h=>Bh (ar e _ _ _ _ _ h c.toCtxE)
 | .ifS t b o=>fun p d A x h c=>ze h fun u xs ys pos h=>andC h fun h1 h=>andC h fun h2 h3=>Cj (dz t _ _ _ _ _ h1 c.toCtxE) (bL b _ _ _ _ h2 c) (bL o _ _ _ _ h3 c)
 | .whileS t b=>fun p d A x h c=>zc h fun u xs pos h=>andC h fun h1 h2=>wZ c.fr c.F (dz t _ _ _ _ _ h1 c.toCtxE) (bL b _ _ _ _ h2 c)
 | .forL i e b=>fun p d A x h c=>andC h fun h0 h=>oy h fun t it xs pos h=>bQ (x:=t) h fun nn np h=>andC h fun h1 h=>andC h fun h2 h=>andC h fun h3 h4=>w0 (put:=fun y _ st=>.ok () (setVar st i y)) (c.hd (dg h0)).1 (cS h2) Ai (ar e _ _ _ _ _ h3 c.toCtxE) (fun _=>xw c.E c.nd c.nc h1) (bL b _ _ _ _ h4 c)
 | .forT is e b=>fun p d A x h c=>andC h fun h0 h=>oy h fun t it xs pos h=>iy (x:=t) h fun es k np h=>andC h fun h1 h=>andC h fun h2 h=>andC h fun h3 h4=>w0 (put:=fun y _ st=>unpackV is y st) (c.hd (dg h0)).1 (cS h2) ye (ar e _ _ _ _ _ h3 c.toCtxE) (fun _=>j3 (c.hd (dg h0)).1 c.E c.nd c.nc (ja h1)) (bL b _ _ _ _ h4 c)
 | .forR i hi b=>fun p d A x h c=>andC h fun h0 h=>pq h fun t np as cp xs pos ho h=>bQ (x:=t) h fun nn np h=>andC h fun h1 h=>dL (l:=as) h fun y h=>andC h fun h2 h=>andC h fun h3 h4=>uM (c.hd (dg h0)).1 c.T c.E c.nd c.nc h1 ho (cj h2) (ar hi _ _ _ _ _ h3 c.toCtxE) (bL b _ _ _ _ h4 c)
 | .forR2 i lo hi b=>fun p d A x h c=>andC h fun h0 h=>pq h fun t np as cp xs pos ho h=>bQ (x:=t) h fun nn np h=>andC h fun h1 h=>fU (l:=as) h fun y z h=>andC h fun h2 h=>andC h fun h3 h=>andC h fun h4 h=>andC h fun h5 h6=>uL (c.hd (dg h0)).1 c.T c.E c.nd c.nc h1 ho (cj h2) (cj h3) (ar lo _ _ _ _ _ h4 c.toCtxE) (ar hi _ _ _ _ _ h5 c.toCtxE) (bL b _ _ _ _ h6 c)
 | .forE i j e b=>fun p d A x h c=>andC h fun h0 h=>pq h fun t np as cp xs pos ho h=>iy (x:=t) h fun es k np h=>andC h fun h1 h=>dL (l:=as) h fun y h=>andC h fun h2 h=>andC h fun h3 h4=>zy (c.hd (dg h0)).1 c.T c.E c.nd c.nc (ja h1) ho (cj h2) (ar e _ _ _ _ _ h3 c.toCtxE) (bL b _ _ _ _ h4 c)
 | .brk=>fun p d A x h c=>zf h fun pos _=>Bi
 | .cont=>fun p d A x h c=>wv h fun pos _=>zz
 | .tryP b=>fun p d A x h c=>ox h fun xs hs f pos h=>gV (l:=hs) h fun h1 hs h=>x0A (l:=f) h fun h=>zu (bL b _ _ _ _ h c)
 | .tryX b g=>fun p d A x h c=>ox h fun xs hs f pos h=>dL (l:=hs) h fun u h=>x0A (l:=f) h fun h=>wt (x:=u) h fun t ys hp h=>gV (l:=ys) h fun y ys h=>andC h fun h1 h=>andC h fun h2 h=>andC h fun h3 h4=>jJ (x:=t) h1 fun tp=>zr c.fr c.F c.T c.E h2 (bL b _ _ _ _ h3 (c.cx true)) fun a=>bL g _ _ _ _ h4 (c.handler _)
 | .tryF b g=>fun p d A x h c=>ox h fun xs hs f pos h=>x0A (l:=hs) h fun h=>gV (l:=f) h fun y ys h=>andC h fun h1 h=>andC h fun h2 h=>andC h fun h3 h=>andC h fun h4 h5=>zv (c.E.hd (dg h1)) (c.E.cx.trans h2) c.fr c.F (bL b _ _ _ _ h4 (c.cx false)) (bL g _ _ _ _ h5 c.fin) fun a=>bL g _ _ _ _ h5 (c.finX _)
 | .setc i elt it=>fun p d A x h c=>andC h fun h0 h=>kg h fun es m np v pos h=>dL (l:=es) h fun t h=>bQ (x:=t) h fun n tp h=>andC h fun h1 h=>ux (x:=v) h fun z gs scope cpos h=>tG (l:=gs) h fun y yp iter ifs h=>andC h fun h2 h=>andC h fun h3 h=>andC h fun h4 h=>andC h fun h5 h6=>kn (l:=ifs) h6 (zw (ef:=fun y st=>ev call G (some y) elt st) c.E c.nd c.nc h1 (gC h2) (c.hd (gC h2).hd).1 (cS h3) (ar it _ _ _ _ _ h4 c.toCtxE) fun C cl x E'=>ar elt _ _ _ _ _ h5 (c.toCtxE.comp (gC h2) E'))
theorem bL (ms:Ss):∀ (p:P) (d:D) (A:Around) (xs:List Stmt),okSs p ms xs=true→CtxS prog w FA G call n p d A→TSs prog w A d xs fun st=>exs call G ms st:=match ms with
 | .nil=>fun p d A xs h c=>kn h zq
 | .stop=>fun p d A xs h c=>wX
 | .cons m ms=>fun p d A xs h c=>gV h fun y ys h=>andC h fun h1 h2=>wY (vi m _ _ _ _ h1 c) (bL ms _ _ _ _ h2 c)
end
end
end
end Mine
end
section
set_option backward.match.sparseCases false
open PySem PySem.W PyProof.Rows
namespace Mine.H
noncomputable section
noncomputable def P0:Program:=PySem.Challenge.pw_il0085_01
noncomputable def B0:List Stmt:=behindTheImports P0
noncomputable def stm (i:Nat):Stmt:=(B0.drop i).headD (.Pass ⟨0,0,0,0⟩)
noncomputable def stm2 (i j:Nat):Stmt:=match stm i with
 | .ClassDef (body:=b) ..=>(b.drop j).headD (.Pass ⟨0,0,0,0⟩)
 | _=>.Pass ⟨0,0,0,0⟩
noncomputable def fnP:Stmt→Arguments
 | .FunctionDef (args:=a) ..=>a
 | _=>⟨[],[],none,[],[],none,[]⟩
noncomputable def fnB:Stmt→List Stmt
 | .FunctionDef (body:=b) ..=>b
 | _=>[]
noncomputable def fnS:Stmt→Scope
 | .FunctionDef (scope:=s) ..=>s
 | _=>P0.main.scope
noncomputable def fnN:Stmt→Str
 | .FunctionDef (name:=n) ..=>n
 | _=>.ofString ""
noncomputable def fnD (s:Stmt) (g:Addr) (dv kv doc pm:Value) (an:Option Addr) (cd ct:Value) (bl:Addr) (qn:Str):FuncData:=
 { name:=fnN s,qualname:=qn,params:=fnP s,body:=.stmts (fnB s),scope:=fnS s,globals:=g,closure:=[],defaults:=dv,kwdefaults:=kv,doc:=doc,pyModule:=pm,annotations:=an,code:=cd,closureTuple:=ct,builtins:=bl }
noncomputable def s_ (x:String) (t:Tok):Value:=.str (.ofString x) t
noncomputable def e_ (P:Params) (x:String) (t:Tok) (v:Value):DictEntry:=⟨PyData.keyHash P (.ofString x),s_ x t,v⟩
noncomputable def E0:Env:={ scope:=P0.main.scope,locals:=mainNs,globals:=mainNs,cells:=[],code:=.ref 13,frame:=some 14 }
noncomputable def c0:Code:=.body B0 E0
noncomputable def Bf:List Frame:=[topFrame ⟨0,0,0,0⟩]
abbrev Sx (tr:Params→BT) (n tk:Nat) (w:World) (os:OsState):SharedT:=⟨tr w.params,n,{},#[],{},tk,os⟩
noncomputable def lf (f:Params→Obj) (P:Params):BT:=.node (f P) .nil .nil
noncomputable def nd (f:Params→Obj) (P:Params) (l r:BT):BT:=.node (f P) l r
noncomputable def dO (l:Array DictEntry) (n:Nat):Obj:=⟨.type "dict",none,.dict l n,#[]⟩
noncomputable def o0 (P:Params):Obj:=dO #[e_ P "__name__" 1 (s_ "builtins" 160),e_ P "__doc__" 2 (.builtin "builtins.__doc__:str#opaque"),e_ P "__package__" 3 (.builtin "builtins.__package__:str#opaque"),e_ P "__loader__" 4 (.builtin "builtins.__loader__:shared#opaque"),e_ P "__spec__" 5 (.builtin "builtins.__spec__#opaque"),e_ P "__build_class__" 6 (.builtin "__build_class__"),e_ P "__import__" 7 (.builtin "__import__"),e_ P "abs" 8 (.builtin "abs"),e_ P "all" 9 (.builtin "all"),e_ P "any" 10 (.builtin "any"),e_ P "ascii" 11 (.builtin "ascii"),e_ P "bin" 12 (.builtin "bin"),e_ P "breakpoint" 13 (.builtin "breakpoint"),e_ P "callable" 14 (.builtin "callable"),e_ P "chr" 15 (.builtin "chr"),e_ P "compile" 16 (.builtin "compile"),e_ P "delattr" 17 (.builtin "delattr"),e_ P "dir" 18 (.builtin "dir"),e_ P "divmod" 19 (.builtin "divmod"),e_ P "eval" 20 (.builtin "eval"),e_ P "exec" 21 (.builtin "exec"),e_ P "format" 22 (.builtin "format"),e_ P "getattr" 23 (.builtin "getattr"),e_ P "globals" 24 (.builtin "globals"),e_ P "hasattr" 25 (.builtin "hasattr"),e_ P "hash" 26 (.builtin "hash"),e_ P "hex" 27 (.builtin "hex"),e_ P "id" 28 (.builtin "id"),e_ P "input" 29 (.builtin "input"),e_ P "isinstance" 30 (.builtin "isinstance"),e_ P "issubclass" 31 (.builtin "issubclass"),e_ P "iter" 32 (.builtin "iter"),e_ P "aiter" 33 (.builtin "aiter"),e_ P "len" 34 (.builtin "len"),e_ P "locals" 35 (.builtin "locals"),e_ P "max" 36 (.builtin "max"),e_ P "min" 37 (.builtin "min"),e_ P "next" 38 (.builtin "next"),e_ P "anext" 39 (.builtin "anext"),e_ P "oct" 40 (.builtin "oct"),e_ P "ord" 41 (.builtin "ord"),e_ P "pow" 42 (.builtin "pow"),e_ P "print" 43 (.builtin "print"),e_ P "repr" 44 (.builtin "repr"),e_ P "round" 45 (.builtin "round"),e_ P "setattr" 46 (.builtin "setattr"),e_ P "sorted" 47 (.builtin "sorted"),e_ P "sum" 48 (.builtin "sum"),e_ P "vars" 49 (.builtin "vars"),e_ P "None" 50 .none,e_ P "Ellipsis" 51 .ellipsis,e_ P "NotImplemented" 52 .notImplemented,e_ P "False" 53 (.bool false),e_ P "True" 54 (.bool true),e_ P "bool" 55 (.type "bool"),e_ P "memoryview" 56 (.type "memoryview"),e_ P "bytearray" 57 (.type "bytearray"),e_ P "bytes" 58 (.type "bytes"),e_ P "classmethod" 59 (.type "classmethod"),e_ P "complex" 60 (.type "complex"),e_ P "dict" 61 (.type "dict"),e_ P "enumerate" 62 (.type "enumerate"),e_ P "filter" 63 (.type "filter"),e_ P "float" 64 (.type "float"),e_ P "frozenset" 65 (.type "frozenset"),e_ P "property" 66 (.type "property"),e_ P "int" 67 (.type "int"),e_ P "list" 68 (.type "list"),e_ P "map" 69 (.type "map"),e_ P "object" 70 (.type "object"),e_ P "range" 71 (.type "range"),e_ P "reversed" 72 (.type "reversed"),e_ P "set" 73 (.type "set"),e_ P "slice" 74 (.type "slice"),e_ P "staticmethod" 75 (.type "staticmethod"),e_ P "str" 76 (.type "str"),e_ P "super" 77 (.type "super"),e_ P "tuple" 78 (.type "tuple"),e_ P "type" 79 (.type "type"),e_ P "zip" 80 (.type "zip"),e_ P "__debug__" 81 (.bool true),e_ P "BaseException" 82 (.type "BaseException"),e_ P "BaseExceptionGroup" 83 (.type "BaseExceptionGroup"),e_ P "Exception" 84 (.type "Exception"),e_ P "GeneratorExit" 85 (.type "GeneratorExit"),e_ P "KeyboardInterrupt" 86 (.type "KeyboardInterrupt"),e_ P "SystemExit" 87 (.type "SystemExit"),e_ P "ArithmeticError" 88 (.type "ArithmeticError"),e_ P "AssertionError" 89 (.type "AssertionError"),e_ P "AttributeError" 90 (.type "AttributeError"),e_ P "BufferError" 91 (.type "BufferError"),e_ P "EOFError" 92 (.type "EOFError"),e_ P "ImportError" 93 (.type "ImportError"),e_ P "LookupError" 94 (.type "LookupError"),e_ P "MemoryError" 95 (.type "MemoryError"),e_ P "NameError" 96 (.type "NameError"),e_ P "OSError" 97 (.type "OSError"),e_ P "ReferenceError" 98 (.type "ReferenceError"),e_ P "RuntimeError" 99 (.type "RuntimeError"),e_ P "StopAsyncIteration" 100 (.type "StopAsyncIteration"),e_ P "StopIteration" 101 (.type "StopIteration"),e_ P "SyntaxError" 102 (.type "SyntaxError"),e_ P "SystemError" 103 (.type "SystemError"),e_ P "TypeError" 104 (.type "TypeError"),e_ P "ValueError" 105 (.type "ValueError"),e_ P "Warning" 106 (.type "Warning"),e_ P "FloatingPointError" 107 (.type "FloatingPointError"),e_ P "OverflowError" 108 (.type "OverflowError"),e_ P "ZeroDivisionError" 109 (.type "ZeroDivisionError"),e_ P "BytesWarning" 110 (.type "BytesWarning"),e_ P "DeprecationWarning" 111 (.type "DeprecationWarning"),e_ P "EncodingWarning" 112 (.type "EncodingWarning"),e_ P "FutureWarning" 113 (.type "FutureWarning"),e_ P "ImportWarning" 114 (.type "ImportWarning"),e_ P "PendingDeprecationWarning" 115 (.type "PendingDeprecationWarning"),e_ P "ResourceWarning" 116 (.type "ResourceWarning"),e_ P "RuntimeWarning" 117 (.type "RuntimeWarning"),e_ P "SyntaxWarning" 118 (.type "SyntaxWarning"),e_ P "UnicodeWarning" 119 (.type "UnicodeWarning"),e_ P "UserWarning" 120 (.type "UserWarning"),e_ P "BlockingIOError" 121 (.type "BlockingIOError"),e_ P "ChildProcessError" 122 (.type "ChildProcessError"),e_ P "ConnectionError" 123 (.type "ConnectionError"),e_ P "FileExistsError" 124 (.type "FileExistsError"),e_ P "FileNotFoundError" 125 (.type "FileNotFoundError"),e_ P "InterruptedError" 126 (.type "InterruptedError"),e_ P "IsADirectoryError" 127 (.type "IsADirectoryError"),e_ P "NotADirectoryError" 128 (.type "NotADirectoryError"),e_ P "PermissionError" 129 (.type "PermissionError"),e_ P "ProcessLookupError" 130 (.type "ProcessLookupError"),e_ P "TimeoutError" 131 (.type "TimeoutError"),e_ P "IndentationError" 132 (.type "IndentationError"),e_ P "_IncompleteInputError" 133 (.type "_IncompleteInputError"),e_ P "IndexError" 134 (.type "IndexError"),e_ P "KeyError" 135 (.type "KeyError"),e_ P "ModuleNotFoundError" 136 (.type "ModuleNotFoundError"),e_ P "NotImplementedError" 137 (.type "NotImplementedError"),e_ P "PythonFinalizationError" 138 (.type "PythonFinalizationError"),e_ P "RecursionError" 139 (.type "RecursionError"),e_ P "UnboundLocalError" 140 (.type "UnboundLocalError"),e_ P "UnicodeError" 141 (.type "UnicodeError"),e_ P "BrokenPipeError" 142 (.type "BrokenPipeError"),e_ P "ConnectionAbortedError" 143 (.type "ConnectionAbortedError"),e_ P "ConnectionRefusedError" 144 (.type "ConnectionRefusedError"),e_ P "ConnectionResetError" 145 (.type "ConnectionResetError"),e_ P "TabError" 146 (.type "TabError"),e_ P "UnicodeDecodeError" 147 (.type "UnicodeDecodeError"),e_ P "UnicodeEncodeError" 148 (.type "UnicodeEncodeError"),e_ P "UnicodeTranslateError" 149 (.type "UnicodeTranslateError"),e_ P "ExceptionGroup" 150 (.type "ExceptionGroup"),e_ P "EnvironmentError" 151 (.type "OSError"),e_ P "IOError" 152 (.type "OSError"),e_ P "open" 153 (.builtin "open"),e_ P "quit" 154 (.builtin "builtins.quit#opaque"),e_ P "exit" 155 (.builtin "builtins.exit#opaque"),e_ P "copyright" 156 (.builtin "builtins.copyright#opaque"),e_ P "credits" 157 (.builtin "builtins.credits#opaque"),e_ P "license" 158 (.builtin "builtins.license#opaque"),e_ P "help" 159 (.builtin "builtins.help#opaque")] 159
noncomputable def o1 (P:Params):Obj:=dO #[e_ P "builtins" 162 (.ref 4),e_ P "__main__" 163 (.ref 5)] 2
noncomputable def o2 (P:Params):Obj:=⟨.none,none,.dict #[] 0,#[]⟩
noncomputable def o3 (P:Params):Obj:=dO #[e_ P "__name__" 165 (s_ "__main__" 164),e_ P "__doc__" 166 .none,e_ P "__package__" 167 .none,e_ P "__loader__" 168 (.builtin "__main__.__loader__#opaque"),e_ P "__spec__" 169 .none,e_ P "__annotations__" 170 (.ref 6),e_ P "__builtins__" 171 (.ref 4),e_ P "__file__" 173 (s_ "/claim/cut.py" 172),e_ P "__cached__" 174 .none] 9
noncomputable def o4 (P:Params):Obj:=⟨.type "module",(some 0),.plain,#[]⟩
noncomputable def o5 (P:Params):Obj:=⟨.type "module",(some 3),.plain,#[]⟩
noncomputable def o6 (P:Params):Obj:=dO #[] 0
noncomputable def o7 (P:Params):Obj:=⟨.type "tuple",none,.seq #[] 0,#[]⟩
noncomputable def o8 (P:Params):Obj:=⟨.none,none,.fields #[],#[]⟩
noncomputable def o9 (P:Params):Obj:=⟨.type "code",none,(.fields #[s_ "<module>" 176,s_ "<module>" 177,s_ "/claim/cut.py" 178,.int 1 0,.int 0 0,.int 0 0,.int 0 0,.int 0 0,.ref 7,.bool false,.int 175 0,.ref 8,.none,.none,.none,.none,.int 179 0,.int 1 0,s_ "/claim/cut.py" 180]),#[]⟩
noncomputable def o10 (P:Params):Obj:=⟨.type "frame",none,.plain,#[(some (.ref 9)),(some (.ref 3)),(some (.ref 3)),none,(some (s_ "__main__" 164)),none,(some (.ref 0))]⟩
noncomputable def o11 (P:Params):Obj:=⟨.type "code",none,(.fields #[s_ "<module>" 182,s_ "<module>" 183,s_ "/claim/cut.py" 184,.int 1 0,.int 0 0,.int 0 0,.int 0 0,.int 0 0,.ref 11,.bool false,.int 181 0,.ref 12,.none,.none,.none,.none,.int 185 0,.int 1 0,s_ "/claim/cut.py" 186]),#[]⟩
noncomputable def o12 (P:Params):Obj:=⟨.type "frame",none,.plain,#[(some (.ref 13)),(some (.ref 3)),(some (.ref 3)),none,(some (s_ "__main__" 164)),none,(some (.ref 0))]⟩
noncomputable def trb (P:Params):BT:=nd o0 P (nd o1 P (nd o3 P (lf o7 P) (lf o7 P)) (nd o5 P (lf o9 P) (lf o11 P))) (nd o2 P (nd o4 P (lf o8 P) (lf o8 P)) (nd o6 P (lf o10 P) (lf o12 P)))
noncomputable def o13 (P:Params):Obj:=dO #[e_ P "__name__" 165 (s_ "__main__" 164),e_ P "__doc__" 166 .none,e_ P "__package__" 167 .none,e_ P "__loader__" 168 (.builtin "__main__.__loader__#opaque"),e_ P "__spec__" 169 .none,e_ P "__annotations__" 170 (.ref 6),e_ P "__builtins__" 171 (.ref 4),e_ P "__file__" 173 (s_ "/claim/cut.py" 172),e_ P "__cached__" 174 .none,e_ P "_wall" 193 (.ref 21),e_ P "CRLF" 195 (s_ "\x0d\n" 194),e_ P "NL" 197 (s_ "\n" 196)] 12
noncomputable def o14 (P:Params):Obj:=⟨.none,none,(.fields #[.int 1 0,.int 0 0,.ref 20]),#[]⟩
noncomputable def o15 (P:Params):Obj:=⟨.type "tuple",none,(.seq #[s_ "k" 190] 0),#[]⟩
noncomputable def o16 (P:Params):Obj:=⟨.none,none,(.func (fnD (stm 0) 0 .none .none .none .none none .none .none 0 (.ofString "_wall"))),#[]⟩
noncomputable def o17 (P:Params):Obj:=⟨.type "code",none,(.fields #[s_ "_wall" 187,s_ "_wall" 188,s_ "/claim/cut.py" 189,.int 1 0,.int 1 0,.int 0 0,.int 0 0,.int 3 0,.ref 15,.bool true,.int 181 0,.ref 16,.none,.ref 17,.ref 18,.ref 19,.int 191 0,.int 1 0,s_ "/claim/cut.py" 192]),#[]⟩
noncomputable def o18 (P:Params):Obj:=⟨.type "function",none,(.func (fnD (stm 0) 3 .none .none .none (s_ "__main__" 164) none (.ref 20) .none 0 (.ofString "_wall"))),#[]⟩
noncomputable def tr3 (P:Params):BT:=nd o0 P (nd o1 P (nd o13 P (nd o7 P (lf o7 P) .nil) (nd o7 P (lf o16 P) .nil)) (nd o5 P (nd o9 P (lf o15 P) .nil) (nd o11 P (lf o18 P) .nil))) (nd o2 P (nd o4 P (nd o8 P (lf o8 P) .nil) (nd o14 P (lf o17 P) .nil)) (nd o6 P (nd o10 P (lf o7 P) .nil) (lf o12 P)))
noncomputable def o19 (P:Params):Obj:=dO #[e_ P "__name__" 165 (s_ "__main__" 164),e_ P "__doc__" 166 .none,e_ P "__package__" 167 .none,e_ P "__loader__" 168 (.builtin "__main__.__loader__#opaque"),e_ P "__spec__" 169 .none,e_ P "__annotations__" 170 (.ref 6),e_ P "__builtins__" 171 (.ref 4),e_ P "__file__" 173 (s_ "/claim/cut.py" 172),e_ P "__cached__" 174 .none,e_ P "_wall" 193 (.ref 21),e_ P "CRLF" 195 (s_ "\x0d\n" 194),e_ P "NL" 197 (s_ "\n" 196),e_ P "_QUOPRI_MAP" 1225 (.ref 24)] 13
noncomputable def o20 (P:Params):Obj:=⟨.type "range",none,(.fields #[.int 0 199,.int 256 198,.int 1 200]),#[]⟩
noncomputable def o21 (P:Params):Obj:=⟨.type "range_iterator",none,(.fields #[.int 256 0,.int 0 0,.int 1 0]),#[]⟩
noncomputable def o22 (P:Params):Obj:=⟨.type "list",none,(.seq #[s_ "=00" 204,s_ "=01" 208,s_ "=02" 212,s_ "=03" 216,s_ "=04" 220,s_ "=05" 224,s_ "=06" 228,s_ "=07" 232,s_ "=08" 236,s_ "=09" 240,s_ "=0A" 244,s_ "=0B" 248,s_ "=0C" 252,s_ "=0D" 256,s_ "=0E" 260,s_ "=0F" 264,s_ "=10" 268,s_ "=11" 272,s_ "=12" 276,s_ "=13" 280,s_ "=14" 284,s_ "=15" 288,s_ "=16" 292,s_ "=17" 296,s_ "=18" 300,s_ "=19" 304,s_ "=1A" 308,s_ "=1B" 312,s_ "=1C" 316,s_ "=1D" 320,s_ "=1E" 324,s_ "=1F" 328,s_ "=20" 332,s_ "=21" 336,s_ "=22" 340,s_ "=23" 344,s_ "=24" 348,s_ "=25" 352,s_ "=26" 356,s_ "=27" 360,s_ "=28" 364,s_ "=29" 368,s_ "=2A" 372,s_ "=2B" 376,s_ "=2C" 380,s_ "=2D" 384,s_ "=2E" 388,s_ "=2F" 392,s_ "=30" 396,s_ "=31" 400,s_ "=32" 404,s_ "=33" 408,s_ "=34" 412,s_ "=35" 416,s_ "=36" 420,s_ "=37" 424,s_ "=38" 428,s_ "=39" 432,s_ "=3A" 436,s_ "=3B" 440,s_ "=3C" 444,s_ "=3D" 448,s_ "=3E" 452,s_ "=3F" 456,s_ "=40" 460,s_ "=41" 464,s_ "=42" 468,s_ "=43" 472,s_ "=44" 476,s_ "=45" 480,s_ "=46" 484,s_ "=47" 488,s_ "=48" 492,s_ "=49" 496,s_ "=4A" 500,s_ "=4B" 504,s_ "=4C" 508,s_ "=4D" 512,s_ "=4E" 516,s_ "=4F" 520,s_ "=50" 524,s_ "=51" 528,s_ "=52" 532,s_ "=53" 536,s_ "=54" 540,s_ "=55" 544,s_ "=56" 548,s_ "=57" 552,s_ "=58" 556,s_ "=59" 560,s_ "=5A" 564,s_ "=5B" 568,s_ "=5C" 572,s_ "=5D" 576,s_ "=5E" 580,s_ "=5F" 584,s_ "=60" 588,s_ "=61" 592,s_ "=62" 596,s_ "=63" 600,s_ "=64" 604,s_ "=65" 608,s_ "=66" 612,s_ "=67" 616,s_ "=68" 620,s_ "=69" 624,s_ "=6A" 628,s_ "=6B" 632,s_ "=6C" 636,s_ "=6D" 640,s_ "=6E" 644,s_ "=6F" 648,s_ "=70" 652,s_ "=71" 656,s_ "=72" 660,s_ "=73" 664,s_ "=74" 668,s_ "=75" 672,s_ "=76" 676,s_ "=77" 680,s_ "=78" 684,s_ "=79" 688,s_ "=7A" 692,s_ "=7B" 696,s_ "=7C" 700,s_ "=7D" 704,s_ "=7E" 708,s_ "=7F" 712,s_ "=80" 716,s_ "=81" 720,s_ "=82" 724,s_ "=83" 728,s_ "=84" 732,s_ "=85" 736,s_ "=86" 740,s_ "=87" 744,s_ "=88" 748,s_ "=89" 752,s_ "=8A" 756,s_ "=8B" 760,s_ "=8C" 764,s_ "=8D" 768,s_ "=8E" 772,s_ "=8F" 776,s_ "=90" 780,s_ "=91" 784,s_ "=92" 788,s_ "=93" 792,s_ "=94" 796,s_ "=95" 800,s_ "=96" 804,s_ "=97" 808,s_ "=98" 812,s_ "=99" 816,s_ "=9A" 820,s_ "=9B" 824,s_ "=9C" 828,s_ "=9D" 832,s_ "=9E" 836,s_ "=9F" 840,s_ "=A0" 844,s_ "=A1" 848,s_ "=A2" 852,s_ "=A3" 856,s_ "=A4" 860,s_ "=A5" 864,s_ "=A6" 868,s_ "=A7" 872,s_ "=A8" 876,s_ "=A9" 880,s_ "=AA" 884,s_ "=AB" 888,s_ "=AC" 892,s_ "=AD" 896,s_ "=AE" 900,s_ "=AF" 904,s_ "=B0" 908,s_ "=B1" 912,s_ "=B2" 916,s_ "=B3" 920,s_ "=B4" 924,s_ "=B5" 928,s_ "=B6" 932,s_ "=B7" 936,s_ "=B8" 940,s_ "=B9" 944,s_ "=BA" 948,s_ "=BB" 952,s_ "=BC" 956,s_ "=BD" 960,s_ "=BE" 964,s_ "=BF" 968,s_ "=C0" 972,s_ "=C1" 976,s_ "=C2" 980,s_ "=C3" 984,s_ "=C4" 988,s_ "=C5" 992,s_ "=C6" 996,s_ "=C7" 1000,s_ "=C8" 1004,s_ "=C9" 1008,s_ "=CA" 1012,s_ "=CB" 1016,s_ "=CC" 1020,s_ "=CD" 1024,s_ "=CE" 1028,s_ "=CF" 1032,s_ "=D0" 1036,s_ "=D1" 1040,s_ "=D2" 1044,s_ "=D3" 1048,s_ "=D4" 1052,s_ "=D5" 1056,s_ "=D6" 1060,s_ "=D7" 1064,s_ "=D8" 1068,s_ "=D9" 1072,s_ "=DA" 1076,s_ "=DB" 1080,s_ "=DC" 1084,s_ "=DD" 1088,s_ "=DE" 1092,s_ "=DF" 1096,s_ "=E0" 1100,s_ "=E1" 1104,s_ "=E2" 1108,s_ "=E3" 1112,s_ "=E4" 1116,s_ "=E5" 1120,s_ "=E6" 1124,s_ "=E7" 1128,s_ "=E8" 1132,s_ "=E9" 1136,s_ "=EA" 1140,s_ "=EB" 1144,s_ "=EC" 1148,s_ "=ED" 1152,s_ "=EE" 1156,s_ "=EF" 1160,s_ "=F0" 1164,s_ "=F1" 1168,s_ "=F2" 1172,s_ "=F3" 1176,s_ "=F4" 1180,s_ "=F5" 1184,s_ "=F6" 1188,s_ "=F7" 1192,s_ "=F8" 1196,s_ "=F9" 1200,s_ "=FA" 1204,s_ "=FB" 1208,s_ "=FC" 1212,s_ "=FD" 1216,s_ "=FE" 1220,s_ "=FF" 1224] 256),#[]⟩
noncomputable def o23 (P:Params):Obj:=dO #[] 2
noncomputable def o24 (P:Params):Obj:=⟨.type "StopIteration",none,(.fields #[.ref 26,.none,.none,.none,.bool false,.none]),#[]⟩
noncomputable def tr4 (P:Params):BT:=nd o0 P (nd o1 P (nd o19 P (nd o7 P (lf o7 P) (lf o21 P)) (nd o7 P (lf o16 P) (lf o24 P))) (nd o5 P (nd o9 P (lf o15 P) (lf o23 P)) (nd o11 P (lf o18 P) .nil))) (nd o2 P (nd o4 P (nd o8 P (lf o8 P) (lf o22 P)) (nd o14 P (lf o17 P) .nil)) (nd o6 P (nd o10 P (lf o7 P) (lf o7 P)) (nd o12 P (lf o20 P) .nil)))
noncomputable def o25 (P:Params):Obj:=dO #[e_ P "__name__" 165 (s_ "cpy313.email.quoprimime" 1241),e_ P "__doc__" 166 .none,e_ P "__package__" 167 .none,e_ P "__loader__" 168 (.builtin "__main__.__loader__#opaque"),e_ P "__spec__" 169 .none,e_ P "__annotations__" 170 (.ref 6),e_ P "__builtins__" 171 (.ref 4),e_ P "__file__" 173 (s_ "/claim/cut.py" 172),e_ P "__cached__" 174 .none,e_ P "_wall" 193 (.ref 21),e_ P "CRLF" 195 (s_ "\x0d\n" 194),e_ P "NL" 197 (s_ "\n" 196),e_ P "_QUOPRI_MAP" 1225 (.ref 24),e_ P "_QUOPRI_HEADER_MAP" 1226 (.ref 29),e_ P "_QUOPRI_BODY_MAP" 1227 (.ref 31),e_ P "ascii_lowercase" 1229 (s_ "abcdefghijklmnopqrstuvwxyz" 1228),e_ P "ascii_uppercase" 1231 (s_ "ABCDEFGHIJKLMNOPQRSTUVWXYZ" 1230),e_ P "ascii_letters" 1233 (s_ "abcdefghijklmnopqrstuvwxyzABCDEFGHIJKLMNOPQRSTUVWXYZ" 1232),e_ P "digits" 1235 (s_ "0123456789" 1234),e_ P "hexdigits" 1240 (s_ "0123456789abcdefABCDEF" 1239)] 20
noncomputable def o26 (P:Params):Obj:=⟨.type "slice",none,.fields #[.none,.none,.none],#[]⟩
noncomputable def o27 (P:Params):Obj:=⟨.type "list",none,(.seq #[s_ "=00" 204,s_ "=01" 208,s_ "=02" 212,s_ "=03" 216,s_ "=04" 220,s_ "=05" 224,s_ "=06" 228,s_ "=07" 232,s_ "=08" 236,s_ "=09" 240,s_ "=0A" 244,s_ "=0B" 248,s_ "=0C" 252,s_ "=0D" 256,s_ "=0E" 260,s_ "=0F" 264,s_ "=10" 268,s_ "=11" 272,s_ "=12" 276,s_ "=13" 280,s_ "=14" 284,s_ "=15" 288,s_ "=16" 292,s_ "=17" 296,s_ "=18" 300,s_ "=19" 304,s_ "=1A" 308,s_ "=1B" 312,s_ "=1C" 316,s_ "=1D" 320,s_ "=1E" 324,s_ "=1F" 328,s_ "=20" 332,s_ "=21" 336,s_ "=22" 340,s_ "=23" 344,s_ "=24" 348,s_ "=25" 352,s_ "=26" 356,s_ "=27" 360,s_ "=28" 364,s_ "=29" 368,s_ "=2A" 372,s_ "=2B" 376,s_ "=2C" 380,s_ "=2D" 384,s_ "=2E" 388,s_ "=2F" 392,s_ "=30" 396,s_ "=31" 400,s_ "=32" 404,s_ "=33" 408,s_ "=34" 412,s_ "=35" 416,s_ "=36" 420,s_ "=37" 424,s_ "=38" 428,s_ "=39" 432,s_ "=3A" 436,s_ "=3B" 440,s_ "=3C" 444,s_ "=3D" 448,s_ "=3E" 452,s_ "=3F" 456,s_ "=40" 460,s_ "=41" 464,s_ "=42" 468,s_ "=43" 472,s_ "=44" 476,s_ "=45" 480,s_ "=46" 484,s_ "=47" 488,s_ "=48" 492,s_ "=49" 496,s_ "=4A" 500,s_ "=4B" 504,s_ "=4C" 508,s_ "=4D" 512,s_ "=4E" 516,s_ "=4F" 520,s_ "=50" 524,s_ "=51" 528,s_ "=52" 532,s_ "=53" 536,s_ "=54" 540,s_ "=55" 544,s_ "=56" 548,s_ "=57" 552,s_ "=58" 556,s_ "=59" 560,s_ "=5A" 564,s_ "=5B" 568,s_ "=5C" 572,s_ "=5D" 576,s_ "=5E" 580,s_ "=5F" 584,s_ "=60" 588,s_ "=61" 592,s_ "=62" 596,s_ "=63" 600,s_ "=64" 604,s_ "=65" 608,s_ "=66" 612,s_ "=67" 616,s_ "=68" 620,s_ "=69" 624,s_ "=6A" 628,s_ "=6B" 632,s_ "=6C" 636,s_ "=6D" 640,s_ "=6E" 644,s_ "=6F" 648,s_ "=70" 652,s_ "=71" 656,s_ "=72" 660,s_ "=73" 664,s_ "=74" 668,s_ "=75" 672,s_ "=76" 676,s_ "=77" 680,s_ "=78" 684,s_ "=79" 688,s_ "=7A" 692,s_ "=7B" 696,s_ "=7C" 700,s_ "=7D" 704,s_ "=7E" 708,s_ "=7F" 712,s_ "=80" 716,s_ "=81" 720,s_ "=82" 724,s_ "=83" 728,s_ "=84" 732,s_ "=85" 736,s_ "=86" 740,s_ "=87" 744,s_ "=88" 748,s_ "=89" 752,s_ "=8A" 756,s_ "=8B" 760,s_ "=8C" 764,s_ "=8D" 768,s_ "=8E" 772,s_ "=8F" 776,s_ "=90" 780,s_ "=91" 784,s_ "=92" 788,s_ "=93" 792,s_ "=94" 796,s_ "=95" 800,s_ "=96" 804,s_ "=97" 808,s_ "=98" 812,s_ "=99" 816,s_ "=9A" 820,s_ "=9B" 824,s_ "=9C" 828,s_ "=9D" 832,s_ "=9E" 836,s_ "=9F" 840,s_ "=A0" 844,s_ "=A1" 848,s_ "=A2" 852,s_ "=A3" 856,s_ "=A4" 860,s_ "=A5" 864,s_ "=A6" 868,s_ "=A7" 872,s_ "=A8" 876,s_ "=A9" 880,s_ "=AA" 884,s_ "=AB" 888,s_ "=AC" 892,s_ "=AD" 896,s_ "=AE" 900,s_ "=AF" 904,s_ "=B0" 908,s_ "=B1" 912,s_ "=B2" 916,s_ "=B3" 920,s_ "=B4" 924,s_ "=B5" 928,s_ "=B6" 932,s_ "=B7" 936,s_ "=B8" 940,s_ "=B9" 944,s_ "=BA" 948,s_ "=BB" 952,s_ "=BC" 956,s_ "=BD" 960,s_ "=BE" 964,s_ "=BF" 968,s_ "=C0" 972,s_ "=C1" 976,s_ "=C2" 980,s_ "=C3" 984,s_ "=C4" 988,s_ "=C5" 992,s_ "=C6" 996,s_ "=C7" 1000,s_ "=C8" 1004,s_ "=C9" 1008,s_ "=CA" 1012,s_ "=CB" 1016,s_ "=CC" 1020,s_ "=CD" 1024,s_ "=CE" 1028,s_ "=CF" 1032,s_ "=D0" 1036,s_ "=D1" 1040,s_ "=D2" 1044,s_ "=D3" 1048,s_ "=D4" 1052,s_ "=D5" 1056,s_ "=D6" 1060,s_ "=D7" 1064,s_ "=D8" 1068,s_ "=D9" 1072,s_ "=DA" 1076,s_ "=DB" 1080,s_ "=DC" 1084,s_ "=DD" 1088,s_ "=DE" 1092,s_ "=DF" 1096,s_ "=E0" 1100,s_ "=E1" 1104,s_ "=E2" 1108,s_ "=E3" 1112,s_ "=E4" 1116,s_ "=E5" 1120,s_ "=E6" 1124,s_ "=E7" 1128,s_ "=E8" 1132,s_ "=E9" 1136,s_ "=EA" 1140,s_ "=EB" 1144,s_ "=EC" 1148,s_ "=ED" 1152,s_ "=EE" 1156,s_ "=EF" 1160,s_ "=F0" 1164,s_ "=F1" 1168,s_ "=F2" 1172,s_ "=F3" 1176,s_ "=F4" 1180,s_ "=F5" 1184,s_ "=F6" 1188,s_ "=F7" 1192,s_ "=F8" 1196,s_ "=F9" 1200,s_ "=FA" 1204,s_ "=FB" 1208,s_ "=FC" 1212,s_ "=FD" 1216,s_ "=FE" 1220,s_ "=FF" 1224] 0),#[]⟩
noncomputable def tr12 (P:Params):BT:=nd o0 P (nd o1 P (nd o25 P (nd o7 P (nd o7 P (lf o27 P) .nil) (lf o21 P)) (nd o7 P (lf o16 P) (lf o24 P))) (nd o5 P (nd o9 P (lf o15 P) (lf o23 P)) (nd o11 P (lf o18 P) (lf o27 P)))) (nd o2 P (nd o4 P (nd o8 P (lf o8 P) (lf o22 P)) (nd o14 P (lf o17 P) (lf o26 P))) (nd o6 P (nd o10 P (lf o7 P) (lf o7 P)) (nd o12 P (lf o20 P) (lf o26 P))))
noncomputable def o28 (P:Params):Obj:=dO #[e_ P "__name__" 165 (s_ "cpy313.email.quoprimime" 1241),e_ P "__doc__" 166 .none,e_ P "__package__" 167 .none,e_ P "__loader__" 168 (.builtin "__main__.__loader__#opaque"),e_ P "__spec__" 169 .none,e_ P "__annotations__" 170 (.ref 6),e_ P "__builtins__" 171 (.ref 4),e_ P "__file__" 173 (s_ "/claim/cut.py" 172),e_ P "__cached__" 174 .none,e_ P "_wall" 193 (.ref 21),e_ P "CRLF" 195 (s_ "\x0d\n" 194),e_ P "NL" 197 (s_ "\n" 196),e_ P "_QUOPRI_MAP" 1225 (.ref 24),e_ P "_QUOPRI_HEADER_MAP" 1226 (.ref 29),e_ P "_QUOPRI_BODY_MAP" 1227 (.ref 31),e_ P "ascii_lowercase" 1229 (s_ "abcdefghijklmnopqrstuvwxyz" 1228),e_ P "ascii_uppercase" 1231 (s_ "ABCDEFGHIJKLMNOPQRSTUVWXYZ" 1230),e_ P "ascii_letters" 1233 (s_ "abcdefghijklmnopqrstuvwxyzABCDEFGHIJKLMNOPQRSTUVWXYZ" 1232),e_ P "digits" 1235 (s_ "0123456789" 1234),e_ P "hexdigits" 1240 (s_ "0123456789abcdefABCDEF" 1239),e_ P "c" 1251 (.int 57 1448)] 21
noncomputable def o29 (P:Params):Obj:=⟨.type "list",none,(.seq #[s_ "=00" 204,s_ "=01" 208,s_ "=02" 212,s_ "=03" 216,s_ "=04" 220,s_ "=05" 224,s_ "=06" 228,s_ "=07" 232,s_ "=08" 236,s_ "=09" 240,s_ "=0A" 244,s_ "=0B" 248,s_ "=0C" 252,s_ "=0D" 256,s_ "=0E" 260,s_ "=0F" 264,s_ "=10" 268,s_ "=11" 272,s_ "=12" 276,s_ "=13" 280,s_ "=14" 284,s_ "=15" 288,s_ "=16" 292,s_ "=17" 296,s_ "=18" 300,s_ "=19" 304,s_ "=1A" 308,s_ "=1B" 312,s_ "=1C" 316,s_ "=1D" 320,s_ "=1E" 324,s_ "=1F" 328,s_ "=20" 332,s_ "!" 1255,s_ "=22" 340,s_ "=23" 344,s_ "=24" 348,s_ "=25" 352,s_ "=26" 356,s_ "=27" 360,s_ "=28" 364,s_ "=29" 368,s_ "*" 1258,s_ "+" 1261,s_ "=2C" 380,s_ "-" 1252,s_ "=2E" 388,s_ "/" 1264,s_ "0" 1423,s_ "1" 1426,s_ "2" 1429,s_ "3" 1432,s_ "4" 1435,s_ "5" 1438,s_ "6" 1441,s_ "7" 1444,s_ "8" 1447,s_ "9" 1450,s_ "=3A" 436,s_ "=3B" 440,s_ "=3C" 444,s_ "=3D" 448,s_ "=3E" 452,s_ "=3F" 456,s_ "=40" 460,s_ "A" 1345,s_ "B" 1348,s_ "C" 1351,s_ "D" 1354,s_ "E" 1357,s_ "F" 1360,s_ "G" 1363,s_ "H" 1366,s_ "I" 1369,s_ "J" 1372,s_ "K" 1375,s_ "L" 1378,s_ "M" 1381,s_ "N" 1384,s_ "O" 1387,s_ "P" 1390,s_ "Q" 1393,s_ "R" 1396,s_ "S" 1399,s_ "T" 1402,s_ "U" 1405,s_ "V" 1408,s_ "W" 1411,s_ "X" 1414,s_ "Y" 1417,s_ "Z" 1420,s_ "=5B" 568,s_ "=5C" 572,s_ "=5D" 576,s_ "=5E" 580,s_ "=5F" 584,s_ "=60" 588,s_ "a" 1267,s_ "b" 1270,s_ "c" 1273,s_ "d" 1276,s_ "e" 1279,s_ "f" 1282,s_ "g" 1285,s_ "h" 1288,s_ "i" 1291,s_ "j" 1294,s_ "k" 1297,s_ "l" 1300,s_ "m" 1303,s_ "n" 1306,s_ "o" 1309,s_ "p" 1312,s_ "q" 1315,s_ "r" 1318,s_ "s" 1321,s_ "t" 1324,s_ "u" 1327,s_ "v" 1330,s_ "w" 1333,s_ "x" 1336,s_ "y" 1339,s_ "z" 1342,s_ "=7B" 696,s_ "=7C" 700,s_ "=7D" 704,s_ "=7E" 708,s_ "=7F" 712,s_ "=80" 716,s_ "=81" 720,s_ "=82" 724,s_ "=83" 728,s_ "=84" 732,s_ "=85" 736,s_ "=86" 740,s_ "=87" 744,s_ "=88" 748,s_ "=89" 752,s_ "=8A" 756,s_ "=8B" 760,s_ "=8C" 764,s_ "=8D" 768,s_ "=8E" 772,s_ "=8F" 776,s_ "=90" 780,s_ "=91" 784,s_ "=92" 788,s_ "=93" 792,s_ "=94" 796,s_ "=95" 800,s_ "=96" 804,s_ "=97" 808,s_ "=98" 812,s_ "=99" 816,s_ "=9A" 820,s_ "=9B" 824,s_ "=9C" 828,s_ "=9D" 832,s_ "=9E" 836,s_ "=9F" 840,s_ "=A0" 844,s_ "=A1" 848,s_ "=A2" 852,s_ "=A3" 856,s_ "=A4" 860,s_ "=A5" 864,s_ "=A6" 868,s_ "=A7" 872,s_ "=A8" 876,s_ "=A9" 880,s_ "=AA" 884,s_ "=AB" 888,s_ "=AC" 892,s_ "=AD" 896,s_ "=AE" 900,s_ "=AF" 904,s_ "=B0" 908,s_ "=B1" 912,s_ "=B2" 916,s_ "=B3" 920,s_ "=B4" 924,s_ "=B5" 928,s_ "=B6" 932,s_ "=B7" 936,s_ "=B8" 940,s_ "=B9" 944,s_ "=BA" 948,s_ "=BB" 952,s_ "=BC" 956,s_ "=BD" 960,s_ "=BE" 964,s_ "=BF" 968,s_ "=C0" 972,s_ "=C1" 976,s_ "=C2" 980,s_ "=C3" 984,s_ "=C4" 988,s_ "=C5" 992,s_ "=C6" 996,s_ "=C7" 1000,s_ "=C8" 1004,s_ "=C9" 1008,s_ "=CA" 1012,s_ "=CB" 1016,s_ "=CC" 1020,s_ "=CD" 1024,s_ "=CE" 1028,s_ "=CF" 1032,s_ "=D0" 1036,s_ "=D1" 1040,s_ "=D2" 1044,s_ "=D3" 1048,s_ "=D4" 1052,s_ "=D5" 1056,s_ "=D6" 1060,s_ "=D7" 1064,s_ "=D8" 1068,s_ "=D9" 1072,s_ "=DA" 1076,s_ "=DB" 1080,s_ "=DC" 1084,s_ "=DD" 1088,s_ "=DE" 1092,s_ "=DF" 1096,s_ "=E0" 1100,s_ "=E1" 1104,s_ "=E2" 1108,s_ "=E3" 1112,s_ "=E4" 1116,s_ "=E5" 1120,s_ "=E6" 1124,s_ "=E7" 1128,s_ "=E8" 1132,s_ "=E9" 1136,s_ "=EA" 1140,s_ "=EB" 1144,s_ "=EC" 1148,s_ "=ED" 1152,s_ "=EE" 1156,s_ "=EF" 1160,s_ "=F0" 1164,s_ "=F1" 1168,s_ "=F2" 1172,s_ "=F3" 1176,s_ "=F4" 1180,s_ "=F5" 1184,s_ "=F6" 1188,s_ "=F7" 1192,s_ "=F8" 1196,s_ "=F9" 1200,s_ "=FA" 1204,s_ "=FB" 1208,s_ "=FC" 1212,s_ "=FD" 1216,s_ "=FE" 1220,s_ "=FF" 1224] 0),#[]⟩
noncomputable def o30 (P:Params):Obj:=⟨.type "bytes_iterator",none,(.fields #[.none,.int 67 0]),#[]⟩
noncomputable def o31 (P:Params):Obj:=⟨.type "StopIteration",none,(.fields #[.ref 33,.none,.none,.none,.bool false,.none]),#[]⟩
noncomputable def tr13 (P:Params):BT:=nd o0 P (nd o1 P (nd o28 P (nd o7 P (nd o7 P (lf o27 P) .nil) (lf o21 P)) (nd o7 P (lf o16 P) (lf o24 P))) (nd o5 P (nd o9 P (nd o15 P (lf o7 P) .nil) (lf o23 P)) (nd o11 P (lf o18 P) (lf o29 P)))) (nd o2 P (nd o4 P (nd o8 P (nd o8 P (lf o30 P) .nil) (lf o22 P)) (nd o14 P (lf o17 P) (lf o26 P))) (nd o6 P (nd o10 P (nd o7 P (lf o31 P) .nil) (lf o7 P)) (nd o12 P (lf o20 P) (lf o26 P))))
noncomputable def o32 (P:Params):Obj:=⟨.type "list",none,(.seq #[s_ "=00" 204,s_ "=01" 208,s_ "=02" 212,s_ "=03" 216,s_ "=04" 220,s_ "=05" 224,s_ "=06" 228,s_ "=07" 232,s_ "=08" 236,s_ "=09" 240,s_ "=0A" 244,s_ "=0B" 248,s_ "=0C" 252,s_ "=0D" 256,s_ "=0E" 260,s_ "=0F" 264,s_ "=10" 268,s_ "=11" 272,s_ "=12" 276,s_ "=13" 280,s_ "=14" 284,s_ "=15" 288,s_ "=16" 292,s_ "=17" 296,s_ "=18" 300,s_ "=19" 304,s_ "=1A" 308,s_ "=1B" 312,s_ "=1C" 316,s_ "=1D" 320,s_ "=1E" 324,s_ "=1F" 328,s_ "_" 1451,s_ "!" 1255,s_ "=22" 340,s_ "=23" 344,s_ "=24" 348,s_ "=25" 352,s_ "=26" 356,s_ "=27" 360,s_ "=28" 364,s_ "=29" 368,s_ "*" 1258,s_ "+" 1261,s_ "=2C" 380,s_ "-" 1252,s_ "=2E" 388,s_ "/" 1264,s_ "0" 1423,s_ "1" 1426,s_ "2" 1429,s_ "3" 1432,s_ "4" 1435,s_ "5" 1438,s_ "6" 1441,s_ "7" 1444,s_ "8" 1447,s_ "9" 1450,s_ "=3A" 436,s_ "=3B" 440,s_ "=3C" 444,s_ "=3D" 448,s_ "=3E" 452,s_ "=3F" 456,s_ "=40" 460,s_ "A" 1345,s_ "B" 1348,s_ "C" 1351,s_ "D" 1354,s_ "E" 1357,s_ "F" 1360,s_ "G" 1363,s_ "H" 1366,s_ "I" 1369,s_ "J" 1372,s_ "K" 1375,s_ "L" 1378,s_ "M" 1381,s_ "N" 1384,s_ "O" 1387,s_ "P" 1390,s_ "Q" 1393,s_ "R" 1396,s_ "S" 1399,s_ "T" 1402,s_ "U" 1405,s_ "V" 1408,s_ "W" 1411,s_ "X" 1414,s_ "Y" 1417,s_ "Z" 1420,s_ "=5B" 568,s_ "=5C" 572,s_ "=5D" 576,s_ "=5E" 580,s_ "=5F" 584,s_ "=60" 588,s_ "a" 1267,s_ "b" 1270,s_ "c" 1273,s_ "d" 1276,s_ "e" 1279,s_ "f" 1282,s_ "g" 1285,s_ "h" 1288,s_ "i" 1291,s_ "j" 1294,s_ "k" 1297,s_ "l" 1300,s_ "m" 1303,s_ "n" 1306,s_ "o" 1309,s_ "p" 1312,s_ "q" 1315,s_ "r" 1318,s_ "s" 1321,s_ "t" 1324,s_ "u" 1327,s_ "v" 1330,s_ "w" 1333,s_ "x" 1336,s_ "y" 1339,s_ "z" 1342,s_ "=7B" 696,s_ "=7C" 700,s_ "=7D" 704,s_ "=7E" 708,s_ "=7F" 712,s_ "=80" 716,s_ "=81" 720,s_ "=82" 724,s_ "=83" 728,s_ "=84" 732,s_ "=85" 736,s_ "=86" 740,s_ "=87" 744,s_ "=88" 748,s_ "=89" 752,s_ "=8A" 756,s_ "=8B" 760,s_ "=8C" 764,s_ "=8D" 768,s_ "=8E" 772,s_ "=8F" 776,s_ "=90" 780,s_ "=91" 784,s_ "=92" 788,s_ "=93" 792,s_ "=94" 796,s_ "=95" 800,s_ "=96" 804,s_ "=97" 808,s_ "=98" 812,s_ "=99" 816,s_ "=9A" 820,s_ "=9B" 824,s_ "=9C" 828,s_ "=9D" 832,s_ "=9E" 836,s_ "=9F" 840,s_ "=A0" 844,s_ "=A1" 848,s_ "=A2" 852,s_ "=A3" 856,s_ "=A4" 860,s_ "=A5" 864,s_ "=A6" 868,s_ "=A7" 872,s_ "=A8" 876,s_ "=A9" 880,s_ "=AA" 884,s_ "=AB" 888,s_ "=AC" 892,s_ "=AD" 896,s_ "=AE" 900,s_ "=AF" 904,s_ "=B0" 908,s_ "=B1" 912,s_ "=B2" 916,s_ "=B3" 920,s_ "=B4" 924,s_ "=B5" 928,s_ "=B6" 932,s_ "=B7" 936,s_ "=B8" 940,s_ "=B9" 944,s_ "=BA" 948,s_ "=BB" 952,s_ "=BC" 956,s_ "=BD" 960,s_ "=BE" 964,s_ "=BF" 968,s_ "=C0" 972,s_ "=C1" 976,s_ "=C2" 980,s_ "=C3" 984,s_ "=C4" 988,s_ "=C5" 992,s_ "=C6" 996,s_ "=C7" 1000,s_ "=C8" 1004,s_ "=C9" 1008,s_ "=CA" 1012,s_ "=CB" 1016,s_ "=CC" 1020,s_ "=CD" 1024,s_ "=CE" 1028,s_ "=CF" 1032,s_ "=D0" 1036,s_ "=D1" 1040,s_ "=D2" 1044,s_ "=D3" 1048,s_ "=D4" 1052,s_ "=D5" 1056,s_ "=D6" 1060,s_ "=D7" 1064,s_ "=D8" 1068,s_ "=D9" 1072,s_ "=DA" 1076,s_ "=DB" 1080,s_ "=DC" 1084,s_ "=DD" 1088,s_ "=DE" 1092,s_ "=DF" 1096,s_ "=E0" 1100,s_ "=E1" 1104,s_ "=E2" 1108,s_ "=E3" 1112,s_ "=E4" 1116,s_ "=E5" 1120,s_ "=E6" 1124,s_ "=E7" 1128,s_ "=E8" 1132,s_ "=E9" 1136,s_ "=EA" 1140,s_ "=EB" 1144,s_ "=EC" 1148,s_ "=ED" 1152,s_ "=EE" 1156,s_ "=EF" 1160,s_ "=F0" 1164,s_ "=F1" 1168,s_ "=F2" 1172,s_ "=F3" 1176,s_ "=F4" 1180,s_ "=F5" 1184,s_ "=F6" 1188,s_ "=F7" 1192,s_ "=F8" 1196,s_ "=F9" 1200,s_ "=FA" 1204,s_ "=FB" 1208,s_ "=FC" 1212,s_ "=FD" 1216,s_ "=FE" 1220,s_ "=FF" 1224] 0),#[]⟩
noncomputable def tr14 (P:Params):BT:=nd o0 P (nd o1 P (nd o28 P (nd o7 P (nd o7 P (lf o27 P) .nil) (lf o21 P)) (nd o7 P (lf o16 P) (lf o24 P))) (nd o5 P (nd o9 P (nd o15 P (lf o7 P) .nil) (lf o23 P)) (nd o11 P (lf o18 P) (lf o32 P)))) (nd o2 P (nd o4 P (nd o8 P (nd o8 P (lf o30 P) .nil) (lf o22 P)) (nd o14 P (lf o17 P) (lf o26 P))) (nd o6 P (nd o10 P (nd o7 P (lf o31 P) .nil) (lf o7 P)) (nd o12 P (lf o20 P) (lf o26 P))))
noncomputable def o33 (P:Params):Obj:=dO #[e_ P "__name__" 165 (s_ "cpy313.email.quoprimime" 1241),e_ P "__doc__" 166 .none,e_ P "__package__" 167 .none,e_ P "__loader__" 168 (.builtin "__main__.__loader__#opaque"),e_ P "__spec__" 169 .none,e_ P "__annotations__" 170 (.ref 6),e_ P "__builtins__" 171 (.ref 4),e_ P "__file__" 173 (s_ "/claim/cut.py" 172),e_ P "__cached__" 174 .none,e_ P "_wall" 193 (.ref 21),e_ P "CRLF" 195 (s_ "\x0d\n" 194),e_ P "NL" 197 (s_ "\n" 196),e_ P "_QUOPRI_MAP" 1225 (.ref 24),e_ P "_QUOPRI_HEADER_MAP" 1226 (.ref 29),e_ P "_QUOPRI_BODY_MAP" 1227 (.ref 31),e_ P "ascii_lowercase" 1229 (s_ "abcdefghijklmnopqrstuvwxyz" 1228),e_ P "ascii_uppercase" 1231 (s_ "ABCDEFGHIJKLMNOPQRSTUVWXYZ" 1230),e_ P "ascii_letters" 1233 (s_ "abcdefghijklmnopqrstuvwxyzABCDEFGHIJKLMNOPQRSTUVWXYZ" 1232),e_ P "digits" 1235 (s_ "0123456789" 1234),e_ P "hexdigits" 1240 (s_ "0123456789abcdefABCDEF" 1239),e_ P "c" 1251 (.int 9 1737)] 21
noncomputable def o34 (P:Params):Obj:=⟨.type "list",none,(.seq #[s_ "=00" 204,s_ "=01" 208,s_ "=02" 212,s_ "=03" 216,s_ "=04" 220,s_ "=05" 224,s_ "=06" 228,s_ "=07" 232,s_ "=08" 236,s_ "\t" 1739,s_ "=0A" 244,s_ "=0B" 248,s_ "=0C" 252,s_ "=0D" 256,s_ "=0E" 260,s_ "=0F" 264,s_ "=10" 268,s_ "=11" 272,s_ "=12" 276,s_ "=13" 280,s_ "=14" 284,s_ "=15" 288,s_ "=16" 292,s_ "=17" 296,s_ "=18" 300,s_ "=19" 304,s_ "=1A" 308,s_ "=1B" 312,s_ "=1C" 316,s_ "=1D" 320,s_ "=1E" 324,s_ "=1F" 328,s_ " " 1457,s_ "!" 1460,s_ "\"" 1463,s_ "#" 1466,s_ "$" 1469,s_ "%" 1472,s_ "&" 1475,s_ "'" 1478,s_ "(" 1481,s_ ")" 1484,s_ "*" 1487,s_ "+" 1490,s_ "," 1493,s_ "-" 1496,s_ "." 1499,s_ "/" 1502,s_ "0" 1505,s_ "1" 1508,s_ "2" 1511,s_ "3" 1514,s_ "4" 1517,s_ "5" 1520,s_ "6" 1523,s_ "7" 1526,s_ "8" 1529,s_ "9" 1532,s_ ":" 1535,s_ ";" 1538,s_ "<" 1541,s_ "=3D" 448,s_ ">" 1544,s_ "?" 1547,s_ "@" 1550,s_ "A" 1553,s_ "B" 1556,s_ "C" 1559,s_ "D" 1562,s_ "E" 1565,s_ "F" 1568,s_ "G" 1571,s_ "H" 1574,s_ "I" 1577,s_ "J" 1580,s_ "K" 1583,s_ "L" 1586,s_ "M" 1589,s_ "N" 1592,s_ "O" 1595,s_ "P" 1598,s_ "Q" 1601,s_ "R" 1604,s_ "S" 1607,s_ "T" 1610,s_ "U" 1613,s_ "V" 1616,s_ "W" 1619,s_ "X" 1622,s_ "Y" 1625,s_ "Z" 1628,s_ "[" 1631,s_ "\\" 1634,s_ "]" 1637,s_ "^" 1640,s_ "_" 1643,s_ "`" 1646,s_ "a" 1649,s_ "b" 1652,s_ "c" 1655,s_ "d" 1658,s_ "e" 1661,s_ "f" 1664,s_ "g" 1667,s_ "h" 1670,s_ "i" 1673,s_ "j" 1676,s_ "k" 1679,s_ "l" 1682,s_ "m" 1685,s_ "n" 1688,s_ "o" 1691,s_ "p" 1694,s_ "q" 1697,s_ "r" 1700,s_ "s" 1703,s_ "t" 1706,s_ "u" 1709,s_ "v" 1712,s_ "w" 1715,s_ "x" 1718,s_ "y" 1721,s_ "z" 1724,s_ "{" 1727,s_ "|" 1730,s_ "}" 1733,s_ "~" 1736,s_ "=7F" 712,s_ "=80" 716,s_ "=81" 720,s_ "=82" 724,s_ "=83" 728,s_ "=84" 732,s_ "=85" 736,s_ "=86" 740,s_ "=87" 744,s_ "=88" 748,s_ "=89" 752,s_ "=8A" 756,s_ "=8B" 760,s_ "=8C" 764,s_ "=8D" 768,s_ "=8E" 772,s_ "=8F" 776,s_ "=90" 780,s_ "=91" 784,s_ "=92" 788,s_ "=93" 792,s_ "=94" 796,s_ "=95" 800,s_ "=96" 804,s_ "=97" 808,s_ "=98" 812,s_ "=99" 816,s_ "=9A" 820,s_ "=9B" 824,s_ "=9C" 828,s_ "=9D" 832,s_ "=9E" 836,s_ "=9F" 840,s_ "=A0" 844,s_ "=A1" 848,s_ "=A2" 852,s_ "=A3" 856,s_ "=A4" 860,s_ "=A5" 864,s_ "=A6" 868,s_ "=A7" 872,s_ "=A8" 876,s_ "=A9" 880,s_ "=AA" 884,s_ "=AB" 888,s_ "=AC" 892,s_ "=AD" 896,s_ "=AE" 900,s_ "=AF" 904,s_ "=B0" 908,s_ "=B1" 912,s_ "=B2" 916,s_ "=B3" 920,s_ "=B4" 924,s_ "=B5" 928,s_ "=B6" 932,s_ "=B7" 936,s_ "=B8" 940,s_ "=B9" 944,s_ "=BA" 948,s_ "=BB" 952,s_ "=BC" 956,s_ "=BD" 960,s_ "=BE" 964,s_ "=BF" 968,s_ "=C0" 972,s_ "=C1" 976,s_ "=C2" 980,s_ "=C3" 984,s_ "=C4" 988,s_ "=C5" 992,s_ "=C6" 996,s_ "=C7" 1000,s_ "=C8" 1004,s_ "=C9" 1008,s_ "=CA" 1012,s_ "=CB" 1016,s_ "=CC" 1020,s_ "=CD" 1024,s_ "=CE" 1028,s_ "=CF" 1032,s_ "=D0" 1036,s_ "=D1" 1040,s_ "=D2" 1044,s_ "=D3" 1048,s_ "=D4" 1052,s_ "=D5" 1056,s_ "=D6" 1060,s_ "=D7" 1064,s_ "=D8" 1068,s_ "=D9" 1072,s_ "=DA" 1076,s_ "=DB" 1080,s_ "=DC" 1084,s_ "=DD" 1088,s_ "=DE" 1092,s_ "=DF" 1096,s_ "=E0" 1100,s_ "=E1" 1104,s_ "=E2" 1108,s_ "=E3" 1112,s_ "=E4" 1116,s_ "=E5" 1120,s_ "=E6" 1124,s_ "=E7" 1128,s_ "=E8" 1132,s_ "=E9" 1136,s_ "=EA" 1140,s_ "=EB" 1144,s_ "=EC" 1148,s_ "=ED" 1152,s_ "=EE" 1156,s_ "=EF" 1160,s_ "=F0" 1164,s_ "=F1" 1168,s_ "=F2" 1172,s_ "=F3" 1176,s_ "=F4" 1180,s_ "=F5" 1184,s_ "=F6" 1188,s_ "=F7" 1192,s_ "=F8" 1196,s_ "=F9" 1200,s_ "=FA" 1204,s_ "=FB" 1208,s_ "=FC" 1212,s_ "=FD" 1216,s_ "=FE" 1220,s_ "=FF" 1224] 0),#[]⟩
noncomputable def o35 (P:Params):Obj:=⟨.type "bytes_iterator",none,(.fields #[.none,.int 95 0]),#[]⟩
noncomputable def o36 (P:Params):Obj:=⟨.type "StopIteration",none,(.fields #[.ref 36,.none,.none,.none,.bool false,.none]),#[]⟩
noncomputable def tr15 (P:Params):BT:=nd o0 P (nd o1 P (nd o33 P (nd o7 P (nd o7 P (lf o34 P) .nil) (lf o21 P)) (nd o7 P (nd o16 P (lf o35 P) .nil) (lf o24 P))) (nd o5 P (nd o9 P (nd o15 P (lf o7 P) .nil) (lf o23 P)) (nd o11 P (nd o18 P (lf o36 P) .nil) (lf o32 P)))) (nd o2 P (nd o4 P (nd o8 P (nd o8 P (lf o30 P) .nil) (lf o22 P)) (nd o14 P (nd o17 P (lf o7 P) .nil) (lf o26 P))) (nd o6 P (nd o10 P (nd o7 P (lf o31 P) .nil) (lf o7 P)) (nd o12 P (lf o20 P) (lf o26 P))))
noncomputable def o37 (P:Params):Obj:=dO #[e_ P "__name__" 165 (s_ "cpy313.email.quoprimime" 1241),e_ P "__doc__" 166 .none,e_ P "__package__" 167 .none,e_ P "__loader__" 168 (.builtin "__main__.__loader__#opaque"),e_ P "__spec__" 169 .none,e_ P "__annotations__" 170 (.ref 6),e_ P "__builtins__" 171 (.ref 4),e_ P "__file__" 173 (s_ "/claim/cut.py" 172),e_ P "__cached__" 174 .none,e_ P "_wall" 193 (.ref 21),e_ P "CRLF" 195 (s_ "\x0d\n" 194),e_ P "NL" 197 (s_ "\n" 196),e_ P "_QUOPRI_MAP" 1225 (.ref 24),e_ P "_QUOPRI_HEADER_MAP" 1226 (.ref 29),e_ P "_QUOPRI_BODY_MAP" 1227 (.ref 31),e_ P "ascii_lowercase" 1229 (s_ "abcdefghijklmnopqrstuvwxyz" 1228),e_ P "ascii_uppercase" 1231 (s_ "ABCDEFGHIJKLMNOPQRSTUVWXYZ" 1230),e_ P "ascii_letters" 1233 (s_ "abcdefghijklmnopqrstuvwxyzABCDEFGHIJKLMNOPQRSTUVWXYZ" 1232),e_ P "digits" 1235 (s_ "0123456789" 1234),e_ P "hexdigits" 1240 (s_ "0123456789abcdefABCDEF" 1239),e_ P "c" 1251 (.int 10 1759),e_ P "unquote" 1746 (.ref 44),e_ P "quote" 1753 (.ref 51),e_ P "_QUOPRI_BODY_ENCODE_MAP" 1754 (.ref 53)] 24
noncomputable def o38 (P:Params):Obj:=⟨.none,none,(.fields #[.int 1 0,.int 0 0,.ref 20,.int 20 0,.int 0 0,.ref 43,.int 22 0,.int 0 0,.ref 50]),#[]⟩
noncomputable def o39 (P:Params):Obj:=⟨.type "tuple",none,(.seq #[s_ "s" 1743] 0),#[]⟩
noncomputable def o40 (P:Params):Obj:=⟨.none,none,(.func (fnD (stm 15) 0 .none .none .none .none none .none .none 0 (.ofString "unquote"))),#[]⟩
noncomputable def o41 (P:Params):Obj:=⟨.type "code",none,(.fields #[s_ "unquote" 1740,s_ "unquote" 1741,s_ "/claim/cut.py" 1742,.int 20 0,.int 1 0,.int 0 0,.int 0 0,.int 3 0,.ref 38,.bool true,.int 181 0,.ref 39,.none,.ref 40,.ref 41,.ref 42,.int 1744 0,.int 20 0,s_ "/claim/cut.py" 1745]),#[]⟩
noncomputable def o42 (P:Params):Obj:=⟨.type "function",none,(.func (fnD (stm 15) 3 .none .none .none (s_ "cpy313.email.quoprimime" 1241) none (.ref 43) .none 0 (.ofString "unquote"))),#[]⟩
noncomputable def o43 (P:Params):Obj:=⟨.type "tuple",none,(.seq #[s_ "c" 1750] 0),#[]⟩
noncomputable def o44 (P:Params):Obj:=⟨.none,none,(.func (fnD (stm 16) 0 .none .none .none .none none .none .none 0 (.ofString "quote"))),#[]⟩
noncomputable def o45 (P:Params):Obj:=⟨.type "code",none,(.fields #[s_ "quote" 1747,s_ "quote" 1748,s_ "/claim/cut.py" 1749,.int 22 0,.int 1 0,.int 0 0,.int 0 0,.int 3 0,.ref 45,.bool true,.int 181 0,.ref 46,.none,.ref 47,.ref 48,.ref 49,.int 1751 0,.int 22 0,s_ "/claim/cut.py" 1752]),#[]⟩
noncomputable def o46 (P:Params):Obj:=⟨.type "function",none,(.func (fnD (stm 16) 3 .none .none .none (s_ "cpy313.email.quoprimime" 1241) none (.ref 50) .none 0 (.ofString "quote"))),#[]⟩
noncomputable def o47 (P:Params):Obj:=⟨.type "list",none,(.seq #[s_ "=00" 204,s_ "=01" 208,s_ "=02" 212,s_ "=03" 216,s_ "=04" 220,s_ "=05" 224,s_ "=06" 228,s_ "=07" 232,s_ "=08" 236,s_ "\t" 1739,s_ "\n" 1761,s_ "=0B" 248,s_ "=0C" 252,s_ "\x0d" 1758,s_ "=0E" 260,s_ "=0F" 264,s_ "=10" 268,s_ "=11" 272,s_ "=12" 276,s_ "=13" 280,s_ "=14" 284,s_ "=15" 288,s_ "=16" 292,s_ "=17" 296,s_ "=18" 300,s_ "=19" 304,s_ "=1A" 308,s_ "=1B" 312,s_ "=1C" 316,s_ "=1D" 320,s_ "=1E" 324,s_ "=1F" 328,s_ " " 1457,s_ "!" 1460,s_ "\"" 1463,s_ "#" 1466,s_ "$" 1469,s_ "%" 1472,s_ "&" 1475,s_ "'" 1478,s_ "(" 1481,s_ ")" 1484,s_ "*" 1487,s_ "+" 1490,s_ "," 1493,s_ "-" 1496,s_ "." 1499,s_ "/" 1502,s_ "0" 1505,s_ "1" 1508,s_ "2" 1511,s_ "3" 1514,s_ "4" 1517,s_ "5" 1520,s_ "6" 1523,s_ "7" 1526,s_ "8" 1529,s_ "9" 1532,s_ ":" 1535,s_ ";" 1538,s_ "<" 1541,s_ "=3D" 448,s_ ">" 1544,s_ "?" 1547,s_ "@" 1550,s_ "A" 1553,s_ "B" 1556,s_ "C" 1559,s_ "D" 1562,s_ "E" 1565,s_ "F" 1568,s_ "G" 1571,s_ "H" 1574,s_ "I" 1577,s_ "J" 1580,s_ "K" 1583,s_ "L" 1586,s_ "M" 1589,s_ "N" 1592,s_ "O" 1595,s_ "P" 1598,s_ "Q" 1601,s_ "R" 1604,s_ "S" 1607,s_ "T" 1610,s_ "U" 1613,s_ "V" 1616,s_ "W" 1619,s_ "X" 1622,s_ "Y" 1625,s_ "Z" 1628,s_ "[" 1631,s_ "\\" 1634,s_ "]" 1637,s_ "^" 1640,s_ "_" 1643,s_ "`" 1646,s_ "a" 1649,s_ "b" 1652,s_ "c" 1655,s_ "d" 1658,s_ "e" 1661,s_ "f" 1664,s_ "g" 1667,s_ "h" 1670,s_ "i" 1673,s_ "j" 1676,s_ "k" 1679,s_ "l" 1682,s_ "m" 1685,s_ "n" 1688,s_ "o" 1691,s_ "p" 1694,s_ "q" 1697,s_ "r" 1700,s_ "s" 1703,s_ "t" 1706,s_ "u" 1709,s_ "v" 1712,s_ "w" 1715,s_ "x" 1718,s_ "y" 1721,s_ "z" 1724,s_ "{" 1727,s_ "|" 1730,s_ "}" 1733,s_ "~" 1736,s_ "=7F" 712,s_ "=80" 716,s_ "=81" 720,s_ "=82" 724,s_ "=83" 728,s_ "=84" 732,s_ "=85" 736,s_ "=86" 740,s_ "=87" 744,s_ "=88" 748,s_ "=89" 752,s_ "=8A" 756,s_ "=8B" 760,s_ "=8C" 764,s_ "=8D" 768,s_ "=8E" 772,s_ "=8F" 776,s_ "=90" 780,s_ "=91" 784,s_ "=92" 788,s_ "=93" 792,s_ "=94" 796,s_ "=95" 800,s_ "=96" 804,s_ "=97" 808,s_ "=98" 812,s_ "=99" 816,s_ "=9A" 820,s_ "=9B" 824,s_ "=9C" 828,s_ "=9D" 832,s_ "=9E" 836,s_ "=9F" 840,s_ "=A0" 844,s_ "=A1" 848,s_ "=A2" 852,s_ "=A3" 856,s_ "=A4" 860,s_ "=A5" 864,s_ "=A6" 868,s_ "=A7" 872,s_ "=A8" 876,s_ "=A9" 880,s_ "=AA" 884,s_ "=AB" 888,s_ "=AC" 892,s_ "=AD" 896,s_ "=AE" 900,s_ "=AF" 904,s_ "=B0" 908,s_ "=B1" 912,s_ "=B2" 916,s_ "=B3" 920,s_ "=B4" 924,s_ "=B5" 928,s_ "=B6" 932,s_ "=B7" 936,s_ "=B8" 940,s_ "=B9" 944,s_ "=BA" 948,s_ "=BB" 952,s_ "=BC" 956,s_ "=BD" 960,s_ "=BE" 964,s_ "=BF" 968,s_ "=C0" 972,s_ "=C1" 976,s_ "=C2" 980,s_ "=C3" 984,s_ "=C4" 988,s_ "=C5" 992,s_ "=C6" 996,s_ "=C7" 1000,s_ "=C8" 1004,s_ "=C9" 1008,s_ "=CA" 1012,s_ "=CB" 1016,s_ "=CC" 1020,s_ "=CD" 1024,s_ "=CE" 1028,s_ "=CF" 1032,s_ "=D0" 1036,s_ "=D1" 1040,s_ "=D2" 1044,s_ "=D3" 1048,s_ "=D4" 1052,s_ "=D5" 1056,s_ "=D6" 1060,s_ "=D7" 1064,s_ "=D8" 1068,s_ "=D9" 1072,s_ "=DA" 1076,s_ "=DB" 1080,s_ "=DC" 1084,s_ "=DD" 1088,s_ "=DE" 1092,s_ "=DF" 1096,s_ "=E0" 1100,s_ "=E1" 1104,s_ "=E2" 1108,s_ "=E3" 1112,s_ "=E4" 1116,s_ "=E5" 1120,s_ "=E6" 1124,s_ "=E7" 1128,s_ "=E8" 1132,s_ "=E9" 1136,s_ "=EA" 1140,s_ "=EB" 1144,s_ "=EC" 1148,s_ "=ED" 1152,s_ "=EE" 1156,s_ "=EF" 1160,s_ "=F0" 1164,s_ "=F1" 1168,s_ "=F2" 1172,s_ "=F3" 1176,s_ "=F4" 1180,s_ "=F5" 1184,s_ "=F6" 1188,s_ "=F7" 1192,s_ "=F8" 1196,s_ "=F9" 1200,s_ "=FA" 1204,s_ "=FB" 1208,s_ "=FC" 1212,s_ "=FD" 1216,s_ "=FE" 1220,s_ "=FF" 1224] 0),#[]⟩
noncomputable def o48 (P:Params):Obj:=⟨.type "bytes_iterator",none,(.fields #[.none,.int 2 0]),#[]⟩
noncomputable def o49 (P:Params):Obj:=⟨.type "StopIteration",none,(.fields #[.ref 55,.none,.none,.none,.bool false,.none]),#[]⟩
noncomputable def tr19 (P:Params):BT:=nd o0 P (nd o1 P (nd o37 P (nd o7 P (nd o7 P (lf o34 P) (lf o43 P)) (nd o21 P (lf o8 P) (lf o7 P))) (nd o7 P (nd o16 P (lf o35 P) (lf o46 P)) (nd o24 P (lf o41 P) .nil))) (nd o5 P (nd o9 P (nd o15 P (lf o7 P) (lf o44 P)) (nd o23 P (lf o7 P) .nil)) (nd o11 P (nd o18 P (lf o36 P) (lf o47 P)) (nd o32 P (lf o7 P) .nil)))) (nd o2 P (nd o4 P (nd o8 P (nd o8 P (lf o30 P) (lf o7 P)) (nd o22 P (lf o39 P) (lf o49 P))) (nd o38 P (nd o17 P (lf o7 P) (lf o26 P)) (nd o26 P (lf o42 P) .nil))) (nd o6 P (nd o10 P (nd o7 P (lf o31 P) (lf o45 P)) (nd o7 P (lf o40 P) .nil)) (nd o12 P (nd o20 P (lf o7 P) (lf o48 P)) (nd o26 P (lf o8 P) .nil))))
noncomputable def o50 (P:Params):Obj:=dO #[e_ P "__name__" 165 (s_ "collections.abc" 1832),e_ P "__doc__" 166 .none,e_ P "__package__" 167 .none,e_ P "__loader__" 168 (.builtin "__main__.__loader__#opaque"),e_ P "__spec__" 169 .none,e_ P "__annotations__" 170 (.ref 6),e_ P "__builtins__" 171 (.ref 4),e_ P "__file__" 173 (s_ "/claim/cut.py" 172),e_ P "__cached__" 174 .none,e_ P "_wall" 193 (.ref 21),e_ P "CRLF" 195 (s_ "\x0d\n" 194),e_ P "NL" 197 (s_ "\n" 196),e_ P "_QUOPRI_MAP" 1225 (.ref 24),e_ P "_QUOPRI_HEADER_MAP" 1226 (.ref 29),e_ P "_QUOPRI_BODY_MAP" 1227 (.ref 31),e_ P "ascii_lowercase" 1229 (s_ "abcdefghijklmnopqrstuvwxyz" 1228),e_ P "ascii_uppercase" 1231 (s_ "ABCDEFGHIJKLMNOPQRSTUVWXYZ" 1230),e_ P "ascii_letters" 1233 (s_ "abcdefghijklmnopqrstuvwxyzABCDEFGHIJKLMNOPQRSTUVWXYZ" 1232),e_ P "digits" 1235 (s_ "0123456789" 1234),e_ P "hexdigits" 1240 (s_ "0123456789abcdefABCDEF" 1239),e_ P "unquote" 1746 (.ref 44),e_ P "quote" 1753 (.ref 51),e_ P "_QUOPRI_BODY_ENCODE_MAP" 1754 (.ref 53),e_ P "body_encode" 1781 (.ref 64),e_ P "decode" 1794 (.ref 72),e_ P "_plain_name" 1805 (.ref 79),e_ P "ABCMeta" 1831 (.ref 96),e_ P "_ABCLike" 1874 (.ref 129)] 30
noncomputable def o51 (P:Params):Obj:=⟨.none,none,(.fields #[.int 1 0,.int 0 0,.ref 20,.int 20 0,.int 0 0,.ref 43,.int 22 0,.int 0 0,.ref 50,.int 28 0,.int 0 0,.ref 63,.int 66 0,.int 0 0,.ref 71,.int 97 0,.int 0 0,.ref 78,.int 103 0,.int 0 0,.ref 85,.int 108 0,.int 0 0,.ref 104]),#[]⟩
noncomputable def o52 (P:Params):Obj:=⟨.type "tuple",none,(.seq #[.int 76 1762,s_ "\n" 196] 0),#[]⟩
noncomputable def o53 (P:Params):Obj:=⟨.type "tuple",none,(.seq #[s_ "body" 1766,s_ "maxlinelen" 1767,s_ "eol" 1768,s_ "soft_break" 1769,s_ "maxlinelen1" 1770,s_ "encoded_body" 1771,s_ "append" 1772,s_ "line" 1773,s_ "start" 1774,s_ "laststart" 1775,s_ "stop" 1776,s_ "room" 1777,s_ "q" 1778] 0),#[]⟩
noncomputable def o54 (P:Params):Obj:=⟨.none,none,(.func (fnD (stm 20) 0 .none .none .none .none none .none .none 0 (.ofString "body_encode"))),#[]⟩
noncomputable def o55 (P:Params):Obj:=⟨.type "code",none,(.fields #[s_ "body_encode" 1763,s_ "body_encode" 1764,s_ "/claim/cut.py" 1765,.int 28 0,.int 3 0,.int 0 0,.int 0 0,.int 3 0,.ref 58,.bool true,.int 181 0,.ref 59,.none,.ref 60,.ref 61,.ref 62,.int 1779 0,.int 28 0,s_ "/claim/cut.py" 1780]),#[]⟩
noncomputable def o56 (P:Params):Obj:=⟨.type "function",none,(.func (fnD (stm 20) 3 (.ref 57) .none .none (s_ "cpy313.email.quoprimime" 1241) none (.ref 63) .none 0 (.ofString "body_encode"))),#[]⟩
noncomputable def o57 (P:Params):Obj:=⟨.type "tuple",none,(.seq #[s_ "\n" 196] 0),#[]⟩
noncomputable def o58 (P:Params):Obj:=⟨.type "tuple",none,(.seq #[s_ "encoded" 1785,s_ "eol" 1786,s_ "decoded" 1787,s_ "line" 1788,s_ "i" 1789,s_ "n" 1790,s_ "c" 1791] 0),#[]⟩
noncomputable def o59 (P:Params):Obj:=⟨.none,none,(.func (fnD (stm 21) 0 .none .none .none .none none .none .none 0 (.ofString "decode"))),#[]⟩
noncomputable def o60 (P:Params):Obj:=⟨.type "code",none,(.fields #[s_ "decode" 1782,s_ "decode" 1783,s_ "/claim/cut.py" 1784,.int 66 0,.int 2 0,.int 0 0,.int 0 0,.int 3 0,.ref 66,.bool true,.int 181 0,.ref 67,.none,.ref 68,.ref 69,.ref 70,.int 1792 0,.int 66 0,s_ "/claim/cut.py" 1793]),#[]⟩
noncomputable def o61 (P:Params):Obj:=⟨.type "function",none,(.func (fnD (stm 21) 3 (.ref 65) .none .none (s_ "cpy313.email.quoprimime" 1241) none (.ref 71) .none 0 (.ofString "decode"))),#[]⟩
noncomputable def o62 (P:Params):Obj:=⟨.type "tuple",none,(.seq #[s_ "x" 1800,s_ "what" 1801,s_ "kind" 1802] 0),#[]⟩
noncomputable def o63 (P:Params):Obj:=⟨.none,none,(.func (fnD (stm 23) 0 .none .none .none .none none .none .none 0 (.ofString "_plain_name"))),#[]⟩
noncomputable def o64 (P:Params):Obj:=⟨.type "code",none,(.fields #[s_ "_plain_name" 1797,s_ "_plain_name" 1798,s_ "/claim/cut.py" 1799,.int 97 0,.int 2 0,.int 0 0,.int 0 0,.int 3 0,.ref 73,.bool true,.int 181 0,.ref 74,.none,.ref 75,.ref 76,.ref 77,.int 1803 0,.int 97 0,s_ "/claim/cut.py" 1804]),#[]⟩
noncomputable def o65 (P:Params):Obj:=⟨.type "function",none,(.func (fnD (stm 23) 3 .none .none .none (s_ "os" 1795) none (.ref 78) .none 0 (.ofString "_plain_name"))),#[]⟩
noncomputable def o66 (P:Params):Obj:=⟨.type "tuple",none,(.seq #[.type "type"] 0),#[]⟩
noncomputable def o67 (P:Params):Obj:=⟨.type "builtin_function_or_method",none,(.fields #[(.builtin "type.__prepare__"),(.type "type")]),#[]⟩
noncomputable def o68 (P:Params):Obj:=dO #[e_ P "__module__" 1815 (s_ "abc" 1806),e_ P "__qualname__" 1817 (s_ "ABCMeta" 1816),e_ P "__firstlineno__" 1819 (.int 103 1818),e_ P "register" 1827 (.ref 93),e_ P "__static_attributes__" 1828 (.ref 94)] 5
noncomputable def o69 (P:Params):Obj:=⟨.none,none,(.fields #[.int 105 0,.int 4 0,.ref 92]),#[]⟩
noncomputable def o70 (P:Params):Obj:=⟨.type "code",none,(.fields #[s_ "ABCMeta" 1810,s_ "ABCMeta" 1811,s_ "/claim/cut.py" 1812,.int 103 0,.int 0 0,.int 0 0,.int 0 0,.int 0 0,.ref 83,.bool false,.int 181 0,.ref 84,.none,.none,.none,.none,.int 1813 0,.int 103 0,s_ "/claim/cut.py" 1814]),#[]⟩
noncomputable def o71 (P:Params):Obj:=⟨.type "frame",none,.plain,#[(some (.ref 85)),(some (.ref 3)),(some (.ref 82)),none,(some (s_ "abc" 1806)),none,(some (.ref 0))]⟩
noncomputable def o72 (P:Params):Obj:=⟨.type "tuple",none,(.seq #[s_ "cls" 1823,s_ "subclass" 1824] 0),#[]⟩
noncomputable def o73 (P:Params):Obj:=⟨.none,none,(.func (fnD (stm2 25 0) 0 .none .none .none .none none .none .none 0 (.ofString "ABCMeta.register"))),#[]⟩
noncomputable def o74 (P:Params):Obj:=⟨.type "code",none,(.fields #[s_ "register" 1820,s_ "ABCMeta.register" 1821,s_ "/claim/cut.py" 1822,.int 105 0,.int 2 0,.int 0 0,.int 0 0,.int 3 0,.ref 87,.bool true,.int 181 0,.ref 88,.none,.ref 89,.ref 90,.ref 91,.int 1825 0,.int 105 0,s_ "/claim/cut.py" 1826]),#[]⟩
noncomputable def o75 (P:Params):Obj:=⟨.type "function",none,(.func (fnD (stm2 25 0) 3 .none .none .none (s_ "abc" 1806) none (.ref 92) .none 0 (.ofString "ABCMeta.register"))),#[]⟩
noncomputable def o76 (P:Params):Obj:=dO #[e_ P "__module__" 1815 (s_ "abc" 1806),e_ P "__firstlineno__" 1819 (.int 103 1818),e_ P "register" 1827 (.ref 93),e_ P "__static_attributes__" 1828 (.ref 94),e_ P "__doc__" 1829 .none] 2
noncomputable def o77 (P:Params):Obj:=⟨.type "type",none,(.cls ⟨(.ofString "ABCMeta"),[.type "type"],[.ref 96,(.type "type"),(.type "object")],95,(.ofString "ABCMeta"),true,[],[.ref 129],false,none,false⟩),#[(some (.ref 80)),none,(some (s_ "ABCMeta" 1808)),(some (s_ "ABCMeta" 1816)),(some (.builtin "type.__new__")),(some (.bool true))]⟩
noncomputable def o78 (P:Params):Obj:=⟨.type "super",none,(.fields #[.ref 96,.ref 96,.ref 96]),#[]⟩
noncomputable def o79 (P:Params):Obj:=⟨.type "builtin_function_or_method",none,(.fields #[(.builtin "object.__init_subclass__"),.ref 96]),#[]⟩
noncomputable def o80 (P:Params):Obj:=⟨.type "tuple",none,.seq #[.ref 96] 0,#[]⟩
noncomputable def o81 (P:Params):Obj:=dO #[e_ P "__module__" 1841 (s_ "collections.abc" 1832),e_ P "__qualname__" 1843 (s_ "_ABCLike" 1842),e_ P "__firstlineno__" 1845 (.int 108 1844),e_ P "__instancecheck__" 1854 (.ref 112),e_ P "__subclasscheck__" 1862 (.ref 119),e_ P "register" 1870 (.ref 126),e_ P "__static_attributes__" 1871 (.ref 127)] 7
noncomputable def o82 (P:Params):Obj:=⟨.none,none,(.fields #[.int 110 0,.int 4 0,.ref 111,.int 116 0,.int 4 0,.ref 118,.int 121 0,.int 4 0,.ref 125]),#[]⟩
noncomputable def o83 (P:Params):Obj:=⟨.type "code",none,(.fields #[s_ "_ABCLike" 1836,s_ "_ABCLike" 1837,s_ "/claim/cut.py" 1838,.int 108 0,.int 0 0,.int 0 0,.int 0 0,.int 0 0,.ref 102,.bool false,.int 181 0,.ref 103,.none,.none,.none,.none,.int 1839 0,.int 108 0,s_ "/claim/cut.py" 1840]),#[]⟩
noncomputable def o84 (P:Params):Obj:=⟨.type "frame",none,.plain,#[(some (.ref 104)),(some (.ref 3)),(some (.ref 101)),none,(some (s_ "collections.abc" 1832)),none,(some (.ref 0))]⟩
noncomputable def o85 (P:Params):Obj:=⟨.type "tuple",none,(.seq #[s_ "cls" 1849,s_ "instance" 1850,s_ "C" 1851] 0),#[]⟩
noncomputable def o86 (P:Params):Obj:=⟨.none,none,(.func (fnD (stm2 27 0) 0 .none .none .none .none none .none .none 0 (.ofString "_ABCLike.__instancecheck__"))),#[]⟩
noncomputable def o87 (P:Params):Obj:=⟨.type "code",none,(.fields #[s_ "__instancecheck__" 1846,s_ "_ABCLike.__instancecheck__" 1847,s_ "/claim/cut.py" 1848,.int 110 0,.int 2 0,.int 0 0,.int 0 0,.int 3 0,.ref 106,.bool true,.int 181 0,.ref 107,.none,.ref 108,.ref 109,.ref 110,.int 1852 0,.int 110 0,s_ "/claim/cut.py" 1853]),#[]⟩
noncomputable def o88 (P:Params):Obj:=⟨.type "function",none,(.func (fnD (stm2 27 0) 3 .none .none .none (s_ "collections.abc" 1832) none (.ref 111) .none 0 (.ofString "_ABCLike.__instancecheck__"))),#[]⟩
noncomputable def o89 (P:Params):Obj:=⟨.type "tuple",none,(.seq #[s_ "cls" 1858,s_ "C" 1859] 0),#[]⟩
noncomputable def o90 (P:Params):Obj:=⟨.none,none,(.func (fnD (stm2 27 1) 0 .none .none .none .none none .none .none 0 (.ofString "_ABCLike.__subclasscheck__"))),#[]⟩
noncomputable def o91 (P:Params):Obj:=⟨.type "code",none,(.fields #[s_ "__subclasscheck__" 1855,s_ "_ABCLike.__subclasscheck__" 1856,s_ "/claim/cut.py" 1857,.int 116 0,.int 2 0,.int 0 0,.int 0 0,.int 3 0,.ref 113,.bool true,.int 181 0,.ref 114,.none,.ref 115,.ref 116,.ref 117,.int 1860 0,.int 116 0,s_ "/claim/cut.py" 1861]),#[]⟩
noncomputable def o92 (P:Params):Obj:=⟨.type "function",none,(.func (fnD (stm2 27 1) 3 .none .none .none (s_ "collections.abc" 1832) none (.ref 118) .none 0 (.ofString "_ABCLike.__subclasscheck__"))),#[]⟩
noncomputable def o93 (P:Params):Obj:=⟨.type "tuple",none,(.seq #[s_ "cls" 1866,s_ "subclass" 1867] 0),#[]⟩
noncomputable def o94 (P:Params):Obj:=⟨.none,none,(.func (fnD (stm2 27 2) 0 .none .none .none .none none .none .none 0 (.ofString "_ABCLike.register"))),#[]⟩
noncomputable def o95 (P:Params):Obj:=⟨.type "code",none,(.fields #[s_ "register" 1863,s_ "_ABCLike.register" 1864,s_ "/claim/cut.py" 1865,.int 121 0,.int 2 0,.int 0 0,.int 0 0,.int 3 0,.ref 120,.bool true,.int 181 0,.ref 121,.none,.ref 122,.ref 123,.ref 124,.int 1868 0,.int 121 0,s_ "/claim/cut.py" 1869]),#[]⟩
noncomputable def o96 (P:Params):Obj:=⟨.type "function",none,(.func (fnD (stm2 27 2) 3 .none .none .none (s_ "collections.abc" 1832) none (.ref 125) .none 0 (.ofString "_ABCLike.register"))),#[]⟩
noncomputable def o97 (P:Params):Obj:=dO #[e_ P "__module__" 1841 (s_ "collections.abc" 1832),e_ P "__firstlineno__" 1845 (.int 108 1844),e_ P "__instancecheck__" 1854 (.ref 112),e_ P "__subclasscheck__" 1862 (.ref 119),e_ P "register" 1870 (.ref 126),e_ P "__static_attributes__" 1871 (.ref 127),e_ P "__doc__" 1872 .none] 2
noncomputable def o98 (P:Params):Obj:=⟨.type "type",none,(.cls ⟨(.ofString "_ABCLike"),[.ref 96],[.ref 129,.ref 96,(.type "type"),(.type "object")],128,(.ofString "_ABCLike"),true,[],[],false,none,false⟩),#[(some (.ref 99)),none,(some (s_ "_ABCLike" 1834)),(some (s_ "_ABCLike" 1842)),(some (.builtin "type.__new__")),(some (.bool true))]⟩
noncomputable def o99 (P:Params):Obj:=⟨.type "super",none,(.fields #[.ref 129,.ref 129,.ref 129]),#[]⟩
noncomputable def o100 (P:Params):Obj:=⟨.type "builtin_function_or_method",none,(.fields #[(.builtin "object.__init_subclass__"),.ref 129]),#[]⟩
noncomputable def tr28 (P:Params):BT:=nd o0 P (nd o1 P (nd o50 P (nd o7 P (nd o7 P (nd o34 P (nd o55 P (lf o7 P) .nil) (lf o76 P)) (nd o43 P (lf o65 P) (lf o87 P))) (nd o21 P (nd o8 P (lf o60 P) (lf o82 P)) (nd o7 P (lf o7 P) (lf o92 P)))) (nd o7 P (nd o16 P (nd o35 P (nd o8 P (lf o100 P) .nil) (lf o80 P)) (nd o46 P (lf o7 P) (lf o89 P))) (nd o24 P (nd o41 P (lf o62 P) (lf o8 P)) (nd o8 P (lf o73 P) (lf o7 P))))) (nd o5 P (nd o9 P (nd o15 P (nd o7 P (nd o57 P (lf o98 P) .nil) (lf o78 P)) (nd o44 P (lf o67 P) (lf o7 P))) (nd o23 P (nd o7 P (lf o7 P) (lf o84 P)) (nd o52 P (lf o72 P) (lf o8 P)))) (nd o11 P (nd o18 P (nd o36 P (lf o7 P) (lf o81 P)) (nd o47 P (lf o70 P) (lf o90 P))) (nd o32 P (nd o7 P (lf o63 P) (lf o7 P)) (nd o7 P (lf o75 P) (lf o95 P)))))) (nd o2 P (nd o4 P (nd o8 P (nd o8 P (nd o30 P (nd o56 P (lf o97 P) .nil) (lf o77 P)) (nd o7 P (lf o66 P) (lf o88 P))) (nd o22 P (nd o39 P (lf o61 P) (lf o83 P)) (nd o49 P (lf o8 P) (lf o7 P)))) (nd o51 P (nd o17 P (nd o7 P (lf o58 P) (lf o67 P)) (nd o26 P (lf o69 P) (lf o7 P))) (nd o26 P (nd o42 P (lf o7 P) (lf o85 P)) (nd o53 P (lf o74 P) (lf o94 P))))) (nd o6 P (nd o10 P (nd o7 P (nd o31 P (nd o7 P (lf o99 P) .nil) (lf o79 P)) (nd o45 P (lf o68 P) (lf o8 P))) (nd o7 P (nd o40 P (lf o8 P) (lf o7 P)) (nd o7 P (lf o7 P) (lf o93 P)))) (nd o12 P (nd o20 P (nd o7 P (lf o59 P) (lf o7 P)) (nd o48 P (lf o71 P) (lf o91 P))) (nd o26 P (nd o8 P (lf o64 P) (lf o86 P)) (nd o54 P (lf o7 P) (lf o96 P))))))
noncomputable def o101 (P:Params):Obj:=dO #[e_ P "__name__" 165 (s_ "cpy313.posixpath" 1907),e_ P "__doc__" 166 .none,e_ P "__package__" 167 .none,e_ P "__loader__" 168 (.builtin "__main__.__loader__#opaque"),e_ P "__spec__" 169 .none,e_ P "__annotations__" 170 (.ref 6),e_ P "__builtins__" 171 (.ref 4),e_ P "__file__" 173 (s_ "/claim/cut.py" 172),e_ P "__cached__" 174 .none,e_ P "_wall" 193 (.ref 21),e_ P "CRLF" 195 (s_ "\x0d\n" 194),e_ P "NL" 197 (s_ "\n" 196),e_ P "_QUOPRI_MAP" 1225 (.ref 24),e_ P "_QUOPRI_HEADER_MAP" 1226 (.ref 29),e_ P "_QUOPRI_BODY_MAP" 1227 (.ref 31),e_ P "ascii_lowercase" 1229 (s_ "abcdefghijklmnopqrstuvwxyz" 1228),e_ P "ascii_uppercase" 1231 (s_ "ABCDEFGHIJKLMNOPQRSTUVWXYZ" 1230),e_ P "ascii_letters" 1233 (s_ "abcdefghijklmnopqrstuvwxyzABCDEFGHIJKLMNOPQRSTUVWXYZ" 1232),e_ P "digits" 1235 (s_ "0123456789" 1234),e_ P "hexdigits" 1240 (s_ "0123456789abcdefABCDEF" 1239),e_ P "unquote" 1746 (.ref 44),e_ P "quote" 1753 (.ref 51),e_ P "_QUOPRI_BODY_ENCODE_MAP" 1754 (.ref 53),e_ P "body_encode" 1781 (.ref 64),e_ P "decode" 1794 (.ref 72),e_ P "_plain_name" 1805 (.ref 79),e_ P "ABCMeta" 1831 (.ref 96),e_ P "_ABCLike" 1874 (.ref 129),e_ P "_abc_plain_meta" 1881 (.ref 138),e_ P "fspath" 1893 (.ref 145),e_ P "_check_arg_types" 1906 (.ref 152),e_ P "_get_sep" 1915 (.ref 159),e_ P "join" 1926 (.ref 166),e_ P "split" 1937 (.ref 173),e_ P "dirname" 1947 (.ref 180),e_ P "commonpath" 1953 (.ref 185)] 38
noncomputable def o102 (P:Params):Obj:=⟨.none,none,(.fields #[.int 1 0,.int 0 0,.ref 20,.int 20 0,.int 0 0,.ref 43,.int 22 0,.int 0 0,.ref 50,.int 28 0,.int 0 0,.ref 63,.int 66 0,.int 0 0,.ref 71,.int 97 0,.int 0 0,.ref 78,.int 103 0,.int 0 0,.ref 85,.int 108 0,.int 0 0,.ref 104,.int 123 0,.int 0 0,.ref 137,.int 127 0,.int 0 0,.ref 144,.int 144 0,.int 0 0,.ref 151,.int 156 0,.int 0 0,.ref 158,.int 161 0,.int 0 0,.ref 165,.int 178 0,.int 0 0,.ref 172,.int 186 0,.int 0 0,.ref 179,.int 194 0,.int 0 0,.ref 184]),#[]⟩
noncomputable def o103 (P:Params):Obj:=⟨.type "tuple",none,(.seq #[s_ "C" 1878] 0),#[]⟩
noncomputable def o104 (P:Params):Obj:=⟨.none,none,(.func (fnD (stm 28) 0 .none .none .none .none none .none .none 0 (.ofString "_abc_plain_meta"))),#[]⟩
noncomputable def o105 (P:Params):Obj:=⟨.type "code",none,(.fields #[s_ "_abc_plain_meta" 1875,s_ "_abc_plain_meta" 1876,s_ "/claim/cut.py" 1877,.int 123 0,.int 1 0,.int 0 0,.int 0 0,.int 3 0,.ref 132,.bool true,.int 181 0,.ref 133,.none,.ref 134,.ref 135,.ref 136,.int 1879 0,.int 123 0,s_ "/claim/cut.py" 1880]),#[]⟩
noncomputable def o106 (P:Params):Obj:=⟨.type "function",none,(.func (fnD (stm 28) 3 .none .none .none (s_ "collections.abc" 1832) none (.ref 137) .none 0 (.ofString "_abc_plain_meta"))),#[]⟩
noncomputable def o107 (P:Params):Obj:=⟨.type "tuple",none,(.seq #[s_ "path" 1887,s_ "kind" 1888,s_ "hook" 1889,s_ "given" 1890] 0),#[]⟩
noncomputable def o108 (P:Params):Obj:=⟨.none,none,(.func (fnD (stm 30) 0 .none .none .none .none none .none .none 0 (.ofString "fspath"))),#[]⟩
noncomputable def o109 (P:Params):Obj:=⟨.type "code",none,(.fields #[s_ "fspath" 1884,s_ "fspath" 1885,s_ "/claim/cut.py" 1886,.int 127 0,.int 1 0,.int 0 0,.int 0 0,.int 3 0,.ref 139,.bool true,.int 181 0,.ref 140,.none,.ref 141,.ref 142,.ref 143,.int 1891 0,.int 127 0,s_ "/claim/cut.py" 1892]),#[]⟩
noncomputable def o110 (P:Params):Obj:=⟨.type "function",none,(.func (fnD (stm 30) 3 .none .none .none (s_ "os" 1882) none (.ref 144) .none 0 (.ofString "fspath"))),#[]⟩
noncomputable def o111 (P:Params):Obj:=⟨.type "tuple",none,(.seq #[s_ "funcname" 1899,s_ "args" 1900,s_ "hasstr" 1901,s_ "hasbytes" 1902,s_ "s" 1903] 0),#[]⟩
noncomputable def o112 (P:Params):Obj:=⟨.none,none,(.func (fnD (stm 32) 0 .none .none .none .none none .none .none 0 (.ofString "_check_arg_types"))),#[]⟩
noncomputable def o113 (P:Params):Obj:=⟨.type "code",none,(.fields #[s_ "_check_arg_types" 1896,s_ "_check_arg_types" 1897,s_ "/claim/cut.py" 1898,.int 144 0,.int 1 0,.int 0 0,.int 0 0,.int 7 0,.ref 146,.bool true,.int 181 0,.ref 147,.none,.ref 148,.ref 149,.ref 150,.int 1904 0,.int 144 0,s_ "/claim/cut.py" 1905]),#[]⟩
noncomputable def o114 (P:Params):Obj:=⟨.type "function",none,(.func (fnD (stm 32) 3 .none .none .none (s_ "cpy313.genericpath" 1894) none (.ref 151) .none 0 (.ofString "_check_arg_types"))),#[]⟩
noncomputable def o115 (P:Params):Obj:=⟨.type "tuple",none,(.seq #[s_ "path" 1912] 0),#[]⟩
noncomputable def o116 (P:Params):Obj:=⟨.none,none,(.func (fnD (stm 34) 0 .none .none .none .none none .none .none 0 (.ofString "_get_sep"))),#[]⟩
noncomputable def o117 (P:Params):Obj:=⟨.type "code",none,(.fields #[s_ "_get_sep" 1909,s_ "_get_sep" 1910,s_ "/claim/cut.py" 1911,.int 156 0,.int 1 0,.int 0 0,.int 0 0,.int 3 0,.ref 153,.bool true,.int 181 0,.ref 154,.none,.ref 155,.ref 156,.ref 157,.int 1913 0,.int 156 0,s_ "/claim/cut.py" 1914]),#[]⟩
noncomputable def o118 (P:Params):Obj:=⟨.type "function",none,(.func (fnD (stm 34) 3 .none .none .none (s_ "cpy313.posixpath" 1907) none (.ref 158) .none 0 (.ofString "_get_sep"))),#[]⟩
noncomputable def o119 (P:Params):Obj:=⟨.type "tuple",none,(.seq #[s_ "a" 1919,s_ "p" 1920,s_ "sep" 1921,s_ "path" 1922,s_ "b" 1923] 0),#[]⟩
noncomputable def o120 (P:Params):Obj:=⟨.none,none,(.func (fnD (stm 35) 0 .none .none .none .none none .none .none 0 (.ofString "join"))),#[]⟩
noncomputable def o121 (P:Params):Obj:=⟨.type "code",none,(.fields #[s_ "join" 1916,s_ "join" 1917,s_ "/claim/cut.py" 1918,.int 161 0,.int 1 0,.int 0 0,.int 0 0,.int 7 0,.ref 160,.bool true,.int 181 0,.ref 161,.none,.ref 162,.ref 163,.ref 164,.int 1924 0,.int 161 0,s_ "/claim/cut.py" 1925]),#[]⟩
noncomputable def o122 (P:Params):Obj:=⟨.type "function",none,(.func (fnD (stm 35) 3 .none .none .none (s_ "cpy313.posixpath" 1907) none (.ref 165) .none 0 (.ofString "join"))),#[]⟩
noncomputable def o123 (P:Params):Obj:=⟨.type "tuple",none,(.seq #[s_ "p" 1930,s_ "sep" 1931,s_ "i" 1932,s_ "head" 1933,s_ "tail" 1934] 0),#[]⟩
noncomputable def o124 (P:Params):Obj:=⟨.none,none,(.func (fnD (stm 36) 0 .none .none .none .none none .none .none 0 (.ofString "split"))),#[]⟩
noncomputable def o125 (P:Params):Obj:=⟨.type "code",none,(.fields #[s_ "split" 1927,s_ "split" 1928,s_ "/claim/cut.py" 1929,.int 178 0,.int 1 0,.int 0 0,.int 0 0,.int 3 0,.ref 167,.bool true,.int 181 0,.ref 168,.none,.ref 169,.ref 170,.ref 171,.int 1935 0,.int 178 0,s_ "/claim/cut.py" 1936]),#[]⟩
noncomputable def o126 (P:Params):Obj:=⟨.type "function",none,(.func (fnD (stm 36) 3 .none .none .none (s_ "cpy313.posixpath" 1907) none (.ref 172) .none 0 (.ofString "split"))),#[]⟩
noncomputable def o127 (P:Params):Obj:=⟨.type "tuple",none,(.seq #[s_ "p" 1941,s_ "sep" 1942,s_ "i" 1943,s_ "head" 1944] 0),#[]⟩
noncomputable def o128 (P:Params):Obj:=⟨.none,none,(.func (fnD (stm 37) 0 .none .none .none .none none .none .none 0 (.ofString "dirname"))),#[]⟩
noncomputable def o129 (P:Params):Obj:=⟨.type "code",none,(.fields #[s_ "dirname" 1938,s_ "dirname" 1939,s_ "/claim/cut.py" 1940,.int 186 0,.int 1 0,.int 0 0,.int 0 0,.int 3 0,.ref 174,.bool true,.int 181 0,.ref 175,.none,.ref 176,.ref 177,.ref 178,.int 1945 0,.int 186 0,s_ "/claim/cut.py" 1946]),#[]⟩
noncomputable def o130 (P:Params):Obj:=⟨.type "function",none,(.func (fnD (stm 37) 3 .none .none .none (s_ "cpy313.posixpath" 1907) none (.ref 179) .none 0 (.ofString "dirname"))),#[]⟩
noncomputable def o131 (P:Params):Obj:=⟨.none,none,(.func (fnD (stm 38) 0 .none .none .none .none none .none .none 0 (.ofString "commonpath"))),#[]⟩
noncomputable def o132 (P:Params):Obj:=⟨.type "code",none,(.fields #[s_ "commonpath" 1948,s_ "commonpath" 1949,s_ "/claim/cut.py" 1950,.int 194 0,.int 1 0,.int 0 0,.int 0 0,.int 3 0,.ref 181,.bool true,.int 181 0,.ref 182,.none,.none,.none,.ref 183,.int 1951 0,.int 194 0,s_ "/claim/cut.py" 1952]),#[]⟩
noncomputable def o133 (P:Params):Obj:=⟨.type "function",none,(.func (fnD (stm 38) 3 .none .none .none (s_ "cpy313.posixpath" 1907) none (.ref 184) .none 0 (.ofString "commonpath"))),#[]⟩
noncomputable def tr39 (P:Params):BT:=nd o0 P (nd o1 P (nd o101 P (nd o7 P (nd o7 P (nd o34 P (nd o55 P (lf o7 P) .nil) (nd o76 P (lf o118 P) .nil)) (nd o43 P (nd o65 P (lf o108 P) .nil) (nd o87 P (lf o8 P) .nil))) (nd o21 P (nd o8 P (nd o60 P (lf o7 P) .nil) (nd o82 P (lf o7 P) .nil)) (nd o7 P (nd o7 P (lf o113 P) .nil) (nd o92 P (lf o131 P) .nil)))) (nd o7 P (nd o16 P (nd o35 P (nd o8 P (lf o100 P) .nil) (nd o80 P (lf o7 P) .nil)) (nd o46 P (nd o7 P (lf o8 P) .nil) (nd o89 P (lf o129 P) .nil))) (nd o24 P (nd o41 P (nd o62 P (lf o7 P) .nil) (nd o8 P (lf o124 P) .nil)) (nd o8 P (nd o73 P (lf o115 P) .nil) (lf o7 P))))) (nd o5 P (nd o9 P (nd o15 P (nd o7 P (nd o57 P (lf o98 P) .nil) (nd o78 P (lf o8 P) .nil)) (nd o44 P (nd o67 P (lf o110 P) .nil) (nd o7 P (lf o7 P) .nil))) (nd o23 P (nd o7 P (nd o7 P (lf o105 P) .nil) (nd o84 P (lf o123 P) .nil)) (nd o52 P (nd o72 P (lf o7 P) .nil) (nd o8 P (lf o133 P) .nil)))) (nd o11 P (nd o18 P (nd o36 P (nd o7 P (lf o8 P) .nil) (nd o81 P (lf o121 P) .nil)) (nd o47 P (nd o70 P (lf o7 P) .nil) (nd o90 P (lf o7 P) .nil))) (nd o32 P (nd o7 P (nd o63 P (lf o107 P) .nil) (nd o7 P (lf o126 P) .nil)) (nd o7 P (nd o75 P (lf o116 P) .nil) (lf o95 P)))))) (nd o2 P (nd o4 P (nd o8 P (nd o8 P (nd o30 P (nd o56 P (lf o97 P) .nil) (nd o77 P (lf o7 P) .nil)) (nd o7 P (nd o66 P (lf o109 P) .nil) (nd o88 P (lf o127 P) .nil))) (nd o22 P (nd o39 P (nd o61 P (lf o104 P) .nil) (nd o83 P (lf o8 P) .nil)) (nd o49 P (nd o8 P (lf o114 P) .nil) (nd o7 P (lf o132 P) .nil)))) (nd o102 P (nd o17 P (nd o7 P (nd o58 P (lf o7 P) .nil) (nd o67 P (lf o120 P) .nil)) (nd o26 P (nd o69 P (lf o111 P) .nil) (nd o7 P (lf o130 P) .nil))) (nd o26 P (nd o42 P (nd o7 P (lf o8 P) .nil) (nd o85 P (lf o125 P) .nil)) (nd o53 P (nd o74 P (lf o7 P) .nil) (lf o94 P))))) (nd o6 P (nd o10 P (nd o7 P (nd o31 P (nd o7 P (lf o99 P) .nil) (nd o79 P (lf o119 P) .nil)) (nd o45 P (nd o68 P (lf o7 P) .nil) (nd o8 P (lf o128 P) .nil))) (nd o7 P (nd o40 P (nd o8 P (lf o106 P) .nil) (nd o7 P (lf o7 P) .nil)) (nd o7 P (nd o7 P (lf o8 P) .nil) (lf o93 P)))) (nd o12 P (nd o20 P (nd o7 P (nd o59 P (lf o103 P) .nil) (nd o7 P (lf o122 P) .nil)) (nd o48 P (nd o71 P (lf o112 P) .nil) (nd o91 P (lf o8 P) .nil))) (nd o26 P (nd o8 P (nd o64 P (lf o7 P) .nil) (nd o86 P (lf o7 P) .nil)) (nd o54 P (nd o7 P (lf o117 P) .nil) (lf o96 P))))))
noncomputable def o134 (P:Params):Obj:=dO #[e_ P "__name__" 165 (s_ "law_il0085_01" 1970),e_ P "__doc__" 166 .none,e_ P "__package__" 167 .none,e_ P "__loader__" 168 (.builtin "__main__.__loader__#opaque"),e_ P "__spec__" 169 .none,e_ P "__annotations__" 170 (.ref 6),e_ P "__builtins__" 171 (.ref 4),e_ P "__file__" 173 (s_ "/claim/cut.py" 172),e_ P "__cached__" 174 .none,e_ P "_wall" 193 (.ref 21),e_ P "CRLF" 195 (s_ "\x0d\n" 194),e_ P "NL" 197 (s_ "\n" 196),e_ P "_QUOPRI_MAP" 1225 (.ref 24),e_ P "_QUOPRI_HEADER_MAP" 1226 (.ref 29),e_ P "_QUOPRI_BODY_MAP" 1227 (.ref 31),e_ P "ascii_lowercase" 1229 (s_ "abcdefghijklmnopqrstuvwxyz" 1228),e_ P "ascii_uppercase" 1231 (s_ "ABCDEFGHIJKLMNOPQRSTUVWXYZ" 1230),e_ P "ascii_letters" 1233 (s_ "abcdefghijklmnopqrstuvwxyzABCDEFGHIJKLMNOPQRSTUVWXYZ" 1232),e_ P "digits" 1235 (s_ "0123456789" 1234),e_ P "hexdigits" 1240 (s_ "0123456789abcdefABCDEF" 1239),e_ P "unquote" 1746 (.ref 44),e_ P "quote" 1753 (.ref 51),e_ P "_QUOPRI_BODY_ENCODE_MAP" 1754 (.ref 53),e_ P "body_encode" 1781 (.ref 64),e_ P "decode" 1794 (.ref 72),e_ P "_plain_name" 1805 (.ref 79),e_ P "ABCMeta" 1831 (.ref 96),e_ P "_ABCLike" 1874 (.ref 129),e_ P "_abc_plain_meta" 1881 (.ref 138),e_ P "fspath" 1893 (.ref 145),e_ P "_check_arg_types" 1906 (.ref 152),e_ P "_get_sep" 1915 (.ref 159),e_ P "join" 1926 (.ref 166),e_ P "split" 1937 (.ref 173),e_ P "dirname" 1947 (.ref 180),e_ P "commonpath" 1953 (.ref 185),e_ P "sorted_list_difference" 1969 (.ref 192),e_ P "_law_trees" 1992 (.ref 199),e_ P "_law_path" 1998 (.ref 204),e_ P "_law_read" 2007 (.ref 211),e_ P "_law_signs" 2018 (.ref 218),e_ P "_law_rank" 2027 (.ref 225),e_ P "_law_torn" 2033 (.ref 230),e_ P "_law_whole" 2043 (.ref 237),e_ P "law" 2049 (.ref 242)] 47
noncomputable def o135 (P:Params):Obj:=⟨.none,none,(.fields #[.int 1 0,.int 0 0,.ref 20,.int 20 0,.int 0 0,.ref 43,.int 22 0,.int 0 0,.ref 50,.int 28 0,.int 0 0,.ref 63,.int 66 0,.int 0 0,.ref 71,.int 97 0,.int 0 0,.ref 78,.int 103 0,.int 0 0,.ref 85,.int 108 0,.int 0 0,.ref 104,.int 123 0,.int 0 0,.ref 137,.int 127 0,.int 0 0,.ref 144,.int 144 0,.int 0 0,.ref 151,.int 156 0,.int 0 0,.ref 158,.int 161 0,.int 0 0,.ref 165,.int 178 0,.int 0 0,.ref 172,.int 186 0,.int 0 0,.ref 179,.int 194 0,.int 0 0,.ref 184,.int 224 0,.int 0 0,.ref 191,.int 257 0,.int 0 0,.ref 198,.int 279 0,.int 0 0,.ref 203,.int 287 0,.int 0 0,.ref 210,.int 293 0,.int 0 0,.ref 217,.int 302 0,.int 0 0,.ref 224,.int 308 0,.int 0 0,.ref 229,.int 320 0,.int 0 0,.ref 236,.int 326 0,.int 0 0,.ref 241]),#[]⟩
noncomputable def o136 (P:Params):Obj:=⟨.type "tuple",none,(.seq #[s_ "expected" 1959,s_ "actual" 1960,s_ "i" 1961,s_ "j" 1962,s_ "missing" 1963,s_ "unexpected" 1964,s_ "e" 1965,s_ "a" 1966] 0),#[]⟩
noncomputable def o137 (P:Params):Obj:=⟨.none,none,(.func (fnD (stm 40) 0 .none .none .none .none none .none .none 0 (.ofString "sorted_list_difference"))),#[]⟩
noncomputable def o138 (P:Params):Obj:=⟨.type "code",none,(.fields #[s_ "sorted_list_difference" 1956,s_ "sorted_list_difference" 1957,s_ "/claim/cut.py" 1958,.int 224 0,.int 2 0,.int 0 0,.int 0 0,.int 3 0,.ref 186,.bool true,.int 181 0,.ref 187,.none,.ref 188,.ref 189,.ref 190,.int 1967 0,.int 224 0,s_ "/claim/cut.py" 1968]),#[]⟩
noncomputable def o139 (P:Params):Obj:=⟨.type "function",none,(.func (fnD (stm 40) 3 .none .none .none (s_ "cpy313.unittest.util" 1954) none (.ref 191) .none 0 (.ofString "sorted_list_difference"))),#[]⟩
noncomputable def o140 (P:Params):Obj:=⟨.type "tuple",none,(.seq #[s_ "script" 1975,s_ "octets" 1976,s_ "known" 1977,s_ "first" 1978,s_ "second" 1979,s_ "x" 1980,s_ "which" 1981,s_ "place" 1982,s_ "one" 1983,s_ "two" 1984,s_ "name" 1985,s_ "k" 1986,s_ "entry" 1987,s_ "tree" 1988,s_ "depth" 1989] 0),#[]⟩
noncomputable def o141 (P:Params):Obj:=⟨.none,none,(.func (fnD (stm 42) 0 .none .none .none .none none .none .none 0 (.ofString "_law_trees"))),#[]⟩
noncomputable def o142 (P:Params):Obj:=⟨.type "code",none,(.fields #[s_ "_law_trees" 1972,s_ "_law_trees" 1973,s_ "/claim/cut.py" 1974,.int 257 0,.int 1 0,.int 0 0,.int 0 0,.int 3 0,.ref 193,.bool true,.int 181 0,.ref 194,.none,.ref 195,.ref 196,.ref 197,.int 1990 0,.int 257 0,s_ "/claim/cut.py" 1991]),#[]⟩
noncomputable def o143 (P:Params):Obj:=⟨.type "function",none,(.func (fnD (stm 42) 3 .none .none .none (s_ "law_il0085_01" 1970) none (.ref 198) .none 0 (.ofString "_law_trees"))),#[]⟩
noncomputable def o144 (P:Params):Obj:=⟨.none,none,(.func (fnD (stm 43) 0 .none .none .none .none none .none .none 0 (.ofString "_law_path"))),#[]⟩
noncomputable def o145 (P:Params):Obj:=⟨.type "code",none,(.fields #[s_ "_law_path" 1993,s_ "_law_path" 1994,s_ "/claim/cut.py" 1995,.int 279 0,.int 2 0,.int 0 0,.int 0 0,.int 3 0,.ref 200,.bool true,.int 181 0,.ref 201,.none,.none,.none,.ref 202,.int 1996 0,.int 279 0,s_ "/claim/cut.py" 1997]),#[]⟩
noncomputable def o146 (P:Params):Obj:=⟨.type "function",none,(.func (fnD (stm 43) 3 .none .none .none (s_ "law_il0085_01" 1970) none (.ref 203) .none 0 (.ofString "_law_path"))),#[]⟩
noncomputable def o147 (P:Params):Obj:=⟨.type "tuple",none,(.seq #[s_ "path" 2002,s_ "names" 2003,s_ "tail" 2004] 0),#[]⟩
noncomputable def o148 (P:Params):Obj:=⟨.none,none,(.func (fnD (stm 44) 0 .none .none .none .none none .none .none 0 (.ofString "_law_read"))),#[]⟩
noncomputable def o149 (P:Params):Obj:=⟨.type "code",none,(.fields #[s_ "_law_read" 1999,s_ "_law_read" 2000,s_ "/claim/cut.py" 2001,.int 287 0,.int 1 0,.int 0 0,.int 0 0,.int 3 0,.ref 205,.bool true,.int 181 0,.ref 206,.none,.ref 207,.ref 208,.ref 209,.int 2005 0,.int 287 0,s_ "/claim/cut.py" 2006]),#[]⟩
noncomputable def o150 (P:Params):Obj:=⟨.type "function",none,(.func (fnD (stm 44) 3 .none .none .none (s_ "law_il0085_01" 1970) none (.ref 210) .none 0 (.ofString "_law_read"))),#[]⟩
noncomputable def o151 (P:Params):Obj:=⟨.type "tuple",none,(.seq #[s_ "name" 2011,s_ "row" 2012,s_ "k" 2013,s_ "octet" 2014,s_ "stands" 2015] 0),#[]⟩
noncomputable def o152 (P:Params):Obj:=⟨.none,none,(.func (fnD (stm 45) 0 .none .none .none .none none .none .none 0 (.ofString "_law_signs"))),#[]⟩
noncomputable def o153 (P:Params):Obj:=⟨.type "code",none,(.fields #[s_ "_law_signs" 2008,s_ "_law_signs" 2009,s_ "/claim/cut.py" 2010,.int 293 0,.int 1 0,.int 0 0,.int 0 0,.int 3 0,.ref 212,.bool true,.int 181 0,.ref 213,.none,.ref 214,.ref 215,.ref 216,.int 2016 0,.int 293 0,s_ "/claim/cut.py" 2017]),#[]⟩
noncomputable def o154 (P:Params):Obj:=⟨.type "function",none,(.func (fnD (stm 45) 3 .none .none .none (s_ "law_il0085_01" 1970) none (.ref 217) .none 0 (.ofString "_law_signs"))),#[]⟩
noncomputable def o155 (P:Params):Obj:=⟨.type "tuple",none,(.seq #[s_ "entry" 2022,s_ "row" 2023,s_ "name" 2024] 0),#[]⟩
noncomputable def o156 (P:Params):Obj:=⟨.none,none,(.func (fnD (stm 46) 0 .none .none .none .none none .none .none 0 (.ofString "_law_rank"))),#[]⟩
noncomputable def o157 (P:Params):Obj:=⟨.type "code",none,(.fields #[s_ "_law_rank" 2019,s_ "_law_rank" 2020,s_ "/claim/cut.py" 2021,.int 302 0,.int 1 0,.int 0 0,.int 0 0,.int 3 0,.ref 219,.bool true,.int 181 0,.ref 220,.none,.ref 221,.ref 222,.ref 223,.int 2025 0,.int 302 0,s_ "/claim/cut.py" 2026]),#[]⟩
noncomputable def o158 (P:Params):Obj:=⟨.type "function",none,(.func (fnD (stm 46) 3 .none .none .none (s_ "law_il0085_01" 1970) none (.ref 224) .none 0 (.ofString "_law_rank"))),#[]⟩
noncomputable def o159 (P:Params):Obj:=⟨.none,none,(.func (fnD (stm 47) 0 .none .none .none .none none .none .none 0 (.ofString "_law_torn"))),#[]⟩
noncomputable def o160 (P:Params):Obj:=⟨.type "code",none,(.fields #[s_ "_law_torn" 2028,s_ "_law_torn" 2029,s_ "/claim/cut.py" 2030,.int 308 0,.int 1 0,.int 0 0,.int 0 0,.int 3 0,.ref 226,.bool true,.int 181 0,.ref 227,.none,.none,.none,.ref 228,.int 2031 0,.int 308 0,s_ "/claim/cut.py" 2032]),#[]⟩
noncomputable def o161 (P:Params):Obj:=⟨.type "function",none,(.func (fnD (stm 47) 3 .none .none .none (s_ "law_il0085_01" 1970) none (.ref 229) .none 0 (.ofString "_law_torn"))),#[]⟩
noncomputable def o162 (P:Params):Obj:=⟨.type "tuple",none,(.seq #[s_ "rows" 2037,s_ "kept" 2038,s_ "k" 2039,s_ "above" 2040] 0),#[]⟩
noncomputable def o163 (P:Params):Obj:=⟨.none,none,(.func (fnD (stm 48) 0 .none .none .none .none none .none .none 0 (.ofString "_law_whole"))),#[]⟩
noncomputable def o164 (P:Params):Obj:=⟨.type "code",none,(.fields #[s_ "_law_whole" 2034,s_ "_law_whole" 2035,s_ "/claim/cut.py" 2036,.int 320 0,.int 2 0,.int 0 0,.int 0 0,.int 3 0,.ref 231,.bool true,.int 181 0,.ref 232,.none,.ref 233,.ref 234,.ref 235,.int 2041 0,.int 320 0,s_ "/claim/cut.py" 2042]),#[]⟩
noncomputable def o165 (P:Params):Obj:=⟨.type "function",none,(.func (fnD (stm 48) 3 .none .none .none (s_ "law_il0085_01" 1970) none (.ref 236) .none 0 (.ofString "_law_whole"))),#[]⟩
noncomputable def o166 (P:Params):Obj:=⟨.none,none,(.func (fnD (stm 49) 0 .none .none .none .none none .none .none 0 (.ofString "law"))),#[]⟩
noncomputable def o167 (P:Params):Obj:=⟨.type "code",none,(.fields #[s_ "law" 2044,s_ "law" 2045,s_ "/claim/cut.py" 2046,.int 326 0,.int 1 0,.int 0 0,.int 0 0,.int 3 0,.ref 238,.bool true,.int 181 0,.ref 239,.none,.none,.none,.ref 240,.int 2047 0,.int 326 0,s_ "/claim/cut.py" 2048]),#[]⟩
noncomputable def o168 (P:Params):Obj:=⟨.type "function",none,(.func (fnD (stm 49) 3 .none .none .none (s_ "law_il0085_01" 1970) none (.ref 241) .none 0 (.ofString "law"))),#[]⟩
noncomputable def tr50 (P:Params):BT:=nd o0 P (nd o1 P (nd o134 P (nd o7 P (nd o7 P (nd o34 P (nd o55 P (lf o7 P) (lf o138 P)) (nd o76 P (lf o118 P) (lf o156 P))) (nd o43 P (nd o65 P (lf o108 P) (lf o147 P)) (nd o87 P (lf o8 P) (lf o8 P)))) (nd o21 P (nd o8 P (nd o60 P (lf o7 P) (lf o143 P)) (nd o82 P (lf o7 P) (lf o7 P))) (nd o7 P (nd o7 P (lf o113 P) (lf o7 P)) (nd o92 P (lf o131 P) .nil)))) (nd o7 P (nd o16 P (nd o35 P (nd o8 P (lf o100 P) (lf o140 P)) (nd o80 P (lf o7 P) (lf o8 P))) (nd o46 P (nd o7 P (lf o8 P) (lf o150 P)) (nd o89 P (lf o129 P) .nil))) (nd o24 P (nd o41 P (nd o62 P (lf o7 P) (lf o145 P)) (nd o8 P (lf o124 P) (lf o163 P))) (nd o8 P (nd o73 P (lf o115 P) (lf o7 P)) (nd o7 P (lf o8 P) .nil))))) (nd o5 P (nd o9 P (nd o15 P (nd o7 P (nd o57 P (lf o98 P) (lf o7 P)) (nd o78 P (lf o8 P) (lf o158 P))) (nd o44 P (nd o67 P (lf o110 P) (lf o148 P)) (nd o7 P (lf o7 P) (lf o167 P)))) (nd o23 P (nd o7 P (nd o7 P (lf o105 P) (lf o8 P)) (nd o84 P (lf o123 P) (lf o162 P))) (nd o52 P (nd o72 P (lf o7 P) (lf o153 P)) (nd o8 P (lf o133 P) .nil)))) (nd o11 P (nd o18 P (nd o36 P (nd o7 P (lf o8 P) (lf o141 P)) (nd o81 P (lf o121 P) (lf o160 P))) (nd o47 P (nd o70 P (lf o7 P) (lf o8 P)) (nd o90 P (lf o7 P) .nil))) (nd o32 P (nd o7 P (nd o63 P (lf o107 P) (lf o7 P)) (nd o7 P (lf o126 P) (lf o165 P))) (nd o7 P (nd o75 P (lf o116 P) (lf o155 P)) (nd o95 P (lf o7 P) .nil)))))) (nd o2 P (nd o4 P (nd o8 P (nd o8 P (nd o30 P (nd o56 P (lf o97 P) (lf o139 P)) (nd o77 P (lf o7 P) (lf o157 P))) (nd o7 P (nd o66 P (lf o109 P) (lf o7 P)) (nd o88 P (lf o127 P) (lf o166 P)))) (nd o22 P (nd o39 P (nd o61 P (lf o104 P) (lf o7 P)) (nd o83 P (lf o8 P) (lf o8 P))) (nd o49 P (nd o8 P (lf o114 P) (lf o152 P)) (nd o7 P (lf o132 P) .nil)))) (nd o135 P (nd o17 P (nd o7 P (nd o58 P (lf o7 P) (lf o7 P)) (nd o67 P (lf o120 P) (lf o159 P))) (nd o26 P (nd o69 P (lf o111 P) (lf o7 P)) (nd o7 P (lf o130 P) .nil))) (nd o26 P (nd o42 P (nd o7 P (lf o8 P) (lf o146 P)) (nd o85 P (lf o125 P) (lf o164 P))) (nd o53 P (nd o74 P (lf o7 P) (lf o8 P)) (nd o94 P (lf o136 P) .nil))))) (nd o6 P (nd o10 P (nd o7 P (nd o31 P (nd o7 P (lf o99 P) (lf o8 P)) (nd o79 P (lf o119 P) (lf o7 P))) (nd o45 P (nd o68 P (lf o7 P) (lf o149 P)) (nd o8 P (lf o128 P) (lf o168 P)))) (nd o7 P (nd o40 P (nd o8 P (lf o106 P) (lf o144 P)) (nd o7 P (lf o7 P) (lf o7 P))) (nd o7 P (nd o7 P (lf o8 P) (lf o154 P)) (nd o93 P (lf o7 P) .nil)))) (nd o12 P (nd o20 P (nd o7 P (nd o59 P (lf o103 P) (lf o142 P)) (nd o7 P (lf o122 P) (lf o161 P))) (nd o48 P (nd o71 P (lf o112 P) (lf o151 P)) (nd o91 P (lf o8 P) .nil))) (nd o26 P (nd o8 P (nd o64 P (lf o7 P) (lf o8 P)) (nd o86 P (lf o7 P) (lf o7 P))) (nd o54 P (nd o7 P (lf o117 P) (lf o7 P)) (nd o96 P (lf o137 P) .nil))))))
end
noncomputable def items (o:Obj):List Value:=match o.data with
 | .seq xs _=>xs.toList
 | _=>[]
noncomputable def lpI (m:Nat):Obj:=⟨.type "range_iterator",none,.fields #[.int m 0,.int (256 - m) 0,.int 1 0],#[]⟩
noncomputable def lpL (P:Params) (m:Nat):Obj:=⟨.type "list",none,.seq ((items (o22 P)).take m).toArray m,#[]⟩
noncomputable def lpD (P:Params) (m:Nat):Obj:=⟨.type "dict",none,if m=0 then .dict #[] 0 else .dict #[e_ P "c" 202 (.int (m - 1) (197+4 * m))] 1,#[]⟩
noncomputable def trL (m:Nat) (P:Params):BT:=(.node (o0 P) (.node (o1 P) (.node (o13 P) (.node (o7 P) (.node (o7 P) .nil .nil) (.node (lpI m) .nil .nil)) (.node (o7 P) (.node (o16 P) .nil .nil) .nil)) (.node (o5 P) (.node (o9 P) (.node (o15 P) .nil .nil) (.node (lpD P m) .nil .nil)) (.node (o11 P) (.node (o18 P) .nil .nil) .nil))) (.node (o2 P) (.node (o4 P) (.node (o8 P) (.node (o8 P) .nil .nil) (.node (lpL P m) .nil .nil)) (.node (o14 P) (.node (o17 P) .nil .nil) .nil)) (.node (o6 P) (.node (o10 P) (.node (o7 P) .nil .nil) .nil) (.node (o12 P) (.node (o20 P) .nil .nil) .nil))))
noncomputable abbrev SL (m:Nat) (w:World) (os:OsState):SharedT:=Sx (trL m) 26 (201+4 * m) w os
noncomputable def th3:Thread:=piecesOf ((B0.drop 3).take 1) E0 c0 ⟨5,0,5,2⟩ Bf
abbrev r1:String:="comprehension-iter-twice"
abbrev r2:String:="special-get-raises"
noncomputable def X (b:Bool) (w:World) (os:OsState):Option (SharedT×Thread):=
 Fast.tw10295753902157049106 Fast.tw14364793385576792824 P0 (w.withFollow r1 b) 11 (some (.ref 6)) 1 (if b then 42 else 52) (Sx tr3 22 198 (w.withFollow r1 b) os) th3
noncomputable def thrOf (x:Option (SharedT×Thread)):Thread:=match x with
 | some (_,t)=>t
 | none=>th3
noncomputable def T (b:Bool) (w:World) (os:OsState):Thread:=thrOf (X b w os)
theorem some_of {x:Option (SharedT×Thread)} {s:SharedT} (h:x.map (·.1)=some s):x=some (s,thrOf x):=by
 cases x with
 | none=>cases h
 | some p=>cases h;rfl
noncomputable def isRet:Frame→Bool
 | .ret ..=>true
 | _=>false
noncomputable abbrev thL (p:Pos) (w:World) (os:OsState) (st:List Frame):Thread:=⟨(T true w os).cur,(T true w os).code,p,st⟩
abbrev Xst (b:Bool) (w:World):Prop:=∀ os:OsState,(X b w os).map (·.1)=some (SL 0 (w.withFollow r1 b) os)
theorem x_st (b:Bool) (w:World):Xst b w:=by
 cases b
 ·exact byRow2 r2 (P:=Xst false) (fun w os=>by kernel_rfl) (fun w os=>by kernel_rfl) w
 ·exact byRow2 r2 (P:=Xst true) (fun w os=>by kernel_rfl) (fun w os=>by kernel_rfl) w
abbrev Tcur (b:Bool) (w:World):Prop:=∀ os:OsState,T b w os=thL ⟨6,36,6,46⟩ (w.withFollow r1 b) os (T b w os).stack
theorem t_cur (b:Bool) (w:World):Tcur b w:=by
 cases b
 ·exact byRow2 r2 (P:=Tcur false) (fun w os=>by kernel_rfl) (fun w os=>by kernel_rfl) w
 ·exact byRow2 r2 (P:=Tcur true) (fun w os=>by kernel_rfl) (fun w os=>by kernel_rfl) w
abbrev Ttl (b:Bool) (w:World):Prop:=∀ os:OsState,((T b w os).stack.map isRet,(T b w os).stack.tail)=([true,true],Bf)
theorem t_tl (b:Bool) (w:World):Ttl b w:=by
 cases b
 ·exact byRow2 r2 (P:=Ttl false) (fun w os=>by kernel_rfl) (fun w os=>by kernel_rfl) w
 ·exact byRow2 r2 (P:=Ttl true) (fun w os=>by kernel_rfl) (fun w os=>by kernel_rfl) w
abbrev Loop (m:Nat) (w:World):Prop:=∀ (os:OsState) (K:Result→Sem PySem.Fin) (h:Option Value) (g:Bool) (l:List Value) (c:Code) (q:Pos) (kept:List Value),Fast.tw10295753902157049106 Fast.tw14364793385576792824 P0 w 11 (some (.ref 6)) 1 1184 (SL m w os) (thL (if m=0 then ⟨6,36,6,46⟩ else ⟨6,15,6,26⟩) w os (.ret K h g l c q kept::Bf)) =
  some (SL (m+32) w os,thL ⟨6,15,6,26⟩ w os (.ret K h g l c q kept::Bf))
theorem l0 (w:World):Loop 0 w:=byRow2 r2 (P:=Loop 0) (fun w os K h g l c q kept=>by kernel_rfl) (fun w os K h g l c q kept=>by kernel_rfl) w
end Mine.H
end
section
open PySem PySem.W PyProof.Rows
namespace Mine.H
theorem l1 (w:World):Loop 32 w:=byRow2 r2 (P:=Loop 32) (fun w os K h g l c q kept=>by kernel_rfl) (fun w os K h g l c q kept=>by kernel_rfl) w
theorem l2 (w:World):Loop 64 w:=byRow2 r2 (P:=Loop 64) (fun w os K h g l c q kept=>by kernel_rfl) (fun w os K h g l c q kept=>by kernel_rfl) w
theorem l3 (w:World):Loop 96 w:=byRow2 r2 (P:=Loop 96) (fun w os K h g l c q kept=>by kernel_rfl) (fun w os K h g l c q kept=>by kernel_rfl) w
theorem l4 (w:World):Loop 128 w:=byRow2 r2 (P:=Loop 128) (fun w os K h g l c q kept=>by kernel_rfl) (fun w os K h g l c q kept=>by kernel_rfl) w
theorem l5 (w:World):Loop 160 w:=byRow2 r2 (P:=Loop 160) (fun w os K h g l c q kept=>by kernel_rfl) (fun w os K h g l c q kept=>by kernel_rfl) w
theorem l6 (w:World):Loop 192 w:=byRow2 r2 (P:=Loop 192) (fun w os K h g l c q kept=>by kernel_rfl) (fun w os K h g l c q kept=>by kernel_rfl) w
theorem l7 (w:World):Loop 224 w:=byRow2 r2 (P:=Loop 224) (fun w os K h g l c q kept=>by kernel_rfl) (fun w os K h g l c q kept=>by kernel_rfl) w
abbrev Fin4 (b:Bool) (w:World):Prop:=∀ os:OsState,Fast.tw10110043849684766642 Fast.tw14364793385576792824 P0 (w.withFollow r1 b) 11 (some (.ref 6)) 1 (if b then 110 else 100)
 (SL 256 (w.withFollow r1 b) os) (thL ⟨6,15,6,26⟩ (w.withFollow r1 b) os (T b w os).stack)=some (.next,Sx tr4 28 1226 (w.withFollow r1 b) os,c0,⟨6,0,6,11⟩)
theorem fin4 (b:Bool) (w:World):Fin4 b w:=by
 cases b
 ·exact byRow2 r2 (P:=Fin4 false) (fun w os=>by kernel_rfl) (fun w os=>by kernel_rfl) w
 ·exact byRow2 r2 (P:=Fin4 true) (fun w os=>by kernel_rfl) (fun w os=>by kernel_rfl) w
theorem stack_is (b:Bool) (w:World) (os:OsState):∃ K h g l c q kept,(T b w os).stack = .ret K h g l c q kept::Bf:=by
 have h:=t_tl b w os
 generalize (T b w os).stack=st at h
 obtain⟨h1,h2⟩:=Prod.mk.inj h
 cases st with
 | nil=>cases h1
 | cons f r=>
  obtain⟨h3,_⟩:=List.cons.inj h1
  rw [show r=Bf from h2]
  cases f with
  | ret K hh g l c q kept=>exact⟨K,hh,g,l,c,q,kept,rfl⟩
  | gen=>cases h3
abbrev P4 (w:World):Prop:=∀ os:OsState,segRun treeTable P0 w 11 (some (.ref 6)) 1 9624 (Sx tr3 22 198 w os).abs th3=some (.next,(Sx tr4 28 1226 w os).abs,c0,⟨6,0,6,11⟩)
theorem p4b (b:Bool) (w:World):P4 (w.withFollow r1 b):=fun os=>by
 obtain⟨K,h,g,l,c,q,kept,hs⟩:=stack_is b w os
 have a0:segGoT treeTable P0 (w.withFollow r1 b) 11 (some (.ref 6)) 1 (if b then 42 else 52) (Sx tr3 22 198 (w.withFollow r1 b) os) th3=some (SL 0 (w.withFollow r1 b) os,thL ⟨6,36,6,46⟩ (w.withFollow r1 b) os (T b w os).stack):=by
  rw [Fast.te10295753902157049106,Fast.te14364793385576792824,←t_cur b w os]
  exact some_of (x_st b w os)
 have turn:∀ (m:Nat) (p:Pos),(if m=0 then ⟨6,36,6,46⟩ else ⟨6,15,6,26⟩)=p→Loop m (w.withFollow r1 b)→segGoT treeTable P0 (w.withFollow r1 b) 11 (some (.ref 6)) 1 1184 (SL m (w.withFollow r1 b) os) (thL p (w.withFollow r1 b) os (T b w os).stack) =
   some (SL (m+32) (w.withFollow r1 b) os,thL ⟨6,15,6,26⟩ (w.withFollow r1 b) os (T b w os).stack):=fun m p hp L=>by
  subst hp
  rw [Fast.te10295753902157049106,Fast.te14364793385576792824,hs]
  exact L os K h g l c q kept
 have e:=fin4 b w os
 rw [←Fast.te10110043849684766642,←Fast.te14364793385576792824] at e
 have s8:=segRun_of e
 have s7:=seg_go (segGo_of (turn 224 _ rfl (l7 _))) s8
 have s6:=seg_go (segGo_of (turn 192 _ rfl (l6 _))) s7
 have s5:=seg_go (segGo_of (turn 160 _ rfl (l5 _))) s6
 have s4:=seg_go (segGo_of (turn 128 _ rfl (l4 _))) s5
 have s3:=seg_go (segGo_of (turn 96 _ rfl (l3 _))) s4
 have s2:=seg_go (segGo_of (turn 64 _ rfl (l2 _))) s3
 have s1:=seg_go (segGo_of (turn 32 _ rfl (l1 _))) s2
 have s0:=seg_go (segGo_of (turn 0 _ rfl (l0 _))) s1
 have z:=seg_go (segGo_of a0) s0
 cases b
 ·exact z
 ·exact z
theorem p4 (w:World):P4 w:=byRow2 r1 (P:=P4) (fun w=>p4b false w) (fun w=>p4b true w) w
theorem p3 (w:World) (os:OsState):segRunT treeTable P0 w 11 (some (.ref 6)) 1 48 (Sx trb 15 187 w os) (piecesOf ((B0.drop 0).take 3) E0 c0 ⟨0,0,0,0⟩ Bf)=some (.next,Sx tr3 22 198 w os,c0,⟨5,0,5,2⟩):=by rw [Fast.te10110043849684766642,Fast.te14364793385576792824];kernel_rfl
theorem p12 (w:World) (os:OsState):segRunT treeTable P0 w 11 (some (.ref 6)) 1 133 (Sx tr4 28 1226 w os) (piecesOf ((B0.drop 4).take 8) E0 c0 ⟨6,0,6,11⟩ Bf)=some (.next,Sx tr12 32 1243 w os,c0,⟨14,0,14,8⟩):=by rw [Fast.te10110043849684766642,Fast.te14364793385576792824];kernel_rfl
abbrev P13 (w:World):Prop:=∀ os:OsState,segRunT treeTable P0 w 11 (some (.ref 6)) 1 3077 (Sx tr12 32 1243 w os) (piecesOf ((B0.drop 12).take 1) E0 c0 ⟨14,0,14,8⟩ Bf)=some (.next,Sx tr13 35 1451 w os,c0,⟨15,9,15,74⟩)
theorem p13 (w:World):P13 w:=byRow2 "special-get-raises" (P:=P13) (fun w os=>by rw [Fast.te10110043849684766642,Fast.te14364793385576792824];kernel_rfl) (fun w os=>by rw [Fast.te10110043849684766642,Fast.te14364793385576792824];kernel_rfl) w
theorem p14 (w:World) (os:OsState):segRunT treeTable P0 w 11 (some (.ref 6)) 1 25 (Sx tr13 35 1451 w os) (piecesOf ((B0.drop 13).take 1) E0 c0 ⟨15,9,15,74⟩ Bf)=some (.next,Sx tr14 35 1454 w os,c0,⟨17,0,17,28⟩):=by rw [Fast.te10110043849684766642,Fast.te14364793385576792824];kernel_rfl
abbrev P15 (w:World):Prop:=∀ os:OsState,segRunT treeTable P0 w 11 (some (.ref 6)) 1 4303 (Sx tr14 35 1454 w os) (piecesOf ((B0.drop 14).take 1) E0 c0 ⟨17,0,17,28⟩ Bf)=some (.next,Sx tr15 38 1740 w os,c0,⟨18,9,18,110⟩)
theorem p15 (w:World):P15 w:=byRow2 "special-get-raises" (P:=P15) (fun w os=>by rw [Fast.te10110043849684766642,Fast.te14364793385576792824];kernel_rfl) (fun w os=>by rw [Fast.te10110043849684766642,Fast.te14364793385576792824];kernel_rfl) w
abbrev P19 (w:World):Prop:=∀ os:OsState,segRunT treeTable P0 w 11 (some (.ref 6)) 1 203 (Sx tr15 38 1740 w os) (piecesOf ((B0.drop 15).take 4) E0 c0 ⟨18,9,18,110⟩ Bf)=some (.next,Sx tr19 57 1762 w os,c0,⟨25,9,25,16⟩)
theorem p19 (w:World):P19 w:=byRow2 "special-get-raises" (P:=P19) (fun w os=>by rw [Fast.te10110043849684766642,Fast.te14364793385576792824];kernel_rfl) (fun w os=>by rw [Fast.te10110043849684766642,Fast.te14364793385576792824];kernel_rfl) w
theorem p28 (w:World) (os:OsState):segRunT treeTable P0 w 11 (some (.ref 6)) 1 666 (Sx tr19 57 1762 w os) (piecesOf ((B0.drop 19).take 9) E0 c0 ⟨25,9,25,16⟩ Bf)=some (.next,Sx tr28 132 1875 w os,c0,⟨108,0,122,16⟩):=by rw [Fast.te10110043849684766642,Fast.te14364793385576792824];kernel_rfl
theorem p39 (w:World) (os:OsState):segRunT treeTable P0 w 11 (some (.ref 6)) 1 275 (Sx tr28 132 1875 w os) (piecesOf ((B0.drop 28).take 11) E0 c0 ⟨108,0,122,16⟩ Bf)=some (.next,Sx tr39 186 1954 w os,c0,⟨194,0,222,13⟩):=by rw [Fast.te10110043849684766642,Fast.te14364793385576792824];kernel_rfl
theorem p50 (w:World) (os:OsState):segRunT treeTable P0 w 11 (some (.ref 6)) 1 303 (Sx tr39 186 1954 w os) (piecesOf ((B0.drop 39).take 11) E0 c0 ⟨194,0,222,13⟩ Bf)=some (.next,Sx tr50 243 2050 w os,c0,⟨326,0,340,15⟩):=by rw [Fast.te10110043849684766642,Fast.te14364793385576792824];kernel_rfl
noncomputable def heap50 (P:Params):Heap:=⟨⟨[o0 P,o1 P,o2 P,o134 P,o4 P,o5 P,o6 P,o7 P,o8 P,o9 P,o10 P,o7 P,o135 P,o11 P,o12 P,o7 P,o8 P,o15 P,o7 P,o16 P,o17 P,o18 P,o20 P,o21 P,o22 P,o23 P,o7 P,o24 P,o26 P,o32 P,o26 P,o34 P,o30 P,o7 P,o31 P,o35 P,o7 P,o36 P,o7 P,o8 P,o39 P,o7 P,o40 P,o41 P,o42 P,o7 P,o8 P,o43 P,o7 P,o44 P,o45 P,o46 P,o26 P,o47 P,o48 P,o7 P,o49 P,o52 P,o7 P,o8 P,o53 P,o7 P,o54 P,o55 P,o56 P,o57 P,o7 P,o8 P,o58 P,o7 P,o59 P,o60 P,o61 P,o7 P,o8 P,o62 P,o7 P,o63 P,o64 P,o65 P,o66 P,o67 P,o68 P,o7 P,o69 P,o70 P,o71 P,o7 P,o8 P,o72 P,o7 P,o73 P,o74 P,o75 P,o7 P,o76 P,o77 P,o78 P,o79 P,o80 P,o67 P,o81 P,o7 P,o82 P,o83 P,o84 P,o7 P,o8 P,o85 P,o7 P,o86 P,o87 P,o88 P,o7 P,o8 P,o89 P,o7 P,o90 P,o91 P,o92 P,o7 P,o8 P,o93 P,o7 P,o94 P,o95 P,o96 P,o7 P,o97 P,o98 P,o99 P,o100 P,o7 P,o8 P,o103 P,o7 P,o104 P,o105 P,o106 P,o7 P,o8 P,o107 P,o7 P,o108 P,o109 P,o110 P,o7 P,o8 P,o111 P,o7 P,o112 P,o113 P,o114 P,o7 P,o8 P,o115 P,o7 P,o116 P,o117 P,o118 P,o7 P,o8 P,o119 P,o7 P,o120 P,o121 P,o122 P,o7 P,o8 P,o123 P,o7 P,o124 P,o125 P,o126 P,o7 P,o8 P,o127 P,o7 P,o128 P,o129 P,o130 P,o7 P,o8 P,o131 P,o132 P,o133 P,o7 P,o8 P,o136 P,o7 P,o137 P,o138 P,o139 P,o7 P,o8 P,o140 P,o7 P,o141 P,o142 P,o143 P,o7 P,o8 P,o144 P,o145 P,o146 P,o7 P,o8 P,o147 P,o7 P,o148 P,o149 P,o150 P,o7 P,o8 P,o151 P,o7 P,o152 P,o153 P,o154 P,o7 P,o8 P,o155 P,o7 P,o156 P,o157 P,o158 P,o7 P,o8 P,o159 P,o160 P,o161 P,o7 P,o8 P,o162 P,o7 P,o163 P,o164 P,o165 P,o7 P,o8 P,o166 P,o167 P,o168 P]⟩,{}⟩
abbrev ann0:Option Value:=some (.ref 6)
theorem pre (w:World) (os:OsState):topGo treeTable P0 w 11 ann0 12 ⟨boot_heap w.params,#[],boot_drawn,boot_toks,os⟩ (topStub P0)=some ((Sx trb 15 187 w os).abs,⟨denote treeTable c0,c0,⟨0,0,0,0⟩,Bf⟩):=by
 rw [Fast.te15667345088766844465,Fast.te14364793385576792824,Fast.te11892475500146522536];kernel_rfl
theorem blk (w:World) (os:OsState):segRun treeTable P0 w 11 ann0 1 1 (Sx trb 15 187 w os).abs (blockOf B0 E0 c0 ⟨0,0,0,0⟩ Bf)=some (.next,(Sx trb 15 187 w os).abs,c0,⟨0,0,0,0⟩):=by
 rw [Fast.te14374325043358763698,Fast.te14364793385576792824];kernel_rfl
theorem fin (w:World) (os:OsState):topRun treeTable P0 w 11 ann0 2 (Sx tr50 243 2050 w os).abs (restOf [] E0 c0 ⟨326,0,340,15⟩ Bf)=some ⟨heap50 w.params,#[],{},2050,os⟩:=by
 rw [Fast.te14082659384304107361,Fast.te14364793385576792824];kernel_rfl
theorem body_is:B0=(B0.drop 0).take 3++((B0.drop 3).take 1++((B0.drop 4).take 8++((B0.drop 12).take 1++((B0.drop 13).take 1++((B0.drop 14).take 1++((B0.drop 15).take 4++((B0.drop 19).take 9++((B0.drop 28).take 11++((B0.drop 39).take 11++[]))))))))):=by kernel_rfl
theorem run (w:World) (os:OsState):topRun treeTable P0 w 11 ann0 18672 ⟨boot_heap w.params,#[],boot_drawn,boot_toks,os⟩ (topStub P0)=some ⟨heap50 w.params,#[],{},2050,os⟩:=by
 have k50:=fin w os
 have k39:=piece_app (rest:=[]) (segRun_of (p50 w os)) k50
 have k28:=piece_app (rest:=_) (segRun_of (p39 w os)) k39
 have k19:=piece_app (rest:=_) (segRun_of (p28 w os)) k28
 have k15:=piece_app (rest:=_) (segRun_of (p19 w os)) k19
 have k14:=piece_app (rest:=_) (segRun_of (p15 w os)) k15
 have k13:=piece_app (rest:=_) (segRun_of (p14 w os)) k14
 have k12:=piece_app (rest:=_) (segRun_of (p13 w os)) k13
 have k4:=piece_app (rest:=_) (segRun_of (p12 w os)) k12
 have k3:=piece_app (rest:=_) (p4 w os) k4
 have kb:=piece_app (rest:=_) (segRun_of (p3 w os)) k3
 have z:=piece_block (blk w os) (by rw [body_is.symm] at kb;exact kb)
 exact go_top (pre w os) z
noncomputable def q0:Program:={ P0 with main:={ P0.main with body:=[stm 49] } }
abbrev r0:OpenLaw:=PySem.Challenge.rw_il0085_01
theorem wellSaid0:r0.wellSaid=true:=by
 rw [Fast.te9446332074065402090];kernel_rfl
theorem start_plain (w:World):cX (fun s:Shared=>(s.heap,s.gens,s.drawn,s.toks)) (importEnds treeTable (opening P0) w 600 (start (opening P0)).1 (start (opening P0)).2)=some (boot_heap w.params,#[],boot_drawn,boot_toks):=by
 kernel_rfl
theorem fence0 (s:Shared):fenceModules? P0 s=some s:=by kernel_rfl
theorem start_open (w:World):cX (fun s:Shared=>(s.heap,s.gens,s.drawn,s.toks)) (fencedOpening treeTable P0 w 20000)=some (boot_heap w.params,#[],boot_drawn,boot_toks):=by
 obtain⟨s,hs,hv⟩:=aF.mp (start_plain w)
 have m:=importEnds_mono 19400 _ _ _ _ hs
 unfold fencedOpening
 rw [m]
 show ((fenceModules? P0 s)).map _=_
 rw [fence0 s]
 exact congrArg some hv
theorem start_size (w:World):((boot_heap w.params).isNs mainGlobals&&(#[]:Array GenState).size == 0,(boot_heap w.params).objs.size,(boot_heap w.params).nsMap mainGlobals (bF "__annotations__"))=(true,11,ann0):=by
 kernel_rfl
noncomputable def loose0:List Str:=(["CRLF","NL","_QUOPRI_MAP","_QUOPRI_HEADER_MAP","_QUOPRI_BODY_MAP","ascii_lowercase","ascii_uppercase","ascii_letters","digits","hexdigits","unquote","quote","_QUOPRI_BODY_ENCODE_MAP","body_encode","decode","_plain_name","ABCMeta","_ABCLike","_abc_plain_meta","fspath","_check_arg_types","_get_sep","join","split","dirname","commonpath","sorted_list_difference","_law_trees","_law_path","_law_read","_law_signs","_law_rank","_law_torn","_law_whole","_wall","__name__","c"]:List String).map bF
noncomputable def fin0 (w:World) (os:OsState):Shared:=⟨heap50 w.params,#[],{},2050,os⟩
noncomputable def mods0:List Str:=importedModules P0.main.body
theorem look1 (w:World):staticsOk mods0 (boot_heap w.params) (heap50 w.params)=true:=by kernel_rfl
theorem look2 (w:World):namesBound P0 (heap50 w.params)=true:=by kernel_rfl
theorem look3 (w:World) (os:OsState):gensDone (fin0 w os)=true:=by kernel_rfl
theorem look4 (w:World):laidKept (boot_heap w.params) (heap50 w.params)=true:=by kernel_rfl
theorem s1 (w:World) (os:OsState):seen ((recsOf q0).map (·.name)) (ownsOf q0) [] { fin0 w os with gens:=#[] }=expectedOf q0:=by kernel_rfl
theorem s2 (w:World):(heap50 w.params).bltView=bltViewBooted:=by kernel_rfl
theorem s3 (w:World) (os:OsState):tabsOk q0 (fin0 w os)=true:=by kernel_rfl
theorem s4 (w:World) (os:OsState):pinSeenD q0 (drecsOf q0) (fin0 w os)=pinGoodD (drecsOf q0):=by kernel_rfl
theorem s5 (w:World) (os:OsState):plainSeenE q0 (looseW q0 loose0) (fin0 w os)=plainGoodE q0 (looseW q0 loose0):=by kernel_rfl
theorem s6 (w:World) (os:OsState):plainSeenD q0 loose0 (fin0 w os)=plainGoodD q0 loose0:=by kernel_rfl
theorem s7 (w:World) (os:OsState):wideSeen q0 (fin0 w os)=wideGood q0:=by kernel_rfl
theorem s8 (w:World) (os:OsState):clsSeenW q0 loose0 (fin0 w os)=clsGoodW q0 loose0:=by kernel_rfl
theorem s9 (w:World) (os:OsState):(fin0 w os).heap.keysOk (looseW q0 loose0) ((recsOf q0).map (·.name)) ((litsOf q0).map (·.1)) ((clssOf q0 (looseW q0 loose0)).map (·.name))=true:=by kernel_rfl
theorem s10 (w:World) (os:OsState):((fin0 w os).heap.accountedOkI mods0&&(fin0 w os).heap.isNs mainGlobals&&(fin0 w os).heap.isNs builtinsNs&&tablesOk q0 (fin0 w os).heap&&true&&((fin0 w os).gens.size == 0))=true:=by kernel_rfl
theorem tup9 {A1 A2 A3 A4 A5 A6 A7 A8 A9:Type} {a1 b1:A1} {a2 b2:A2} {a3 b3:A3} {a4 b4:A4} {a5 b5:A5} {a6 b6:A6} {a7 b7:A7} {a8 b8:A8} {a9 b9:A9} (h1:a1=b1) (h2:a2=b2) (h3:a3=b3) (h4:a4=b4) (h5:a5=b5) (h6:a6=b6) (h7:a7=b7) (h8:a8=b8) (h9:a9=b9):(a1,a2,a3,a4,a5,a6,a7,a8,a9)=(b1,b2,b3,b4,b5,b6,b7,b8,b9):=by
 subst h1 h2 h3 h4 h5 h6 h7 h8 h9;rfl
theorem and4 {a b c d:Bool} (h1:a=true) (h2:b=true) (h3:c=true) (h4:d=true):(a&&b&&c&&d)=true:=by
 subst h1 h2 h3 h4;rfl
theorem and3 {a b c:Bool} (h:(a&&(b&&c))=true):(a&&b&&c)=true:=by
 cases a<;>cases b<;>cases c<;>simp_all
theorem s39 (w:World) (os:OsState):((fin0 w os).heap.keysOk (looseW q0 loose0) ((recsOf q0).map (·.name)) ((litsOf q0).map (·.1)) ((clssOf q0 (looseW q0 loose0)).map (·.name))&&(fin0 w os).heap.accountedOkI mods0&&(fin0 w os).heap.isNs mainGlobals&&(fin0 w os).heap.isNs builtinsNs&&tablesOk q0 (fin0 w os).heap&&true&&((fin0 w os).gens.size == 0))=true:=by
 have a:=s9 w os
 have b:=s10 w os
 revert a b
 generalize (fin0 w os).heap.keysOk (looseW q0 loose0) ((recsOf q0).map (·.name)) ((litsOf q0).map (·.1)) ((clssOf q0 (looseW q0 loose0)).map (·.name))=x
 generalize (fin0 w os).heap.accountedOkI mods0=y
 intro a b
 subst a
 exact b
theorem seen0 (w:World) (os:OsState):openSeen q0 loose0 mods0 (fun _=>true) true (fin0 w os)=openGood q0 loose0:=
 tup9 (s1 w os) (s2 w) (s39 w os) (s3 w os) (s4 w os) (s5 w os) (s6 w os) (s7 w os) (s8 w os)
theorem left0:LeftO P0 q0 loose0 (fun _=>true) (fun s=>s.heap) (fun w=>heap50 w.params) 20000 true:=
 LeftO.of_pieces (H₀:=boot_heap) (H₁:=heap50) (gs₀:=#[]) (gs₁:=#[]) (d₀:=boot_drawn) (d₁:={}) (k₀:=boot_toks) (k₁:=2050) (m₀:=11) (ann:=ann0) (M:=18672)
  start_open start_size run (by decide) fun w=>funext fun os=>ou (and4 (look1 w) (look2 w) (look3 w os) (look4 w)) (ou (seen0 w os) rfl)
noncomputable def rr:OpenRow:=r0.row
def kept0 (w:World) (h:Heap):Prop:=∀ b o,(heap50 w.params).get? b=some o→h.get? b=some o
theorem kept0_of (w:World) (s:Shared) (e:s.heap=heap50 w.params):kept0 w s.heap:=fun b o h=>by rw [e];exact h
end Mine.H
end
section
set_option backward.match.sparseCases false
open PySem PySem.W PyProof.Rows
namespace Mine.H
noncomputable def posOf:Stmt→Pos
 | .FunctionDef (pos:=p) ..=>p
 | _=>⟨0,0,0,0⟩
noncomputable def d0:DefRec:=⟨bF "law",fnP (stm 49),fnB (stm 49),fnS (stm 49),posOf (stm 49)⟩
theorem def0:defOf q0 rr.name=some (d0,[]):=by kernel_rfl
theorem def1:P0.theDef rr.name=some (d0.params,d0.body,d0.scope):=by kernel_rfl
theorem def2:kwWritten? d0.params.kwonlyargs d0.params.kw_defaults=some []:=by kernel_rfl
theorem ok0:(chainsOk q0&&opensWell rr.prog&&(frees rr.toRowW&&rr.within.isEmpty))=true:=by kernel_rfl
theorem bare0:rr.prog.bare:=⟨rfl,rfl,rfl,rfl,rfl,by decide +kernel⟩
theorem wit0:rr.toRowW.promised:=⟨[.list [.int 3,.int 1]],by decide +kernel,by decide +kernel⟩
theorem holds_of (call:WalkO q0 loose0 (fun _ _=>True) kept0 rr.toRowW d0 [] fun f vs=>PySem.call f vs):PySem.Challenge.rw_il0085_01.Holds:=
 holds_law wellSaid0 fun said=>holds_open (r:=rr) (q:=q0) (loose:=loose0) (Xt:=fun _=>true) (XP:=fun _ _=>True) (Yf:=fun s=>s.heap) (Ya:=fun w=>heap50 w.params) (YP:=kept0) (d:=d0) (kwd:=[]) (N:=20000)
  left0 kept0_of (fun w h h' y k b o e=>k b o (y b o e)) (fun _ _=>trivial) (fun _ _ _ _ _=>trivial) def0 def1 def2 (fun s _=>recFacts_nil rfl) rfl said ok0 bare0 wit0 call
end Mine.H
end
section
open PySem PySem.W PyProof.Rows
namespace Mine
noncomputable def pF (s:Stmt):P:=⟨(H.fnS s).names,(H.fnS s).names,none,false,true,false⟩
theorem tg:okSs (pF (H.stm 15)) iD.body (H.fnB (H.stm 15))=true:=by kernel_rfl
theorem yz:okSs (pF (H.stm 16)) lg.body (H.fnB (H.stm 16))=true:=by kernel_rfl
theorem mA:okSs (pF (H.stm 20)) dY.body (H.fnB (H.stm 20))=true:=by kernel_rfl
theorem vQ:okSs (pF (H.stm 21)) jM.body (H.fnB (H.stm 21))=true:=by kernel_rfl
theorem vP:okSs (pF (H.stm 30)) jL.body (H.fnB (H.stm 30))=true:=by kernel_rfl
theorem th:okSs (pF (H.stm 34)) iE.body (H.fnB (H.stm 34))=true:=by kernel_rfl
theorem Ao:okSs (pF (H.stm 35)) jh.body (H.fnB (H.stm 35))=true:=by kernel_rfl
theorem yy:okSs (pF (H.stm 36)) lc.body (H.fnB (H.stm 36))=true:=by kernel_rfl
theorem ti:okSs (pF (H.stm 37)) iG.body (H.fnB (H.stm 37))=true:=by kernel_rfl
theorem m5:okSs (pF (H.stm 38)) eG.body (H.fnB (H.stm 38))=true:=by kernel_rfl
theorem fz:okSs (pF (H.stm 40)) ce.body (H.fnB (H.stm 40))=true:=by kernel_rfl
theorem pG:okSs (pF (H.stm 42)) fG.body (H.fnB (H.stm 42))=true:=by kernel_rfl
theorem rk:okSs (pF (H.stm 43)) gL.body (H.fnB (H.stm 43))=true:=by kernel_rfl
theorem ri:okSs (pF (H.stm 44)) gJ.body (H.fnB (H.stm 44))=true:=by kernel_rfl
theorem pH:okSs (pF (H.stm 45)) fH.body (H.fnB (H.stm 45))=true:=by kernel_rfl
theorem rj:okSs (pF (H.stm 46)) gK.body (H.fnB (H.stm 46))=true:=by kernel_rfl
theorem rh:okSs (pF (H.stm 47)) gI.body (H.fnB (H.stm 47))=true:=by kernel_rfl
theorem pE:okSs (pF (H.stm 48)) fF.body (H.fnB (H.stm 48))=true:=by kernel_rfl
theorem yA:okSs (pF (H.stm 49)) q8.body (H.fnB (H.stm 49))=true:=by kernel_rfl
section
open H
noncomputable def FAl:List Addr:=[44,51,64,72,145,159,166,173,180,185,192,199,204,211,218,225,230,237,242]
noncomputable def FA (i:Nat):Addr:=FAl.getD i 0
section
variable {prog:Program} {w:World} {B:Heap} {fm:FuncData} {fd:FD}
theorem sK {α:Type} {l:List α} (h:l.length=0):l=[]:=aG h
theorem gA {α:Type} {l:List α} (h:l.length=1):∃ a,l=[a]:=by
 cases l with
 | nil=>cases h
 | cons a l=>rw [sK (Nat.succ.inj h)];exact⟨a,rfl⟩
theorem rY {α:Type} {l:List α} (h:l.length=2):∃ a b,l=[a,b]:=by
 cases l with
 | nil=>cases h
 | cons a l=>obtain⟨b,rfl⟩:=gA (Nat.succ.inj h);exact⟨a,b,rfl⟩
theorem sY {vs:List V} {fv:List (Option V)} (hv:fd.vararg=false) (h:frame fd vs=some fv):vs.length+fd.dflt.length=fd.npar∧fv=(vs++fd.dflt).map some++bB (fd.nvars - fd.npar) .none:=by
 unfold frame at h
 rw [hv,if_neg aA] at h
 by_cases hl:vs.length+fd.dflt.length=fd.npar
 ·rw [if_pos hl] at h;cases h;exact⟨hl,rfl⟩
 ·rw [if_neg hl] at h;cases h
theorem iJ {pn:List Str} (hv:fd.vararg=false) (hp:pn.length=fd.npar)
  (hb:∀ (A:Around) (ρ:List Addr) (s:Shared) (vs:List V) (xs:List Value),(∀ b o,B.get? b=some o→s.heap.get? b=some o)→VRs B ρ s.heap vs xs→vs.length+fd.dflt.length=fd.npar→∃ us,BindsTo s fm ⟨xs,[]⟩ (pn.zip us)∧VRs B ρ s.heap (vs++fd.dflt) us):Binds prog w B fm pn fd:=by
 intro A ρ s vs xs fv base hr hf Q E hq
 obtain⟨h1,h2⟩:=sY hv hf
 obtain⟨us,h3,h4⟩:=hb A ρ s vs xs base hr h1
 exact h3 _ _ _ _ (hq s.heap s.toks us (vs++fd.dflt) (fd.nvars - fd.npar) (fun _ _ e=>e) (am _) h2 h4 (by rw [aa,h1,hp]))
theorem binds1 {a:Str} (hv:fd.vararg=false) (hp:fd.npar=1) (hd:fd.dflt=[]) (hb:∀ v,bindArgs fm ⟨[v],[]⟩=pure [(a,v)]):Binds prog w B fm [a] fd:=
 iJ hv hp.symm fun A ρ s vs xs base hr hl=>by
  rw [hd,hp] at hl
  obtain⟨x,rfl⟩:=gA (hr.length.trans hl)
  exact⟨[x],.of_eq (hb x),by rw [hd,al];exact hr⟩
theorem binds2 {a b:Str} (hv:fd.vararg=false) (hp:fd.npar=2) (hd:fd.dflt=[]) (hb:∀ v u,bindArgs fm ⟨[v,u],[]⟩=pure [(a,v),(b,u)]):Binds prog w B fm [a,b] fd:=
 iJ hv hp.symm fun A ρ s vs xs base hr hl=>by
  rw [hd,hp] at hl
  obtain⟨x,y,rfl⟩:=rY (hr.length.trans hl)
  exact⟨[x,y],.of_eq (hb x y),by rw [hd,al];exact hr⟩
end
theorem bindV {prog:Program} {w:World} {A:Around} {pm cd v:Value} {l:List Value} {s:Shared} {Q:List (Str×Value)→Shared→Prop} {E:Value→Shared→Prop} (hl:l.length≤sizeLine) (h:Q [(("a":Str),v),(("p":Str),.ref s.heap.objs.size)] { s with heap:=s.heap.push (tobj l.toArray 0) }) :
  wpAny (model prog w) A (bindArgs (fnD (stm 35) 3 .none .none .none pm none cd .none 0 (.ofString "join")) ⟨v::l,[]⟩) Q E s:=by
 unfold bindArgs
 refine wpAny_bind (wpAny_pure ?_)
 refine fK (fun q=>absurd (cI.mp q).2 aA) ?_
 show wpAny _ _ (newTuple l >>= _) _ _ _
 exact wpAny_bind (wpAny_newTuple (wpAny_pure h) hl)
noncomputable def parB:List Str→List (Str×NameKind)→Bool
 | [],_=>true
 | _::_,[]=>false
 | x::xs,(y,k)::r=>x == y&&((k == .local||k == .cell)&&parB xs r)
theorem zY {pn:List Str}:∀ {l:List (Str×NameKind)},parB pn l=true→∀ (i:Nat) (x:Str),pn[i]?=some x→∃ k,l[i]?=some (x,k)∧(k = .local∨k = .cell):=by
 induction pn with
 | nil=>intro l _ i x h;cases h
 | cons y ys ih=>
  intro l h i x hx
  cases l with
  | nil=>cases h
  | cons z r=>
   obtain⟨h1,h⟩:=cE h
   obtain⟨h2,h3⟩:=cE h
   cases i with
   | zero=>
    cases hx
    refine⟨z.2,?_,?_⟩
    ·rw [eq_of_beq h1];rfl
    ·rcases jn.mp h2 with q | q
     ·exact .inl (eq_of_beq q)
     ·exact .inr (eq_of_beq q)
   | succ i=>exact ih h3 i x hx
noncomputable def scOk (sc:Scope) (pn:List Str):Bool:=sc.kind == .function&&(!sc.isCoroutine&&(!sc.isGenerator&&(decide (sc.names.map (·.1)).Nodup&&parB pn sc.names)))
section
variable {w:World} {B:Heap} (kp:∀ b o,(heap50 w.params).get? b=some o→B.get? b=some o)
include kp
theorem BL:B.NoLimit:=⟨(heap50 w.params).nsMap cStatics,(Heap.Ns.of_isNs (by kernel_rfl)).keeps kp,by kernel_rfl⟩
theorem dH {prog:Program} {fa:Addr} {fd:FD} {s:Stmt} {pn:List Str} {o:Obj} {dv pm:Value} {ca:Addr} {nm:Str} (hs:scOk (fnS s) pn=true) (e:(heap50 w.params).get? fa=some o)
  (d:o.data = .func (fnD s 3 dv .none .none pm none (.ref ca) .none 0 nm)) (c:∃ co vs t,(heap50 w.params).get? ca=some co∧co.data = .fields vs∧vs[1]?=some (.str nm t)) (b:Binds prog w B (fnD s 3 dv .none .none pm none (.ref ca) .none 0 nm) pn fd):FnOk prog w B fa fd (fnS s) (fnB s) pn:=by
 obtain⟨h1,hs⟩:=cE hs
 obtain⟨h2,hs⟩:=cE hs
 obtain⟨h3,hs⟩:=cE hs
 obtain⟨h4,h5⟩:=cE hs
 obtain⟨co,vs,t,c1,c2,c3⟩:=c
 exact⟨⟨o,_,kp _ _ e,d,rfl,rfl,rfl,rfl,rfl,⟨ca,co,vs,t,rfl,kp _ _ c1,c2,c3⟩,b⟩,BL kp,eq_of_beq h1,dg h2,dg h3,of_decide_eq_true h4,zY h5⟩
theorem sZ {prog:Program}:FnOk prog w B 44 iD (fnS (stm 15)) (fnB (stm 15)) ["s"]:=
 dH kp (o:=o42 w.params) (by kernel_rfl) (by kernel_rfl) rfl ⟨o41 w.params,_,1741,by kernel_rfl,rfl,rfl⟩ (binds1 rfl rfl rfl fun _=>rfl)
theorem yi {prog:Program}:FnOk prog w B 51 lg (fnS (stm 16)) (fnB (stm 16)) ["c"]:=
 dH kp (o:=o46 w.params) (by kernel_rfl) (by kernel_rfl) rfl ⟨o45 w.params,_,1748,by kernel_rfl,rfl,rfl⟩ (binds1 rfl rfl rfl fun _=>rfl)
theorem mu {prog:Program}:FnOk prog w B 64 dY (fnS (stm 20)) (fnB (stm 20)) ["body","maxlinelen","eol"]:=
 dH kp (o:=o56 w.params) (by kernel_rfl) (by kernel_rfl) rfl ⟨o55 w.params,_,1764,by kernel_rfl,rfl,rfl⟩ (iJ rfl rfl fun A ρ s vs xs base hr hl=>by
  obtain⟨x,rfl⟩:=gA (l:=xs) (hr.length.trans (vZ (m:=2) hl))
  refine⟨[x,.int 76 1762,s_ "\n" 196],BindsTo.of_defaults rfl (base _ _ (kp 57 (o52 w.params) (by kernel_rfl))) rfl rfl rfl,VRs.append (.cons (.int _ _) (.cons ?_ .nil)) hr⟩
  exact .str' (by kernel_rfl) (show 1≤LIM by decide))
theorem vI {prog:Program}:FnOk prog w B 72 jM (fnS (stm 21)) (fnB (stm 21)) ["encoded","eol"]:=
 dH kp (o:=o61 w.params) (by kernel_rfl) (by kernel_rfl) rfl ⟨o60 w.params,_,1783,by kernel_rfl,rfl,rfl⟩ (iJ rfl rfl fun A ρ s vs xs base hr hl=>by
  obtain⟨x,rfl⟩:=gA (l:=xs) (hr.length.trans (vZ (m:=1) hl))
  refine⟨[x,s_ "\n" 196],BindsTo.of_defaults rfl (base _ _ (kp 65 (o57 w.params) (by kernel_rfl))) rfl rfl rfl,VRs.append (.cons ?_ .nil) hr⟩
  exact .str' (by kernel_rfl) (show 1≤LIM by decide))
theorem vH {prog:Program}:FnOk prog w B 145 jL (fnS (stm 30)) (fnB (stm 30)) ["path"]:=
 dH kp (o:=o110 w.params) (by kernel_rfl) (by kernel_rfl) rfl ⟨o109 w.params,_,1885,by kernel_rfl,rfl,rfl⟩ (binds1 rfl rfl rfl fun _=>rfl)
theorem ta {prog:Program}:FnOk prog w B 159 iE (fnS (stm 34)) (fnB (stm 34)) ["path"]:=
 dH kp (o:=o118 w.params) (by kernel_rfl) (by kernel_rfl) rfl ⟨o117 w.params,_,1910,by kernel_rfl,rfl,rfl⟩ (binds1 rfl rfl rfl fun _=>rfl)
omit kp in
theorem tx {prog:Program} {pm cd:Value}:Binds prog w B (fnD (stm 35) 3 .none .none .none pm none cd .none 0 (.ofString "join")) ["a","p"] jh:=by
 intro A ρ s vs xs fv base hr hf Q E hq
 unfold frame at hf
 rw [show jh.vararg=true from rfl,if_pos rfl] at hf
 by_cases hl:jh.npar≤vs.length∧vs.length≤LIM
 ·rw [if_pos hl] at hf
  cases hf
  cases vs with
  | nil=>exact absurd hl.1 (by decide)
  | cons v vs=>
   obtain⟨x,ys,r1,r2,rfl⟩:=hr
   have hz:vs.length≤LIM:=aj (bv _) hl.2
   have up:∀ b o,s.heap.get? b=some o→(s.heap.push (tobj ys.toArray 0)).get? b=some o:=fun b o e=>af _ e
   have sz:=(Keep.push (W:=fun _=>False) (h:=s.heap) (tobj ys.toArray 0)).size
   refine bindV (by rw [r2.length];exact aj hz bT) (hq _ s.toks [x,.ref s.heap.objs.size] [v,.tup vs] 3 up sz rfl ?_ rfl)
   exact .cons (VR.keep (W:=fun _=>False) (.of_all up sz) dX (fun _ _ e=>e) r1) (.cons (.tup (ao _ rfl) hz (r2.up up sz)) .nil)
 ·rw [if_neg hl] at hf;cases hf
theorem Al {prog:Program}:FnOk prog w B 166 jh (fnS (stm 35)) (fnB (stm 35)) ["a","p"]:=
 dH kp (o:=o122 w.params) (by kernel_rfl) (by kernel_rfl) rfl ⟨o121 w.params,_,1917,by kernel_rfl,rfl,rfl⟩ (tx)
theorem yh {prog:Program}:FnOk prog w B 173 lc (fnS (stm 36)) (fnB (stm 36)) ["p"]:=
 dH kp (o:=o126 w.params) (by kernel_rfl) (by kernel_rfl) rfl ⟨o125 w.params,_,1928,by kernel_rfl,rfl,rfl⟩ (binds1 rfl rfl rfl fun _=>rfl)
theorem tc {prog:Program}:FnOk prog w B 180 iG (fnS (stm 37)) (fnB (stm 37)) ["p"]:=
 dH kp (o:=o130 w.params) (by kernel_rfl) (by kernel_rfl) rfl ⟨o129 w.params,_,1939,by kernel_rfl,rfl,rfl⟩ (binds1 rfl rfl rfl fun _=>rfl)
theorem mW {prog:Program}:FnOk prog w B 185 eG (fnS (stm 38)) (fnB (stm 38)) ["paths"]:=
 dH kp (o:=o133 w.params) (by kernel_rfl) (by kernel_rfl) rfl ⟨o132 w.params,_,1949,by kernel_rfl,rfl,rfl⟩ (binds1 rfl rfl rfl fun _=>rfl)
theorem fy {prog:Program}:FnOk prog w B 192 ce (fnS (stm 40)) (fnB (stm 40)) ["expected","actual"]:=
 dH kp (o:=o139 w.params) (by kernel_rfl) (by kernel_rfl) rfl ⟨o138 w.params,_,1957,by kernel_rfl,rfl,rfl⟩ (binds2 rfl rfl rfl fun _ _=>rfl)
theorem pu {prog:Program}:FnOk prog w B 199 fG (fnS (stm 42)) (fnB (stm 42)) ["script"]:=
 dH kp (o:=o143 w.params) (by kernel_rfl) (by kernel_rfl) rfl ⟨o142 w.params,_,1973,by kernel_rfl,rfl,rfl⟩ (binds1 rfl rfl rfl fun _=>rfl)
theorem qZ {prog:Program}:FnOk prog w B 204 gL (fnS (stm 43)) (fnB (stm 43)) ["entry","plain"]:=
 dH kp (o:=o146 w.params) (by kernel_rfl) (by kernel_rfl) rfl ⟨o145 w.params,_,1994,by kernel_rfl,rfl,rfl⟩ (binds2 rfl rfl rfl fun _ _=>rfl)
theorem qX {prog:Program}:FnOk prog w B 211 gJ (fnS (stm 44)) (fnB (stm 44)) ["path"]:=
 dH kp (o:=o150 w.params) (by kernel_rfl) (by kernel_rfl) rfl ⟨o149 w.params,_,2000,by kernel_rfl,rfl,rfl⟩ (binds1 rfl rfl rfl fun _=>rfl)
theorem pw {prog:Program}:FnOk prog w B 218 fH (fnS (stm 45)) (fnB (stm 45)) ["name"]:=
 dH kp (o:=o154 w.params) (by kernel_rfl) (by kernel_rfl) rfl ⟨o153 w.params,_,2009,by kernel_rfl,rfl,rfl⟩ (binds1 rfl rfl rfl fun _=>rfl)
theorem qY {prog:Program}:FnOk prog w B 225 gK (fnS (stm 46)) (fnB (stm 46)) ["entry"]:=
 dH kp (o:=o158 w.params) (by kernel_rfl) (by kernel_rfl) rfl ⟨o157 w.params,_,2020,by kernel_rfl,rfl,rfl⟩ (binds1 rfl rfl rfl fun _=>rfl)
theorem qW {prog:Program}:FnOk prog w B 230 gI (fnS (stm 47)) (fnB (stm 47)) ["entries"]:=
 dH kp (o:=o161 w.params) (by kernel_rfl) (by kernel_rfl) rfl ⟨o160 w.params,_,2029,by kernel_rfl,rfl,rfl⟩ (binds1 rfl rfl rfl fun _=>rfl)
theorem pr {prog:Program}:FnOk prog w B 237 fF (fnS (stm 48)) (fnB (stm 48)) ["rows","kept"]:=
 dH kp (o:=o165 w.params) (by kernel_rfl) (by kernel_rfl) rfl ⟨o164 w.params,_,2035,by kernel_rfl,rfl,rfl⟩ (binds2 rfl rfl rfl fun _ _=>rfl)
theorem yj {prog:Program}:FnOk prog w B 242 q8 (fnS (stm 49)) (fnB (stm 49)) ["script"]:=
 dH kp (o:=o168 w.params) (by kernel_rfl) (by kernel_rfl) rfl ⟨o167 w.params,_,2045,by kernel_rfl,rfl,rfl⟩ (binds1 rfl rfl rfl fun _=>rfl)
theorem yl {prog:Program}:∀ (i:Nat),i < 19→∃ (s:Stmt) (fd:FD) (pn:List Str),FT i=some fd∧FnOk prog w B (FA i) fd (fnS s) (fnB s) pn∧okSs (pF s) fd.body (fnB s)=true
 | 0,_=>⟨stm 15,iD,_,rfl,sZ kp,tg⟩
 | 1,_=>⟨stm 16,lg,_,rfl,yi kp,yz⟩
 | 2,_=>⟨stm 20,dY,_,rfl,mu kp,mA⟩
 | 3,_=>⟨stm 21,jM,_,rfl,vI kp,vQ⟩
 | 4,_=>⟨stm 30,jL,_,rfl,vH kp,vP⟩
 | 5,_=>⟨stm 34,iE,_,rfl,ta kp,th⟩
 | 6,_=>⟨stm 35,jh,_,rfl,Al kp,Ao⟩
 | 7,_=>⟨stm 36,lc,_,rfl,yh kp,yy⟩
 | 8,_=>⟨stm 37,iG,_,rfl,tc kp,ti⟩
 | 9,_=>⟨stm 38,eG,_,rfl,mW kp,m5⟩
 | 10,_=>⟨stm 40,ce,_,rfl,fy kp,fz⟩
 | 11,_=>⟨stm 42,fG,_,rfl,pu kp,pG⟩
 | 12,_=>⟨stm 43,gL,_,rfl,qZ kp,rk⟩
 | 13,_=>⟨stm 44,gJ,_,rfl,qX kp,ri⟩
 | 14,_=>⟨stm 45,fH,_,rfl,pw kp,pH⟩
 | 15,_=>⟨stm 46,gK,_,rfl,qY kp,rj⟩
 | 16,_=>⟨stm 47,gI,_,rfl,qW kp,rh⟩
 | 17,_=>⟨stm 48,fF,_,rfl,pr kp,pE⟩
 | 18,_=>⟨stm 49,q8,_,rfl,yj kp,yA⟩
 | n+19,h=>absurd h (bf.mpr (cG _ _))
end
end
section
open H
noncomputable def isRefB:Option Value→Addr→Bool
 | some (.ref b),a=>b == a
 | _,_=>false
theorem vA {x:Option Value} {a:Addr} (h:isRefB x a=true):x=some (.ref a):=by
 cases x with
 | none=>exact nomatch h
 | some v=>cases v with
  | ref b=>exact congrArg (fun z=>some (Value.ref z)) (eq_of_beq h)
  | _=>exact nomatch h
noncomputable def isBT:Option Value→Value→Bool
 | some (.builtin a),.builtin b=>a == b
 | some (.type a),.type b=>a == b
 | _,_=>false
theorem Ag {x:Option Value} {v:Value} (h:isBT x v=true):x=some v:=by
 cases x with
 | none=>exact nomatch h
 | some u=>cases u with
  | builtin a=>cases v with
   | builtin b=>exact congrArg (fun z=>some (Value.builtin z)) (eq_of_beq h)
   | _=>exact nomatch h
  | type a=>cases v with
   | type b=>exact congrArg (fun z=>some (Value.type z)) (eq_of_beq h)
   | _=>exact nomatch h
  | _=>exact nomatch h
noncomputable def isStrB:V→Value→Bool
 | .str s,.str x _=>decide (s.length≤LIM)&&x == ⟨s.toArray⟩
 | _,_=>false
theorem j7 {B:Heap} {ρ:List Addr} {h:Heap} {v:V} {x:Value} (q:isStrB v x=true):VR B ρ h v x:=by
 cases v with
 | str s=>cases x with
  | str y t=>
   obtain⟨h1,h2⟩:=cE q
   exact .str' (eq_of_beq h2) (of_decide_eq_true h1)
  | _=>exact nomatch q
 | _=>exact nomatch q
noncomputable def strsB:List V→List Value→Bool
 | [],[]=>true
 | v::vs,x::xs=>isStrB v x&&strsB vs xs
 | _,_=>false
theorem ql {B:Heap} {ρ:List Addr} {h:Heap} {vs:List V}:∀ {xs:List Value},strsB vs xs=true→VRs B ρ h vs xs:=by
 induction vs with
 | nil=>intro xs q;cases xs with
  | nil=>exact .nil
  | cons x xs=>exact nomatch q
 | cons v vs ih=>intro xs q;cases xs with
  | nil=>exact nomatch q
  | cons x xs=>obtain⟨h1,h2⟩:=cE q;exact .cons (j7 h1) (ih h2)
section
noncomputable def seqOf (o:Obj):Array Value:=match o.data with
 | .seq xs _=>xs
 | _=>#[]
variable {w:World} {B:Heap} (kp:∀ b o,(heap50 w.params).get? b=some o→B.get? b=some o)
include kp
theorem Aj:∀ (k:Nat) (n:Str),gnames[k]?=some n→∃ x v,(heap50 w.params).nsMap mainGlobals n=some x∧GT k=some v∧∀ ρ h,VR B ρ h v x
 | 0,n,e=>by
  obtain rfl:=Option.some.inj e
  exact⟨s_ "\x0d\n" 194,_,by kernel_rfl,rfl,fun ρ h=>j7 (by kernel_rfl)⟩
 | 1,n,e=>by
  obtain rfl:=Option.some.inj e
  exact⟨s_ "0123456789abcdefABCDEF" 1239,_,by kernel_rfl,rfl,fun ρ h=>j7 (by kernel_rfl)⟩
 | 2,n,e=>by
  obtain rfl:=Option.some.inj e
  exact⟨.ref 24,_,by kernel_rfl,rfl,fun ρ h=>.flist (xs:=seqOf (o22 w.params)) (kp 24 (o22 w.params) (by kernel_rfl)) rfl rfl (by rw [ae,kG];decide) (ql (by kernel_rfl))⟩
 | 3,n,e=>by
  obtain rfl:=Option.some.inj e
  exact⟨.ref 53,_,by kernel_rfl,rfl,fun ρ h=>.flist (xs:=seqOf (o47 w.params)) (kp 53 (o47 w.params) (by kernel_rfl)) rfl rfl (by rw [ae,kG];decide) (ql (by kernel_rfl))⟩
 | n+4,_,e=>nomatch e
omit kp in
theorem gH {i:Nat} {n:Str} (h:fnames[i]?=some n):i < 19:=(ag.mp h).1
theorem xd:TopOk B FA GT where
 ex:=by
  have hf:(bZ 19).all (fun i=>match fnames[i]? with | some n=>isRefB ((heap50 w.params).nsMap mainGlobals n) (FA i) | none=>false)=true:=by kernel_rfl
  have hb:bnames.all (fun x=>((heap50 w.params).nsMap mainGlobals x.1).isNone&&isBT ((heap50 w.params).nsMap builtinsNs x.1) x.2)=true:=by kernel_rfl
  refine⟨(heap50 w.params).nsMap mainGlobals,(heap50 w.params).nsMap builtinsNs,(Heap.Ns.of_isNs (by kernel_rfl)).keeps kp,(Heap.Ns.of_isNs (by kernel_rfl)).keeps kp,fun i n e=>?_,Aj kp,fun n v hm=>?_⟩
  ·have:=ax.mp hf i (cQ.mpr (gH e))
   rw [e] at this
   exact vA this
  ·obtain⟨h1,h2⟩:=cE (ax.mp hb (n,v) hm)
   exact⟨nh.mp h1,Ag h2⟩
 fn:=fun i n e=>by
  obtain⟨s,fd,pn,_,F,_⟩:=yl (prog:=P0) kp i (gH e)
  obtain⟨o,fm,h1,h2,_⟩:=F.ex
  exact⟨o,fm,h1,h2⟩
end
theorem om {prog:Program} {w:World} {B:Shared} (kp:∀ b o,(heap50 w.params).get? b=some o→B.heap.get? b=some o) {n:Nat} (ih:∀ (i:Nat) (nm:Str),fnames[i]?=some nm→CallC prog w B (2 * n) (FA i) (callN FT GT n i))
  {s:Stmt} {fd:FD} (hk:okSs (pF s) fd.body (fnB s)=true) (hn:((fnS s).names.map (·.1)).Nodup) (d:D) (A:Around) (hE:EnvOk ⟨(fnS s).names,(fnS s).names,none,false,true,false⟩ d) (hB:d.B=B) (hC:COk A d.fs (2 * n+1)) (hFr:FrOk d) :
  TSs prog w A d (fnB s) (exs (callN FT GT n) GT fd.body):=by
 refine bL (n:=2 * n) (FA:=FA) fd.body (pF s) d A (fnB s) hk ?_
 have hh:=hE.hd rfl
 exact { E:=hE,T:=by rw [hB];exact xd kp,u:=by have:=hC.units;grind,ix:=fun _=>by rw [hC.handled,hh],hd:=fun _=>⟨hC.handled,hC⟩,C:=fun i nm e=>by rw [hB];exact ih i nm e,fr:=hC.frames,F:=hFr,nd:=hn,nc:=rfl }
theorem vW {prog:Program} {w:World} {B:Shared} (kp:∀ b o,(heap50 w.params).get? b=some o→B.heap.get? b=some o) (n:Nat):∀ (i:Nat) (nm:Str),fnames[i]?=some nm→CallC prog w B (2 * n) (FA i) (callN FT GT n i):=by
 induction n with
 | zero=>intro i nm _ fs A _ ρ s σ vs xs v σ' _ _ _ h;cases h
 | succ n ih=>
  intro i nm e
  obtain⟨s,fd,pn,hF,F,hk⟩:=yl (prog:=prog) kp i (gH e)
  rw [mC hF]
  exact Aq F fun d A hE hB hC hFr=>om kp ih hk F.nodup d A hE hB hC hFr
theorem z0 {h:Heap} {a:Addr} {m m':Str→Option Value} (x:h.Ns a m) (y:h.Ns a m') (n:Str):m n=m' n:=by
 obtain⟨o,es,ep,e,hd,_,hf⟩:=x
 obtain⟨o',es',ep',e',hd',_,hf'⟩:=y
 cases e.symm.trans e'
 cases hd.symm.trans hd'
 exact (hf n).symm.trans (hf' n)
theorem yQ {R:WRecords} {cl:Str→Option Addr} {B h h':Heap} {ρ:List Addr} {ns:List Int}:∀ {xs:List Value} {as:List Addr},ReadsAllW R cl h xs (ns.map .int) as→VRs B ρ h' (ns.map .int) xs:=by
 induction ns with
 | nil=>intro xs as r;cases r;exact .nil
 | cons n ns ih=>
  intro xs as r
  cases r with
  | cons a r=>cases a with
   | int i t=>exact .cons (.int _ _) (ih r)
theorem xF {xs:List WData} (h:r0.pre.holds [] { args:=[.list xs] }=true):xs.length≤63:=by
 cases q:decide ((63:Int) < (xs.length:Int)) with
 | false=>have:=of_decide_eq_false q;grind
 | true=>
  exfalso
  have e1:WTm.value [] (.lt (.lit (.int 63)) (.len (.arg 0))) { args:=[.list xs] }=some (.bool (decide ((63:Int) < (xs.length:Int)))):=rfl
  have e2:WTm.value [] (.not (.lt (.lit (.int 63)) (.len (.arg 0)))) { args:=[.list xs] }=some (.bool (!decide ((63:Int) < (xs.length:Int)))):=rfl
  rw [q] at e2
  have e3:WTm.value [] r0.pre { args:=[.list xs] }=some (.bool false):=by
   show (match WTm.value [] (.not (.lt (.lit (.int 63)) (.len (.arg 0)))) { args:=[.list xs] } with | some (.bool false)=>some (WData.bool false) | some (.bool true)=>_ | _=>none)=_
   rw [e2];rfl
  unfold WTm.holds at h
  rw [e3] at h
  cases h
theorem u6 {args:List WData}:rr.claim.post args (.bool true) args=true:=by
 show WTm.holds rr.records (.eq .res (.lit (.bool true))) { args:=args,res:=some (.bool true),after:=args }=true
 simp [WTm.holds,WTm.value,same]
theorem qu {cl:Str→Option Addr} {h:Heap} {v:Value} {xs:List WData} {as:List Addr} (r:ReadsW rr.records cl h v (.list xs) as):∃ a o vs n bs,v = .ref a∧h.get? a=some o∧o.cls = .type "list"∧o.data = .seq vs n∧ReadsAllW rr.records cl h vs.toList xs bs:=by
 cases r with
 | list ga hc hdt hal=>exact⟨_,_,_,_,_,rfl,ga,hc,hdt,hal⟩
theorem oO {cl:Str→Option Addr} {h:Heap} {vals:List Value} {d:WData} {as:List Addr} (r:ReadsAllW rr.records cl h vals [d] as):∃ v bs,vals=[v]∧ReadsW rr.records cl h v d bs:=by
 cases r with
 | cons h1 h2=>cases h2;exact⟨_,_,rfl,h1⟩
inductive ArgsOf (h:Heap) (args:List WData) (vals:List Value):Prop
 | mk (ns:List Int) (a:Addr) (o:Obj) (vs:Array Value) (n:Nat) (e1:args=[.list (ns.map .int)]) (e2:vals=[.ref a]) (hlen:ns.length≤63) (ga:h.get? a=some o) (hc:o.cls = .type "list") (hd:o.data = .seq vs n) (hv:∀ B ρ h',VRs B ρ h' (ns.map .int) vs.toList)
theorem As {cl:Str→Option Addr} {h:Heap} {args:List WData} {vals:List Value} {as:List Addr} (hpre:rr.claim.pre args=true) (hrd:ReadsAllW rr.records cl h vals args as):ArgsOf h args vals:=by
 obtain⟨hp1,hp2⟩:=pre_splitW hpre
 obtain⟨d,r,rfl,hd1,hr⟩:=hasAllW_cons hp1
 obtain rfl:r=[]:=by
  cases r with
  | nil=>rfl
  | cons a r=>cases hr
 obtain⟨xs,rfl,hit⟩:=hasW_list hd1
 obtain⟨ns,rfl⟩:=items_int hit
 obtain⟨v,bs,rfl,h1⟩:=oO hrd
 obtain⟨a,o,vs,n,bs,rfl,ga,hc,hdt,hal⟩:=qu h1
 exact⟨ns,a,o,vs,n,rfl,rfl,by have:=xF hp2;rwa [ae] at this,ga,hc,hdt,fun _ _ _=>yQ hal⟩
theorem xU (N:Nat) (hN:N≤20) (law:∀ ns:List Int,ns.length≤63→∃ σ,callN FT GT (N+1) 18 [.flist (ns.map .int)] []=some (.bool true,σ)):PySem.Challenge.rw_il0085_01.Holds:=holds_of<|by
 intro w s₀ s₁ mg mb G Y fa o pm cd doc dV kV ho hd hcd hD hmg hg args vals as hpre hlay hrd hwl hlo
 have kp:∀ b o,(heap50 w.params).get? b=some o→s₁.heap.get? b=some o:=Y
 obtain⟨ns,a,oa,vs,n,rfl,rfl,hlen,ga,hc,hdt,hal⟩:=As hpre hrd
 have hFA:Value.ref fa=Value.ref (FA 18):=by
  obtain⟨mg',mb',n1,n2,hf,_⟩:=(xd kp).ex
  have e1:=hf 18 _ rfl
  have e2:mg (bF "law")=some (.ref fa):=hmg
  have:s₁.heap.Ns mainGlobals mg:=G.T.g
  exact Option.some.inj (e2.symm.trans ((z0 this n1 _).trans e1))
 obtain⟨σ,hσ⟩:=law ns hlen
 rw [hFA]
 have I:InvH s₁ [] none [] s₁ []:=⟨fun _ _ e=>e,hg,rfl,rfl,fun n l e=>(nomatch e),List.nodup_nil,fun a h=>(nomatch h),fun e h=>(nomatch h),fun v h=>(nomatch h)⟩
 have hz:(ns.map V.int).length≤LIM:=by rw [ae];exact aj hlen (by decide)
 have hK:COk callerA [] (2 * N+1+1):=⟨rfl,rfl,by show 4+100 * (2 * N+1+1)+100≤cLine;unfold cLine;grind,by show 1+claimMargin+(2 * N+1+1) < recursionLimit;unfold claimMargin recursionLimit;grind,fun e h=>nomatch h⟩
 have F:=yj (w:=w) kp (prog:=rr.toRowW.prog)
 rw [mC (fd:=q8) rfl] at hσ
 refine rp F (om kp (vW kp N) yA F.nodup) [] callerA hK [] s₁ [] [.flist (ns.map .int)] _ (.bool true) σ I (.cons (.flist ga hc hdt hz (hal _ _ _)) .nil) (.inr ⟨_,rfl,by kernel_rfl⟩) hσ _ _ fun v s' ρ' H K Gr r h0'=>?_
 obtain rfl:v = .bool true:=r
 exact GoodW.toG ⟨.inl ⟨.bool true,.bool true,[],rfl,fun cls=>rfl,.bool true,u6,fun _=>⟨.nil,fun a h=>(nomatch h)⟩⟩,H.base,H.os,H.gens⟩
end
end Mine
end
section
namespace Mine
section
variable {α β:Type}
structure STO (r:α→α→Bool):Prop where
 irr:∀ a,r a a=false
 tr:∀ a b c,r a b=true→r b c=true→r a c=true
 tot:∀ a b,a≠b→r a b=true∨r b a=true
theorem STO.asym {r:α→α→Bool} (o:STO r) {a b:α} (h:r a b=true):r b a=false:=by
 cases q:r b a with
 | false=>rfl
 | true=>have:=o.tr a b a h q;rw [o.irr] at this;cases this
noncomputable def lx [DecidableEq α] (r:α→α→Bool):List α→List α→Bool
 | _,[]=>false
 | [],_::_=>true
 | x::xs,y::ys=>if x=y then lx r xs ys else r x y
variable [DecidableEq α] {r:α→α→Bool}
theorem mf (x:List α):lx r x []=false:=by cases x<;>rfl
theorem cC (x:α) (xs ys:List α):lx r (x::xs) (x::ys)=lx r xs ys:=if_pos rfl
theorem dl {x y:α} (h:x≠y) (xs ys:List α):lx r (x::xs) (y::ys)=r x y:=if_neg h
theorem me (o:STO r):STO (lx r) where
 irr:=fun a=>by
  induction a with
  | nil=>rfl
  | cons x xs ih=>rw [cC];exact ih
 tr:=fun a=>by
  induction a with
  | nil=>
   intro b c h1 h2
   cases c with
   | nil=>rw [mf] at h2;cases h2
   | cons z zs=>rfl
  | cons x xs ih=>
   intro b c h1 h2
   cases b with
   | nil=>rw [mf] at h1;cases h1
   | cons y ys=>
    cases c with
    | nil=>rw [mf] at h2;cases h2
    | cons z zs=>
     by_cases hxy:x=y
     ·subst hxy
      rw [cC] at h1
      by_cases hxz:x=z
      ·subst hxz
       rw [cC] at h2 ⊢
       exact ih _ _ h1 h2
      ·rw [dl hxz] at h2 ⊢;exact h2
     ·rw [dl hxy] at h1
      by_cases hyz:y=z
      ·subst hyz;rw [dl hxy];exact h1
      ·rw [dl hyz] at h2
       have h3:=o.tr _ _ _ h1 h2
       have hxz:x≠z:=fun q=>by subst q;rw [o.irr] at h3;cases h3
       rw [dl hxz];exact h3
 tot:=fun a=>by
  induction a with
  | nil=>
   intro b h
   cases b with
   | nil=>exact absurd rfl h
   | cons y ys=>exact .inl rfl
  | cons x xs ih=>
   intro b h
   cases b with
   | nil=>exact .inr rfl
   | cons y ys=>
    by_cases hxy:x=y
    ·subst hxy
     rw [cC,cC]
     exact ih ys fun q=>h (by rw [q])
    ·rw [dl hxy,dl (Ne.symm hxy)]
     exact o.tot x y hxy
theorem oY (p:List α) (x y:List α):lx r (p++x) (p++y)=lx r x y:=by
 induction p with
 | nil=>rfl
 | cons a p ih=>show lx r (a::(p++x)) (a::(p++y))=_;rw [cC];exact ih
theorem sM (p:List α) {x:List α} (h:x≠[]):lx r p (p++x)=true:=by
 have:=oY (r:=r) p [] x
 rw [al] at this
 rw [this]
 cases x with
 | nil=>exact absurd rfl h
 | cons a x=>rfl
theorem sN (o:STO r) (p:List α):∀ (y z:List α),lx r y p=false→lx r y (p++z)=true→∃ t,y=p++t∧lx r t z=true:=by
 induction p with
 | nil=>intro y z _ h;exact⟨y,rfl,h⟩
 | cons a p ih=>
  intro y z h1 h2
  cases y with
  | nil=>cases h1
  | cons b y=>
   by_cases hab:b=a
   ·subst hab
    rw [cC] at h1
    change lx r (b::y) (b::(p++z))=true at h2
    rw [cC] at h2
    obtain⟨t,rfl,ht⟩:=ih y z h1 h2
    exact⟨t,rfl,ht⟩
   ·rw [dl hab] at h1
    change lx r (b::y) (a::(p++z))=true at h2
    rw [dl hab,h1] at h2
    cases h2
end
section
variable {α β:Type}
noncomputable def ins (r:α→α→Bool) (k:α):List α→List α
 | []=>[k]
 | y::ys=>if r k y then k::y::ys else y::ins r k ys
noncomputable def isort (r:α→α→Bool):List α→List α
 | []=>[]
 | x::xs=>ins r x (isort r xs)
variable {r r':α→α→Bool}
theorem d6 {k y:α} {ys:List α}:ins r k (y::ys)=if r k y then k::y::ys else y::ins r k ys:=rfl
theorem ub {k x:α} {l:List α}:x∈ins r k l↔x=k∨x∈l:=by
 induction l with
 | nil=>exact az
 | cons y ys ih=>
  rw [d6]
  by_cases h:r k y=true
  ·rw [if_pos h];exact az
  ·rw [if_neg h,az,ih,az]
   constructor
   ·rintro (h | h | h)
    ·exact .inr (.inl h)
    ·exact .inl h
    ·exact .inr (.inr h)
   ·rintro (h | h | h)
    ·exact .inr (.inl h)
    ·exact .inl h
    ·exact .inr (.inr h)
theorem bO {x:α} {l:List α}:x∈isort r l↔x∈l:=by
 induction l with
 | nil=>exact Iff.rfl
 | cons y ys ih=>show x∈ins r y (isort r ys)↔_;rw [ub,ih,az]
theorem sQ {k:α} {l:List α}:(ins r k l).length=l.length+1:=by
 induction l with
 | nil=>rfl
 | cons y ys ih=>
  rw [d6]
  by_cases h:r k y=true
  ·rw [if_pos h];rfl
  ·rw [if_neg h];exact congrArg (·+1) ih
theorem dG {l:List α}:(isort r l).length=l.length:=by
 induction l with
 | nil=>rfl
 | cons y ys ih=>show (ins r y (isort r ys)).length=_;rw [sQ,ih];rfl
theorem vB {k:α} {l:List α} (h:∀ y∈l,r k y=r' k y):ins r k l=ins r' k l:=by
 induction l with
 | nil=>rfl
 | cons y ys ih=>
  rw [d6,d6,h y (.head _),ih fun z hz=>h z (.tail _ hz)]
theorem AG {l:List α} (h:∀ x∈l,∀ y∈l,r x y=r' x y):isort r l=isort r' l:=by
 induction l with
 | nil=>rfl
 | cons x xs ih=>
  show ins r x (isort r xs)=ins r' x (isort r' xs)
  rw [←ih fun a ha b hb=>h a (.tail _ ha) b (.tail _ hb)]
  exact vB fun y hy=>h x (.head _) y (.tail _ (bO.mp hy))
theorem vz {f:α→β} {s:β→β→Bool} {l:List α} (h:∀ x∈l,∀ y∈l,s (f x) (f y)=r x y):isort s (l.map f)=(isort r l).map f:=by
 induction l with
 | nil=>rfl
 | cons x xs ih=>
  show ins s (f x) (isort s (xs.map f))=(ins r x (isort r xs)).map f
  rw [ih fun a ha b hb=>h a (.tail _ ha) b (.tail _ hb)]
  have key:∀ l:List α,(∀ y∈l,s (f x) (f y)=r x y)→ins s (f x) (l.map f)=(ins r x l).map f:=by
   intro l
   induction l with
   | nil=>intro _;rfl
   | cons y ys ih=>
    intro h
    show (if s (f x) (f y)=true then _ else _)=_
    rw [d6]
    rw [h y (.head _)]
    by_cases hr:r x y=true
    ·rw [if_pos hr,if_pos hr];rfl
    ·rw [if_neg hr,if_neg hr]
     show f y::ins s (f x) (ys.map f)=_
     rw [ih fun z hz=>h z (.tail _ hz)]
     rfl
  exact key _ fun y hy=>h x (.head _) y (.tail _ (bO.mp hy))
def Srt (r:α→α→Bool) (l:List α):Prop:=l.Pairwise fun a b=>r a b=true
theorem Ah (o:STO r) {k:α} {l:List α} (hk:k∉l) (h:Srt r l):Srt r (ins r k l):=by
 induction l with
 | nil=>exact List.pairwise_singleton _ _
 | cons y ys ih=>
  rw [d6]
  obtain⟨h1,h2⟩:=bn.mp h
  by_cases hr:r k y=true
  ·rw [if_pos hr]
   exact bn.mpr ⟨fun z hz=>(az.mp hz).elim (fun q=>by rw [q];exact hr) fun q=>o.tr _ _ _ hr (h1 z q),h⟩
  ·rw [if_neg hr]
   refine bn.mpr ⟨fun z hz=>?_,ih (fun q=>hk (.tail _ q)) h2⟩
   rcases ub.mp hz with q | q
   ·rw [q];exact (o.tot k y fun q=>hk (by rw [q];exact .head _)).resolve_left hr
   ·exact h1 z q
theorem j6 (o:STO r) {l:List α} (h:l.Nodup):Srt r (isort r l):=by
 induction l with
 | nil=>exact .nil
 | cons x xs ih=>
  obtain⟨h1,h2⟩:=b0.mp h
  exact Ah o (fun q=>h1 (bO.mp q)) (ih h2)
theorem sU (o:STO r) (p:α→Bool) {k:α} {l:List α} (h:Srt r l):(ins r k l).filter p=if p k then ins r k (l.filter p) else l.filter p:=by
 induction l with
 | nil=>
  show [k].filter p=_
  cases hk:p k with
  | true=>rw [bH hk];rfl
  | false=>rw [bV (by rw [hk];exact aA)];rfl
 | cons y ys ih=>
  obtain⟨h1,h2⟩:=bn.mp h
  rw [d6]
  by_cases hr:r k y=true
  ·rw [if_pos hr]
   cases hk:p k with
   | false=>rw [bV (by rw [hk];exact aA)];rfl
   | true=>
    rw [bH hk]
    show _=ins r k ((y::ys).filter p)
    cases hf:(y::ys).filter p with
    | nil=>rfl
    | cons z zs=>
     have hz:z∈y::ys:=(List.mem_filter.mp (by rw [hf];exact .head _)).1
     have:r k z=true:=(az.mp hz).elim (fun q=>by rw [q];exact hr) fun q=>o.tr _ _ _ hr (h1 z q)
     show _=if r k z=true then _ else _
     rw [if_pos this]
  ·rw [if_neg hr]
   cases hy:p y with
   | true=>
    rw [bH hy,bH hy,ih h2]
    cases hk:p k with
    | true=>rw [if_pos rfl,if_pos rfl,d6,if_neg hr]
    | false=>rfl
   | false=>
    have hy':¬p y=true:=by rw [hy];exact aA
    rw [bV hy',bV hy',ih h2]
theorem pj (o:STO r) (p:α→Bool) {l:List α} (h:l.Nodup):(isort r l).filter p=isort r (l.filter p):=by
 induction l with
 | nil=>rfl
 | cons x xs ih=>
  obtain⟨h1,h2⟩:=b0.mp h
  show (ins r x (isort r xs)).filter p=_
  rw [sU o p (j6 o h2),ih h2]
  cases hx:p x with
  | true=>rw [bH hx];rfl
  | false=>rw [bV (by rw [hx];exact aA)];rfl
end
noncomputable abbrev Name:=List Nat
noncomputable abbrev Sign:=Nat×Nat
noncomputable abbrev Entry:=List Name
noncomputable def sl (x y:Sign):Bool:=if x.1=y.1 then decide (x.2 < y.2) else decide (x.1 < y.1)
noncomputable abbrev SEP:Sign:=(47,0)
theorem lO:STO sl where
 irr:=fun a=>by unfold sl;rw [if_pos rfl];exact decide_eq_false (bx _)
 tr:=fun a b c h1 h2=>by
  unfold sl at h1 h2 ⊢
  by_cases h:a.1=b.1
  ·rw [if_pos h] at h1
   by_cases h':b.1=c.1
   ·rw [if_pos h'] at h2
    rw [if_pos (h.trans h')]
    exact decide_eq_true (bw (of_decide_eq_true h1) (of_decide_eq_true h2))
   ·rw [if_neg h'] at h2
    rw [if_neg (by rw [h];exact h'),h]
    exact h2
  ·rw [if_neg h] at h1
   by_cases h':b.1=c.1
   ·rw [←h',if_neg h];exact h1
   ·rw [if_neg h'] at h2
    have h3:=bw (of_decide_eq_true h1) (of_decide_eq_true h2)
    rw [if_neg (aP h3)]
    exact decide_eq_true h3
 tot:=fun a b h=>by
  unfold sl
  by_cases h1:a.1=b.1
  ·rw [if_pos h1,if_pos h1.symm]
   rcases fP (fun q=>h (ou h1 q):a.2≠b.2) with q | q
   ·exact .inl (decide_eq_true q)
   ·exact .inr (decide_eq_true q)
  ·rw [if_neg h1,if_neg (Ne.symm h1)]
   rcases fP h1 with q | q
   ·exact .inl (decide_eq_true q)
   ·exact .inr (decide_eq_true q)
structure SgOk (sg:Name→List Sign):Prop where
 sep:∀ n,∀ x∈sg n,x≠SEP
 inj:∀ n m,sg n=sg m→n=m
noncomputable def rowOf (sg:Name→List Sign) (e:Entry):List Sign:=e.flatMap fun n=>SEP::sg n
inductive Front:List Sign→Prop
 | nil:Front []
 | sep (u:List Sign):Front (SEP::u)
section
variable {sg:Name→List Sign}
theorem hU (n:Name) (e:Entry):rowOf sg (n::e)=SEP::(sg n++rowOf sg e):=rfl
theorem gz (a b:Entry):rowOf sg (a++b)=rowOf sg a++rowOf sg b:=cP
theorem uY (e:Entry):Front (rowOf sg e):=by
 cases e with
 | nil=>exact .nil
 | cons n e=>exact .sep _
theorem vG {u:List Sign} (h:Front u) (e:Entry):Front (rowOf sg e++u):=by
 cases e with
 | nil=>exact h
 | cons n e=>exact .sep _
theorem uW:∀ (a b u v:List Sign),(∀ x∈a,x≠SEP)→(∀ x∈b,x≠SEP)→Front u→Front v→a++u=b++v→a=b∧u=v:=by
 intro a
 induction a with
 | nil=>
  intro b u v _ hb hu _ h
  cases b with
  | nil=>exact⟨rfl,h⟩
  | cons y b=>
   have hu':u=y::(b++v):=h
   cases hu with
   | nil=>cases hu'
   | sep w=>cases hu';exact absurd rfl (hb _ (.head _))
 | cons x a ih=>
  intro b u v ha hb hu hv h
  cases b with
  | nil=>
   have hv':x::(a++u)=v:=h
   cases hv with
   | nil=>cases hv'
   | sep w=>cases hv';exact absurd rfl (ha _ (.head _))
  | cons y b=>
   obtain⟨rfl,h3⟩:=List.cons.inj h
   obtain⟨rfl,h2⟩:=ih b u v (fun z hz=>ha z (.tail _ hz)) (fun z hz=>hb z (.tail _ hz)) hu hv h3
   exact⟨rfl,h2⟩
variable (hs:SgOk sg)
include hs
theorem jY:∀ (p e:Entry) (x:List Sign),Front x→rowOf sg e=rowOf sg p++x→∃ t,e=p++t∧rowOf sg t=x:=by
 intro p
 induction p with
 | nil=>intro e x _ h;exact⟨e,rfl,h⟩
 | cons m p ih=>
  intro e x hx h
  cases e with
  | nil=>cases h
  | cons n e=>
   have h':sg n++rowOf sg e=sg m++(rowOf sg p++x):=by
    have:=List.cons.inj h
    rw [←aw];exact this.2
   obtain⟨h1,h2⟩:=uW _ _ _ _ (hs.sep n) (hs.sep m) (uY e) (vG hx p) h'
   obtain rfl:=hs.inj _ _ h1
   obtain⟨t,rfl,ht⟩:=ih e x hx h2
   exact⟨t,rfl,ht⟩
theorem t7 {e f:Entry} (h:rowOf sg e=rowOf sg f):e=f:=by
 obtain⟨t,rfl,ht⟩:=jY hs f e [] .nil (by rw [al];exact h)
 cases t with
 | nil=>exact al _
 | cons n t=>cases ht
theorem su:∀ (a b:List Sign) (r:Entry) (s:Sign) (u:List Sign),(∀ x∈a,x≠SEP)→s≠SEP→b++rowOf sg r=a++s::u→∃ v,b=a++s::v:=by
 intro a
 induction a with
 | nil=>
  intro b r s u _ hs' h
  cases b with
  | nil=>
   have h':rowOf sg r=s::u:=h
   cases r with
   | nil=>cases h'
   | cons n r=>exact absurd (List.cons.inj h').1.symm hs'
  | cons y b=>
   obtain⟨rfl,h3⟩:=List.cons.inj h
   exact⟨b,rfl⟩
 | cons x a ih=>
  intro b r s u ha hs' h
  cases b with
  | nil=>
   have h':rowOf sg r=x::(a++s::u):=h
   cases r with
   | nil=>cases h'
   | cons n r=>exact absurd (List.cons.inj h').1.symm (ha _ (.head _))
  | cons y b=>
   obtain⟨rfl,h3⟩:=List.cons.inj h
   obtain⟨v,rfl⟩:=ih b r s u (fun z hz=>ha z (.tail _ hz)) hs' h3
   exact⟨v,rfl⟩
end
noncomputable def er (sg:Name→List Sign) (e f:Entry):Bool:=lx sl (rowOf sg e) (rowOf sg f)
theorem ii {sg:Name→List Sign} (hs:SgOk sg):STO (er sg) where
 irr:=fun a=>(me lO).irr _
 tr:=fun a b c=>(me lO).tr _ _ _
 tot:=fun a b h=>(me lO).tot _ _ fun q=>h (t7 hs q)
noncomputable def lcp {α:Type} [DecidableEq α]:List α→List α→List α
 | x::xs,y::ys=>if x=y then x::lcp xs ys else []
 | _,_=>[]
section
variable {α:Type} [DecidableEq α]
theorem ib (x:α) (xs ys:List α):lcp (x::xs) (x::ys)=x::lcp xs ys:=if_pos rfl
theorem ph:∀ (r e:List α),∃ t,r=lcp r e++t:=by
 intro r
 induction r with
 | nil=>intro e;exact⟨[],by cases e<;>rfl⟩
 | cons x r ih=>
  intro e
  cases e with
  | nil=>exact⟨x::r,rfl⟩
  | cons y e=>
   by_cases h:x=y
   ·subst h
    obtain⟨t,ht⟩:=ih e
    refine⟨t,?_⟩
    rw [ib]
    exact congrArg (x::·) ht
   ·exact⟨x::r,by show _=(if x=y then _ else _)++_;rw [if_neg h];rfl⟩
theorem pi (p r e:List α):lcp (p++r) (p++e)=p++lcp r e:=by
 induction p with
 | nil=>rfl
 | cons x p ih=>show lcp (x::(p++r)) (x::(p++e))=_;rw [ib,ih];rfl
theorem lcp_nil (r:List α):lcp r []=[]:=by cases r<;>rfl
theorem sR {p t:List α} {n:α} (h:∀ u,t≠n::u):lcp (p++t) (p++[n])=p:=by
 rw [pi]
 cases t with
 | nil=>exact al _
 | cons x t=>
  have hx:x≠n:=fun q=>h t (by rw [q])
  show p++(if x=n then _ else _)=p
  rw [if_neg hx]
  exact al _
end
def Bad (L:List Entry) (kept:Entry→Bool):Prop:=∃ k e,L[k]?=some e∧kept e.dropLast=false∧(k=0∨∃ r,L[k - 1]?=some r∧lcp r e≠e.dropLast)
inductive Torn (sg:Name→List Sign) (L:List Entry):Prop
 | mk (p:Entry) (m:Name) (c o:Entry) (m':Name) (r:Entry) (s:Sign) (v:List Sign) (h1:p++[m]∈L) (h2:c∈L) (h3:c.dropLast=p++[m]) (h4:o∈L) (h5:o=p++m'::r) (h6:sg m'=sg m++s::v) (h7:sl s SEP=true)
section
variable {sg:Name→List Sign} {L:List Entry} {kept:Entry→Bool} (hs:SgOk sg) (hL:Srt (er sg) L) (ne:∀ e∈L,e≠[]) (k1:∀ x y,kept (x++y)=true→kept x=true) (k2:∀ e∈L,kept e=false) (k3:∀ e∈L,kept e.dropLast=false→e.dropLast∈L)
theorem eJ {e:Entry} (h:e≠[]):∃ n,e=e.dropLast++[n]:=⟨e.getLast h,(List.dropLast_concat_getLast h).symm⟩
theorem so {r:Entry→Entry→Bool} {L:List Entry} (h:Srt r L) {i j:Nat} {a b:Entry} (hij:i < j) (ha:L[i]?=some a) (hb:L[j]?=some b):r a b=true:=by
 obtain⟨hi,rfl⟩:=ag.mp ha
 obtain⟨hj,rfl⟩:=ag.mp hb
 exact fR.mp h i j hi hj hij
theorem kU {r:Entry→Entry→Bool} (o:STO r) {L:List Entry} (h:Srt r L) {i j:Nat} {a b:Entry} (ha:L[i]?=some a) (hb:L[j]?=some b) (hr:r a b=true):i < j:=by
 rcases kL i j with q | q | q
 ·exact q
 ·subst q
  cases ha.symm.trans hb
  rw [o.irr] at hr;cases hr
 ·have:=so h q hb ha
  rw [o.asym hr] at this;cases this
theorem td {p:Entry} {n:Name} {t:Entry}:er sg p (p++n::t)=true:=by
 unfold er
 rw [gz]
 exact sM _ (fun q=>nomatch q)
include hs hL ne k3 in
theorem qe (h:Bad L kept):Torn sg L:=by
 obtain⟨k,e,he,hk,hc⟩:=h
 have hm:e∈L:=ac he
 have hp:=k3 e hm hk
 obtain⟨n,hn⟩:=eJ (ne e hm)
 obtain⟨j,hj⟩:=bJ hp
 have o:=ii hs
 have hpe:er sg e.dropLast e=true:=by
  have:=td (sg:=sg) (p:=e.dropLast) (n:=n) (t:=[])
  rw [←hn] at this;exact this
 have hjk:=kU o hL hj he hpe
 have hk0:k≠0:=fun q=>by rw [q] at hjk;exact absurd hjk (cF _)
 obtain⟨r,hr,hl⟩:=hc.resolve_left hk0
 have hre:er sg r e=true:=so hL (by omega) hr he
 have hpr:er sg r e.dropLast=false:=by
  rcases dW j (k - 1) with q | q
  ·exact o.asym (so hL q hj hr)
  ·obtain rfl:j=k - 1:=by omega
   cases hj.symm.trans hr
   exact o.irr _
 generalize e.dropLast=p at *
 have hre':lx sl (rowOf sg r) (rowOf sg p++rowOf sg [n])=true:=by rw [←gz,←hn];exact hre
 obtain⟨t,ht,hts⟩:=sN lO (rowOf sg p) (rowOf sg r) (rowOf sg [n]) hpr hre'
 have hnot:∀ f,r≠p++f:=fun f q=>by
  refine hl ?_
  rw [q,hn]
  refine sR fun u hu=>?_
  rw [q,hu] at hre
  have:er sg e r=true∨e=r:=by
   cases u with
   | nil=>right;rw [hn,q,hu]
   | cons x u=>
    left
    have:=td (sg:=sg) (p:=p++[n]) (n:=x) (t:=u)
    rw [←hn,hn,aw] at this
    rw [q,hu,hn];exact this
  rcases this with z | z
  ·rw [q,hu] at z;rw [o.asym z] at hre;cases hre
  ·rw [←hu,←q,←z,o.irr] at hre;cases hre
 cases t with
 | nil=>
  rw [al] at ht
  exact absurd (t7 hs ht) (by have:=hnot [];rw [al] at this;exact this)
 | cons s t=>
  have hsS:s≠SEP:=fun q=>by
   subst q
   obtain⟨f,rfl,_⟩:=jY hs p r (SEP::t) (.sep t) ht
   exact hnot f rfl
  have hlt:sl s SEP=true:=by
   change lx sl (s::t) (SEP::(sg n++[]))=true at hts
   rw [dl hsS] at hts
   exact hts
  have hpne:p≠[]:=ne p hp
  obtain⟨m,hmp⟩:=eJ hpne
  generalize p.dropLast=p' at hmp
  subst hmp
  have ht':rowOf sg r=rowOf sg p'++(SEP::(sg m++s::t)):=by
   rw [ht,gz,hU]
   show (_++(SEP::(sg m++[])))++_=_
   rw [al,aw]
   rfl
  obtain⟨f,rfl,hf⟩:=jY hs p' r _ (.sep _) ht'
  cases f with
  | nil=>cases hf
  | cons m' f=>
   have hf':sg m'++rowOf sg f=sg m++s::t:=(List.cons.inj hf).2
   obtain⟨v,hv⟩:=su hs (sg m) (sg m') f s t (hs.sep m) hsS hf'
   exact⟨p',m,e,p'++m'::f,m',f,s,v,hp,hm,by rw [hn];exact eF,ac hr,rfl,hv,hlt⟩
omit hs hL ne k1 k2 k3 in
theorem least {P:Nat→Prop}:∀ (n k:Nat),k < n→P k→∃ k,P k∧∀ j,j < k→¬P j:=by
 intro n
 induction n with
 | zero=>intro k h;exact absurd h (cF _)
 | succ n ih=>
  intro k hk hP
  rcases Classical.em (∃ j,j < k∧P j) with ⟨j,hj,hPj⟩ | h
  ·exact ih j (by omega) hPj
  ·exact⟨k,hP,fun j hj hPj=>h ⟨j,hj,hPj⟩⟩
include hs hL ne k1 k2 k3 in
theorem rG (h:Torn sg L):Bad L kept:=by
 obtain⟨p,m,c,o,m',r,s,v,hone,hc,hcd,ho,rfl,hm,hlt⟩:=h
 have O:=ii hs
 have hsS:s≠SEP:=fun q=>by rw [q,lO.irr] at hlt;cases hlt
 generalize h1:p++[m]=one at *
 have hR:rowOf sg (p++m'::r)=rowOf sg one++(s::(v++rowOf sg r)):=by
  rw [←h1,gz,gz,hU,hU,hm]
  show _++(SEP::((sg m++s::v)++_))=(_++(SEP::(sg m++[])))++_
  rw [al,aw,aw]
  rfl
 have ho1:er sg one (p++m'::r)=true:=by
  unfold er
  rw [hR]
  exact sM _ (fun q=>nomatch q)
 have ho2:∀ n t,er sg (p++m'::r) (one++n::t)=true:=fun n t=>by
  unfold er
  rw [hR,gz,oY,hU,dl hsS]
  exact hlt
 obtain⟨jc,hjc⟩:=bJ hc
 obtain⟨nc,hnc⟩:=eJ (ne c hc)
 rw [hcd] at hnc
 obtain⟨k,⟨n,t,hk⟩,hmin⟩:=least (P:=fun k=>∃ n t,L[k]?=some (one++n::t)) (jc+1) jc (aL _) ⟨nc,[],by rw [hjc,hnc]⟩
 have hkm:=ac hk
 have hk2:=k2 one hone
 have hd:(one++n::t).dropLast=one:=by
  cases t with
  | nil=>exact eF
  | cons x t=>
   exfalso
   have e1:(one++n::x::t).dropLast=one++n::(x::t).dropLast:=by rw [lh (List.cons_ne_nil n (x::t))];rfl
   have hkd:kept (one++n::x::t).dropLast=false:=by
    cases q:kept (one++n::x::t).dropLast with
    | false=>rfl
    | true=>rw [e1] at q;rw [k1 _ _ q] at hk2;cases hk2
   have hin:=k3 _ hkm hkd
   obtain⟨j,hj⟩:=bJ hin
   obtain⟨y,hy⟩:=eJ (ne _ hkm)
   have hlt2:=td (sg:=sg) (p:=(one++n::x::t).dropLast) (n:=y) (t:=[])
   rw [←hy] at hlt2
   rw [e1] at hj
   exact hmin j (kU O hL (by rw [hj,e1]) hk hlt2) ⟨n,_,hj⟩
 refine⟨k,one++n::t,hk,by rw [hd];exact hk2,?_⟩
 rcases Nat.eq_zero_or_pos k with q | q
 ·exact .inl q
 ·right
  have hkl:=(ag.mp hk).1
  obtain⟨r',hr'⟩:∃ r',L[k - 1]?=some r':=⟨_,ak (by omega)⟩
  refine⟨r',hr',fun hl=>?_⟩
  rw [hd] at hl
  obtain⟨t',ht'⟩:=ph r' (one++n::t)
  rw [hl] at ht'
  cases t' with
  | cons x t'=>exact hmin (k - 1) (by omega) ⟨x,t',by rw [hr',ht']⟩
  | nil=>
   rw [al] at ht'
   subst ht'
   obtain⟨jo,hjo⟩:=bJ ho
   have a1:=kU O hL hr' hjo ho1
   have a2:=kU O hL hjo hk (ho2 n t)
   omega
end
structure W {α:Type} (r:Res α) (Q:α→St→Prop) (X:St→Prop):Prop where
 run:match r with
  | .ok a st=>Q a st
  | .ex st=>X st
  | .bad=>False
abbrev NX:St→Prop:=fun _=>False
section
variable {α β:Type} {Q:α→St→Prop} {X:St→Prop} {st:St}
theorem aK {r:Res α} {f:α→St→Res β} {Q:β→St→Prop} (h:W r (fun a st=>W (f a st) Q X) X):W (r.bind f) Q X:=by
 cases r with
 | ok a st=>exact h.run
 | ex st=>exact⟨h.run⟩
 | bad=>exact⟨h.run⟩
theorem bi {r:Res α} {Q':α→St→Prop} {X':St→Prop} (h:W r Q X) (hq:∀ a st,Q a st→Q' a st) (hx:∀ st,X st→X' st):W r Q' X':=by
 cases r with
 | ok a st=>exact⟨hq a st h.run⟩
 | ex st=>exact⟨hx st h.run⟩
 | bad=>exact⟨h.run⟩
theorem Cg {r:Res α} (h:W r Q NX):∃ a st,r = .ok a st∧Q a st:=by
 cases r with
 | ok a st=>exact⟨a,st,rfl,h.run⟩
 | ex st=>exact h.run.elim
 | bad=>exact h.run.elim
theorem i6 {r:Res α} (h:W r Q NX):W (noEx r) Q X:=by
 cases r with
 | ok a st=>exact⟨h.run⟩
 | ex st=>exact h.run.elim
 | bad=>exact h.run.elim
theorem eO {o:Option α} {a:α} (h:o=some a) (hq:Q a st):W (lift o st) Q X:=by rw [h];exact⟨hq⟩
theorem c9 {b:Bool} {r:Res α} (h:b=true) (k:W r Q X):W (guard b r) Q X:=by rw [h];exact k
theorem w_if {c:Prop} [Decidable c] {r r':Res α} (h1:c→W r Q X) (h2:¬c→W r' Q X):W (if c then r else r') Q X:=by
 by_cases h:c
 ·rw [if_pos h];exact h1 h
 ·rw [if_neg h];exact h2 h
theorem pY {c:Prop} [Decidable c] {r r':Res α} (h:c) (h1:W r Q X):W (if c then r else r') Q X:=by rw [if_pos h];exact h1
theorem w_ifn {c:Prop} [Decidable c] {r r':Res α} (h:¬c) (h1:W r' Q X):W (if c then r else r') Q X:=by rw [if_neg h];exact h1
theorem de {o:Option β} {b:β} {f:β→Res α} (h:o=some b) (k:W (f b) Q X):W (onSome o f) Q X:=by rw [h];exact k
theorem d5 {n:Nat} {l:List V} {f:List V→Res α} (h:st.hp[n]?=some l) (k:W (f l) Q X):W (lst st n f) Q X:=by unfold lst;rw [h];exact k
end
section
variable {Q:V→St→Prop} {X:St→Prop} {st:St}
theorem ju {s:List Nat} (h:s.length≤LIM) (hq:Q (.str s) st):W (mkStr s st) Q X:=pY h ⟨hq⟩
theorem jy {l:List V} (h:l.length≤LIM) (hq:Q (.loc st.hp.length) { st with hp:=st.hp++[l] }):W (alloc l st) Q X:=pY h ⟨hq⟩
theorem cw {l:List V} (h:l.length≤LIM) (hq:Q (.tup l) st):W (mkTup l st) Q X:=pY h ⟨hq⟩
theorem nj {n:Nat} {f:List V→List V} {l:List V} (h:st.hp[n]?=some l) (hl:(f l).length≤LIM) (hq:Q .none { st with hp:=st.hp.set n (f l) }):W (setList n f st) Q X:=d5 h (pY hl ⟨hq⟩)
theorem rW {s t:List Nat} (h:(s++t).length≤LIM) (hq:Q (.str (s++t)) st):W (binop .add (.str s) (.str t) st) Q X:=ju h hq
theorem Bc {n m:Nat} {l l':List V} (h1:st.hp[n]?=some l) (h2:st.hp[m]?=some l') (h:(l++l').length≤LIM) (hq:Q (.loc st.hp.length) { st with hp:=st.hp++[l++l'] }):W (binop .add (.loc n) (.loc m) st) Q X:=d5 h1 (d5 h2 (jy h hq))
theorem oF {s t:List Nat} (h:(s++t).length≤LIM) (hq:Q (.str (s++t)) st):W (augV .add (.str s) (.str t) st) Q X:=ju h hq
theorem i7 {n:Nat} {l:List V} (h:st.hp[n]?=some l) (hq:Q (.int l.length) st):W (b1V .len (.loc n) st) Q X:=d5 h ⟨hq⟩
theorem eP {n:Nat} {l:List V} {k:Int} {v:V} (h:st.hp[n]?=some l) (hk:itemAt l k=some v) (hq:Q v st):W (idxV (.loc n) (.int k) st) Q X:=by
 show W (lst st n _) Q X
 refine d5 h ?_
 show W (match itemAt l k with | some v=>Res.ok v st | .none=>_) Q X
 rw [hk];exact⟨hq⟩
theorem oD {l:List V} {k:Int} {v:V} (hk:itemAt l k=some v) (hq:Q v st):W (idxV (.tup l) (.int k) st) Q X:=eO hk hq
theorem AW {l:List V} {k:Int} {v:V} (hk:itemAt l k=some v) (hq:Q v st):W (idxV (.flist l) (.int k) st) Q X:=eO hk hq
theorem gq {s:List Nat} {k:Int} {c:Nat} (hk:itemAt s k=some c) (hq:Q (.str [c]) st):W (idxV (.str s) (.int k) st) Q X:=eO (by rw [hk];rfl) hq
theorem AV {n:Nat} {l:List V} {k:Int} (h:st.hp[n]?=some l) (hk:itemAt l k=none) (h1:(l.length:Int)≤k) (h2:k < 2 ^ 62) (hx:X st):W (idxV (.loc n) (.int k) st) Q X:=by
 show W (lst st n _) Q X
 refine d5 h ?_
 show W (match itemAt l k with | some v=>Res.ok v st | .none=>if (l.length:Int)≤k∧k < 2 ^ 62 then .ex st else .bad) Q X
 rw [hk]
 exact pY ⟨h1,h2⟩ ⟨hx⟩
theorem d3 {s:List Nat} {lo hi:Option Int} (hb:(okBound lo&&okBound hi)=true) (hq:Q (.str (cut s lo hi)) st):W (sliceV (.str s) lo hi st) Q X:=c9 hb ⟨hq⟩
theorem fW {n:Nat} {l:List V} {lo hi:Option Int} (h:st.hp[n]?=some l) (hb:(okBound lo&&okBound hi)=true) (hl:(cut l lo hi).length≤LIM) (hq:Q (.loc st.hp.length) { st with hp:=st.hp++[cut l lo hi] }):W (sliceV (.loc n) lo hi st) Q X:=c9 hb (d5 h (jy hl hq))
theorem wx {l:List V} {lo hi:Option Int} (hb:(okBound lo&&okBound hi)=true) (hl:(cut l lo hi).length≤LIM) (hq:Q (.loc st.hp.length) { st with hp:=st.hp++[cut l lo hi] }):W (sliceV (.flist l) lo hi st) Q X:=c9 hb (jy hl hq)
theorem rR {s:List Nat} {n:Nat} {l:List V} {ts:List (List Nat)} (h:st.hp[n]?=some l) (hs:strsOf l=some ts) (hl:(joinL s ts).length≤LIM) (hq:Q (.str (joinL s ts)) st):W (m1V .join s (.loc n) st) Q X:=d5 h (de hs (ju hl hq))
end
def Ext (σ σ':Hp):Prop:=∃ τ,σ'=σ++τ
theorem Ext.refl (σ:Hp):Ext σ σ:=⟨[],(al σ).symm⟩
theorem Ext.trans {a b c:Hp} (x:Ext a b) (y:Ext b c):Ext a c:=by
 obtain⟨τ,rfl⟩:=x;obtain⟨τ',rfl⟩:=y;exact⟨τ++τ',aw _ _ _⟩
theorem Ext.snoc (σ:Hp) (l:List V):Ext σ (σ++[l]):=⟨[l],rfl⟩
theorem Ext.get {σ σ':Hp} (x:Ext σ σ') {n:Nat} {l:List V} (h:σ[n]?=some l):σ'[n]?=some l:=by
 obtain⟨τ,rfl⟩:=x
 exact (cb (ag.mp h).1).trans h
theorem Ext.len {σ σ':Hp} (x:Ext σ σ'):σ.length≤σ'.length:=by obtain⟨τ,rfl⟩:=x;rw [aa];exact aX _ _
theorem Ext.set {σ σ':Hp} (x:Ext σ σ') {n:Nat} (h:σ.length≤n) (l:List V):Ext σ (σ'.set n l):=by
 obtain⟨τ,rfl⟩:=x
 exact⟨τ.set (n - σ.length) l,by rw [List.set_append,if_neg (bf.mpr h)]⟩
theorem dj (σ:Hp) (l:List V):(σ++[l])[σ.length]?=some l:=fw
theorem dA {σ:Hp} {n:Nat} {l:List V} (h:σ[n]?=some l):n < σ.length:=(ag.mp h).1
theorem ul {σ:Hp} {n:Nat} {l l':List V} (h:σ[n]?=some l):(σ.set n l')[n]?=some l':=rM (dA h)
theorem jf {σ:Hp} {n m:Nat} {l l':List V} (hn:n≠m) (h:σ[m]?=some l):(σ.set n l')[m]?=some l:=(uv hn).trans h
noncomputable abbrev CN (d:Nat):CallT:=callN FT GT d
def Cal (d f:Nat) (vs:List V) (σ:Hp) (P:V→Hp→Prop):Prop:=∃ v σ',CN d f vs σ=some (v,σ')∧P v σ'
theorem Cal.mono {d f:Nat} {vs:List V} {σ:Hp} {P P':V→Hp→Prop} (c:Cal d f vs σ P) (h:∀ v σ',P v σ'→P' v σ'):Cal d f vs σ P':=by
 obtain⟨v,σ',e,p⟩:=c;exact⟨v,σ',e,h _ _ p⟩
theorem dE {d f:Nat} {vs:List V} {st:St} {P:V→Hp→Prop} {Q:V→St→Prop} {X:St→Prop} (c:Cal d f vs st.hp P) (h:∀ v σ',P v σ'→Q v { st with hp:=σ' }):W (callR (CN d) f vs st) Q X:=by
 obtain⟨v,σ',e,p⟩:=c
 exact de e ⟨h v σ' p⟩
theorem B7 {d f:Nat} {fd:FD} {vs:List V} {σ:Hp} {fv:List (Option V)} {P:V→Hp→Prop} (hf:FT f=some fd) (hv:frame fd vs=some fv)
  (h:W (exs (CN d) GT fd.body ⟨fv,σ⟩) (fun fl st=>match fl with | .ret v=>P v st.hp | .next=>P .none st.hp | _=>False) NX):Cal (d+1) f vs σ P:=by
 obtain⟨fl,st,e,p⟩:=Cg h
 have key:CN (d+1) f vs σ=endOf (.ok fl st):=by
  show callN FT GT (d+1) f vs σ=_
  unfold callN
  rw [hf]
  show stepN (CN d) GT fd vs σ=_
  unfold stepN
  rw [hv]
  show endOf (exs (CN d) GT fd.body ⟨fv,σ⟩)=_
  rw [e]
 cases fl with
 | next=>exact⟨_,_,key,p⟩
 | ret v=>exact⟨_,_,key,p⟩
 | brk=>exact p.elim
 | cont=>exact p.elim
abbrev isInt (v:V) (P:Int→Prop):Prop:=match v with
 | .int i=>P i
 | _=>False
abbrev isStr (v:V) (P:List Nat→Prop):Prop:=match v with
 | .str s=>P s
 | _=>False
abbrev isLoc (v:V) (P:Nat→Prop):Prop:=match v with
 | .loc n=>P n
 | _=>False
abbrev isTup (v:V) (P:List V→Prop):Prop:=match v with
 | .tup l=>P l
 | _=>False
theorem f9 {v:V} {P:Int→Prop} (h:isInt v P):∃ i,v = .int i∧P i:=by
 cases v with
 | int i=>exact⟨i,rfl,h⟩
 | _=>exact False.elim h
theorem jF {v:V} {P:List Nat→Prop} (h:isStr v P):∃ i,v = .str i∧P i:=by
 cases v with
 | str i=>exact⟨i,rfl,h⟩
 | _=>exact False.elim h
theorem hW {v:V} {P:Nat→Prop} (h:isLoc v P):∃ i,v = .loc i∧P i:=by
 cases v with
 | loc i=>exact⟨i,rfl,h⟩
 | _=>exact False.elim h
theorem xB {v:V} {P:List V→Prop} (h:isTup v P):∃ i,v = .tup i∧P i:=by
 cases v with
 | tup i=>exact⟨i,rfl,h⟩
 | _=>exact False.elim h
theorem tL {α:Type} {x:V} {k:Int→Res α} {Q:α→St→Prop} {X:St→Prop} (q:isInt x fun i=>W (k i) Q X):W (onInt x k) Q X:=by
 obtain⟨i,rfl,q⟩:=f9 q;exact q
theorem w_onStr {α:Type} {x:V} {k:List Nat→Res α} {Q:α→St→Prop} {X:St→Prop} (q:isStr x fun i=>W (k i) Q X):W (onStr x k) Q X:=by
 obtain⟨i,rfl,q⟩:=jF q;exact q
theorem w_onLoc {α:Type} {x:V} {k:Nat→Res α} {Q:α→St→Prop} {X:St→Prop} (q:isLoc x fun i=>W (k i) Q X):W (onLoc x k) Q X:=by
 obtain⟨i,rfl,q⟩:=hW q;exact q
section
variable (call:CallT) (G:Nat→Option V) (cv:Option V)
def pAlloc (Q:V→St→Prop) (X:St→Prop) (l:List V) (st:St):Prop:=W (alloc l st) Q X
def pTup (Q:V→St→Prop) (X:St→Prop) (l:List V) (st:St):Prop:=W (mkTup l st) Q X
def pBin2 (op:Bop) (x:V) (Q:V→St→Prop) (X:St→Prop) (y:V) (st:St):Prop:=W (binop op x y st) Q X
def pBin (op:Bop) (b:E) (Q:V→St→Prop) (X:St→Prop) (x:V) (st:St):Prop:=W (ev call G cv b st) (pBin2 op x Q X) X
def pCmp2 (op:Cop) (x:V) (Q:V→St→Prop) (y:V) (st:St):Prop:=∃ r,cmpop op x y st.hp=some r∧Q (.bool r) st
def pCmp (op:Cop) (b:E) (Q:V→St→Prop) (X:St→Prop) (x:V) (st:St):Prop:=W (ev call G cv b st) (pCmp2 op x Q) X
def pAnd (b:E) (Q:V→St→Prop) (X:St→Prop) (x:V) (st:St):Prop:=∃ r,truth st.hp x=some r∧if r then W (ev call G cv b st) Q X else Q x st
def pOr (b:E) (Q:V→St→Prop) (X:St→Prop) (x:V) (st:St):Prop:=∃ r,truth st.hp x=some r∧if r then Q x st else W (ev call G cv b st) Q X
def pNeg (Q:V→St→Prop) (x:V) (st:St):Prop:=isInt x fun i=>Q (.int (-i)) st
def pIfe (a b:E) (Q:V→St→Prop) (X:St→Prop) (r:Bool) (st:St):Prop:=if r then W (ev call G cv a st) Q X else W (ev call G cv b st) Q X
def pIdx2 (x:V) (Q:V→St→Prop) (X:St→Prop) (y:V) (st:St):Prop:=W (idxV x y st) Q X
def pIdx (b:E) (Q:V→St→Prop) (X:St→Prop) (x:V) (st:St):Prop:=W (ev call G cv b st) (pIdx2 x Q X) X
def pHi2 (x:V) (Q:V→St→Prop) (X:St→Prop) (y:V) (st:St):Prop:=isInt y fun j=>W (sliceV x .none (some j) st) Q X
def pHi (b:E) (Q:V→St→Prop) (X:St→Prop) (x:V) (st:St):Prop:=W (ev call G cv b st) (pHi2 x Q X) X
def pLo2 (x:V) (Q:V→St→Prop) (X:St→Prop) (y:V) (st:St):Prop:=isInt y fun j=>W (sliceV x (some j) .none st) Q X
def pLo (b:E) (Q:V→St→Prop) (X:St→Prop) (x:V) (st:St):Prop:=W (ev call G cv b st) (pLo2 x Q X) X
def pLH3 (x y:V) (Q:V→St→Prop) (X:St→Prop) (z:V) (st:St):Prop:=isInt y fun j=>isInt z fun k=>W (sliceV x (some j) (some k) st) Q X
def pLH2 (e:E) (x:V) (Q:V→St→Prop) (X:St→Prop) (y:V) (st:St):Prop:=W (ev call G cv e st) (pLH3 x y Q X) X
def pLH (b e:E) (Q:V→St→Prop) (X:St→Prop) (x:V) (st:St):Prop:=W (ev call G cv b st) (pLH2 call G cv e x Q X) X
def pB1 (f:B1) (Q:V→St→Prop) (X:St→Prop) (x:V) (st:St):Prop:=W (b1V f x st) Q X
def pByt (Q:V→St→Prop) (x:V) (st:St):Prop:=isStr x fun _=>Q (.bool false) st
def pSub (Q:V→St→Prop) (x:V) (st:St):Prop:=x = .tstr∧Q (.bool true) st
def pM0 (f:M0) (Q:V→St→Prop) (X:St→Prop) (x:V) (st:St):Prop:=W (m0V f x st) Q X
def pM12 (f:M1) (s:List Nat) (Q:V→St→Prop) (X:St→Prop) (y:V) (st:St):Prop:=W (m1V f s y st) Q X
def pM1 (f:M1) (b:E) (Q:V→St→Prop) (X:St→Prop) (x:V) (st:St):Prop:=isStr x fun s=>W (ev call G cv b st) (pM12 f s Q X) X
def pSet (n:Nat) (Q:V→St→Prop) (X:St→Prop) (y:V) (st:St):Prop:=W (setList n (·++[y]) st) Q X
def pApp (b:E) (Q:V→St→Prop) (X:St→Prop) (x:V) (st:St):Prop:=isLoc x fun n=>W (ev call G cv b st) (pSet n Q X) X
def pExt2 (n:Nat) (Q:V→St→Prop) (X:St→Prop) (y:V) (st:St):Prop:=isLoc y fun m=>∃ l,st.hp[m]?=some l∧n≠m∧W (setList n (·++l) st) Q X
def pExt (b:E) (Q:V→St→Prop) (X:St→Prop) (x:V) (st:St):Prop:=isLoc x fun n=>W (ev call G cv b st) (pExt2 n Q X) X
def pIns2 (n:Nat) (Q:V→St→Prop) (X:St→Prop) (y:V) (st:St):Prop:=W (setList n (y::·) st) Q X
def pIns (b:E) (Q:V→St→Prop) (X:St→Prop) (x:V) (st:St):Prop:=isLoc x fun n=>W (ev call G cv b st) (pIns2 n Q X) X
def pCall (f:Nat) (Q:V→St→Prop) (X:St→Prop) (l:List V) (st:St):Prop:=W (callR call f l st) Q X
def pRepl (x:Nat) (t:List Nat) (Q:V→St→Prop) (X:St→Prop) (v:V) (st:St):Prop:=isStr v fun s=>W (mkStr (s.flatMap fun y=>if y=x then t else [y]) st) Q X
noncomputable def gComp (elt:E) (y:V) (st:St):Res (List V):=(ev call G (some y) elt st).bind fun r st=>.ok [r] st
noncomputable def gCompIf (elt:E) (c:T) (y:V) (st:St):Res (List V):=(evT call G (some y) c st).bind fun b st=>if b then (ev call G (some y) elt st).bind fun r st=>.ok [r] st else .ok [] st
def pComp (g:V→St→Res (List V)) (Q:V→St→Prop) (X:St→Prop) (x:V) (st:St):Prop:=W (compV x g st) Q X
def pSort (f:Nat) (Q:V→St→Prop) (X:St→Prop) (x:V) (st:St):Prop:=W (sortKV call f x st) Q X
def pMap (f:Nat) (Q:V→St→Prop) (X:St→Prop) (x:V) (st:St):Prop:=W (tmapV call f x st) Q X
def pDiv2 (i:Int) (Q:V→St→Prop) (y:V) (st:St):Prop:=isInt y fun j=>0 < j∧j < 1000000∧0≤i∧i < 10000000000∧Q (.tup [.int (i / j),.int (i % j)]) st
def pDiv (b:E) (Q:V→St→Prop) (X:St→Prop) (x:V) (st:St):Prop:=isInt x fun i=>W (ev call G cv b st) (pDiv2 i Q) X
def pCons2 (x:V) (Q:List V→St→Prop) (xs:List V) (st:St):Prop:=Q (x::xs) st
def pCons (es:Es) (Q:List V→St→Prop) (X:St→Prop) (x:V) (st:St):Prop:=W (evs call G cv es st) (pCons2 x Q) X
def pVal (Q:Bool→St→Prop) (x:V) (st:St):Prop:=∃ r,truth st.hp x=some r∧Q r st
def pCmpT2 (op:Cop) (x:V) (Q:Bool→St→Prop) (y:V) (st:St):Prop:=∃ r,cmpop op x y st.hp=some r∧Q r st
def pCmpT (op:Cop) (b:E) (Q:Bool→St→Prop) (X:St→Prop) (x:V) (st:St):Prop:=W (ev call G cv b st) (pCmpT2 op x Q) X
def pNot (Q:Bool→St→Prop) (b:Bool) (st:St):Prop:=Q (!b) st
def pAndT (ts:Ts) (Q:Bool→St→Prop) (X:St→Prop) (b:Bool) (st:St):Prop:=if b then W (evTA call G cv ts st) Q X else Q false st
def pOrT (ts:Ts) (Q:Bool→St→Prop) (X:St→Prop) (b:Bool) (st:St):Prop:=if b then Q true st else W (evTO call G cv ts st) Q X
def pSeq (ss:Ss) (Q:Fl→St→Prop) (X:St→Prop) (f:Fl) (st:St):Prop:=match f with
 | .next=>W (exs call G ss st) Q X
 | f=>Q f st
def pAsg (i:Nat) (Q:Fl→St→Prop) (v:V) (st:St):Prop:=Q .next (setVar st i v)
def pAsg2 (i j:Nat) (Q:Fl→St→Prop) (v:V) (st:St):Prop:=Q .next (setVar (setVar st i v) j v)
def pUnp (is:List Nat) (Q:Fl→St→Prop) (v:V) (st:St):Prop:=isTup v fun l=>l.length=is.length∧Q .next (setVars st is l)
def pAug (i:Nat) (op:Bop) (x:V) (Q:Fl→St→Prop) (X:St→Prop) (y:V) (st:St):Prop:=W (augV op x y st) (pAsg i Q) X
def pExp (Q:Fl→St→Prop) (_:V) (st:St):Prop:=Q .next st
def pRet (Q:Fl→St→Prop) (v:V) (st:St):Prop:=Q (.ret v) st
def pIfS (b o:Ss) (Q:Fl→St→Prop) (X:St→Prop) (c:Bool) (st:St):Prop:=if c then W (exs call G b st) Q X else W (exs call G o st) Q X
def pHand (hd:Ss) (Q:Fl→St→Prop) (st:St):Prop:=W (exs call G hd st) Q NX
def pFin2 (g:Fl) (Q:Fl→St→Prop) (q:Fl) (st:St):Prop:=q = .next∧Q g st
def pFin (f:Ss) (Q:Fl→St→Prop) (X:St→Prop) (g:Fl) (st:St):Prop:=W (exs call G f st) (pFin2 g Q) X
def pFinX2 (X:St→Prop) (q:Fl) (st:St):Prop:=q = .next∧X st
def pFinX (f:Ss) (X:St→Prop) (st:St):Prop:=W (exs call G f st) (pFinX2 X) X
def pTurn (Q:Fl→St→Prop) (J:St→Prop) (f:Fl) (st:St):Prop:=match f with
 | .brk=>Q .next st
 | .ret v=>Q (.ret v) st
 | _=>J st
def pLess (I:Nat→St→Prop) (n:Nat) (st:St):Prop:=∃ m,m < n∧I m st
def pWhile (b:St→Res Fl) (Q:Fl→St→Prop) (X J:St→Prop) (c:Bool) (st:St):Prop:=if c then W (b st) (pTurn Q J) X else Q .next st
def pAdd (I:Nat→List V→St→Prop) (i:Nat) (o ys:List V) (st:St):Prop:=I (i+1) (o++ys) st
def pPre (o:List V) (Q:List V→St→Prop) (zs:List V) (st:St):Prop:=Q (o++zs) st
def pFor (g:V→Nat→St→Res Fl) (Q:Fl→St→Prop) (X:St→Prop) (x:V) (st:St):Prop:=W (forGo x g FUEL 0 st) Q X
def pFor1 (src:V) (g:V→Nat→St→Res Fl) (k i:Nat) (Q:Fl→St→Prop) (X:St→Prop) (st:St):Prop:=W (forGo src g k i st) Q X
noncomputable def gForL (i:Nat) (b:Ss) (y:V) (_:Nat) (st:St):Res Fl:=exs call G b (setVar st i y)
noncomputable def gForT (is:List Nat) (b:Ss) (y:V) (_:Nat) (st:St):Res Fl:=(unpackV is y st).bind fun _ st=>exs call G b st
noncomputable def gForE (i j:Nat) (b:Ss) (y:V) (k:Nat) (st:St):Res Fl:=exs call G b (setVar (setVar st i (.int k)) j y)
noncomputable def gForR (i:Nat) (b:Ss) (y:V) (st:St):Res Fl:=exs call G b (setVar st i y)
def pForE (n:Nat) (g:V→Nat→St→Res Fl) (Q:Fl→St→Prop) (X:St→Prop) (x:V) (st:St):Prop:=x = .loc n∧W (forGo (.loc n) g FUEL 0 st) Q X
def pForR (c:Int) (g:V→St→Res Fl) (Q:Fl→St→Prop) (X:St→Prop) (y:V) (st:St):Prop:=y = .int c∧0≤c∧c≤LIM∧W (rangeGo g 0 (c - 0).toNat st) Q X
end
section
variable {call:CallT} {G:Nat→Option V} {cv:Option V} {st:St} {Q:V→St→Prop} {X:St→Prop} {a b e:E}
theorem bb {v:V} (h:Q v st):W (ev call G cv (.lit v) st) Q X:=⟨h⟩
theorem ah {i:Nat} {v:V} (e:st.fv[i]?=some (some v)) (h:Q v st):W (ev call G cv (.var i) st) Q X:=by
 show W (getVar st i) Q X
 unfold getVar;rw [e];exact⟨h⟩
theorem iM {v:V} (h:Q v st):W (ev call G (some v) .cv st) Q X:=⟨h⟩
theorem lw {k:Nat} {v:V} (e:G k=some v) (h:Q v st):W (ev call G cv (.glob k) st) Q X:=eO e h
theorem eu {es:Es} (h:W (evs call G cv es st) (pAlloc Q X) X):W (ev call G cv (.list es) st) Q X:=aK h
theorem dZ {es:Es} (h:W (evs call G cv es st) (pTup Q X) X):W (ev call G cv (.tup es) st) Q X:=aK h
theorem ko {α:Type} {f:V→V→St→Res α} {Q:α→St→Prop} {p:V→V→St→Prop} (h:W (ev call G cv a st) (fun x st=>W (ev call G cv b st) (p x) X) X) (k:∀ x y st,p x y st→W (f x y st) Q X):W ((ev call G cv a st).bind fun x st=>(ev call G cv b st).bind fun y st=>f x y st) Q X:=
 aK (bi h (fun _ _ h=>aK (bi h (k _) fun _ h=>h)) fun _ h=>h)
theorem df {op:Bop} (h:W (ev call G cv a st) (pBin call G cv op b Q X) X):W (ev call G cv (.bin op a b) st) Q X:=ko h fun _ _ _ h=>h
theorem Aw {op:Cop} (h:W (ev call G cv a st) (pCmp call G cv op b Q X) X):W (ev call G cv (.cmp op a b) st) Q X:=ko h fun _ _ _ ⟨r,e,q⟩=>aK (eO e ⟨q⟩)
theorem Ay (h:W (ev call G cv a st) (pAnd call G cv b Q X) X):W (ev call G cv (.and a b) st) Q X:=
 aK (bi h (fun _ _ ⟨r,e,q⟩=>aK (eO e (by cases r;exact⟨q⟩;exact q))) fun _ h=>h)
theorem w_or (h:W (ev call G cv a st) (pOr call G cv b Q X) X):W (ev call G cv (.or a b) st) Q X:=
 aK (bi h (fun _ _ ⟨r,e,q⟩=>aK (eO e (by cases r;exact q;exact⟨q⟩))) fun _ h=>h)
theorem jt (h:W (ev call G cv a st) (pNeg Q) X):W (ev call G cv (.neg a) st) Q X:=aK (bi h (fun v _ q=>by obtain⟨i,rfl,q⟩:=f9 (v:=v) q;exact⟨q⟩) fun _ h=>h)
theorem wH {t:T} (h:W (evT call G cv t st) (pIfe call G cv a b Q X) X):W (ev call G cv (.ife t a b) st) Q X:=
 aK (bi h (fun r _ q=>by cases r<;>exact q) fun _ h=>h)
theorem cY (h:W (ev call G cv a st) (pIdx call G cv b Q X) X):W (ev call G cv (.idx a b) st) Q X:=ko h fun _ _ _ h=>h
theorem cA (h:W (ev call G cv a st) (pHi call G cv b Q X) X):W (ev call G cv (.sliceHi a b) st) Q X:=ko h fun _ _ _ q=>tL q
theorem iz (h:W (ev call G cv a st) (pLo call G cv b Q X) X):W (ev call G cv (.sliceLo a b) st) Q X:=ko h fun _ _ _ q=>tL q
theorem jV (h:W (ev call G cv a st) (pLH call G cv b e Q X) X):W (ev call G cv (.sliceLH a b e) st) Q X:=
 ko (p:=fun x y st=>W (ev call G cv e st) (pLH3 x y Q X) X) h fun x y _ h=>aK (bi h (fun z _ q=>by obtain⟨j,rfl,q⟩:=f9 (v:=y) q;obtain⟨k,rfl,q⟩:=f9 (v:=z) q;exact q) fun _ h=>h)
theorem eT {f:B1} (h:W (ev call G cv a st) (pB1 f Q X) X):W (ev call G cv (.b1 f a) st) Q X:=aK h
theorem nr (h:W (ev call G cv a st) (pByt Q) X):W (ev call G cv (.isbytes a) st) Q X:=aK (bi h (fun v _ q=>by obtain⟨i,rfl,q⟩:=jF (v:=v) q;exact⟨q⟩) fun _ h=>h)
theorem zn (h:W (ev call G cv a st) (pSub Q) X):W (ev call G cv (.issub a) st) Q X:=aK (bi h (fun _ _ ⟨e,q⟩=>by rw [e];exact⟨q⟩) fun _ h=>h)
theorem AU {f:M0} (h:W (ev call G cv a st) (pM0 f Q X) X):W (ev call G cv (.m0 f a) st) Q X:=aK h
theorem jw {f:M1} (h:W (ev call G cv a st) (pM1 call G cv f b Q X) X):W (ev call G cv (.m1 f a b) st) Q X:=aK (bi h (fun v _ q=>by obtain⟨s,rfl,q⟩:=jF (v:=v) q;exact aK q) fun _ h=>h)
theorem fY (h:W (ev call G cv a st) (pApp call G cv b Q X) X):W (ev call G cv (.append a b) st) Q X:=aK (bi h (fun v _ q=>by obtain⟨s,rfl,q⟩:=hW (v:=v) q;exact aK q) fun _ h=>h)
theorem lz (h:W (ev call G cv a st) (pExt call G cv b Q X) X):W (ev call G cv (.extend a b) st) Q X:=
 aK (bi h (fun v _ q=>by
  obtain⟨n,rfl,q⟩:=hW (v:=v) q
  exact aK (bi q (fun v _ q=>by obtain⟨m,rfl,l,e2,e3,q⟩:=hW (v:=v) q;exact d5 e2 (c9 (decide_eq_true e3) q)) fun _ h=>h)) fun _ h=>h)
theorem uG (h:W (ev call G cv a st) (pIns call G cv b Q X) X):W (ev call G cv (.insert0 a b) st) Q X:=aK (bi h (fun v _ q=>by obtain⟨s,rfl,q⟩:=hW (v:=v) q;exact aK q) fun _ h=>h)
theorem oE {i n:Nat} (e:st.fv[i]?=some (some (.app n))) (h:W (ev call G cv b st) (pSet n Q X) X):W (ev call G cv (.callv i b) st) Q X:=by
 show W ((getVar st i).bind _) Q X
 unfold getVar;rw [e]
 exact aK (show W (Res.ok _ st) _ X from ⟨aK h⟩)
theorem bN {f:Nat} {es:Es} (h:W (evs call G cv es st) (pCall call f Q X) X):W (ev call G cv (.call f es) st) Q X:=aK h
theorem AR {x:Nat} {t:List Nat} (ht:t.length=3) (h:W (ev call G cv a st) (pRepl x t Q X) X):W (ev call G cv (.replace a x t) st) Q X:=
 aK (bi h (fun v _ q=>by obtain⟨s,rfl,q⟩:=jF (v:=v) q;exact c9 (decide_eq_true ht) q) fun _ h=>h)
theorem lC {elt it:E} (h:W (ev call G cv it st) (pComp (gComp call G elt) Q X) X):W (ev call G cv (.comp elt it) st) Q X:=aK h
theorem lB {elt it:E} {c:T} (h:W (ev call G cv it st) (pComp (gCompIf call G elt c) Q X) X):W (ev call G cv (.compIf elt it c) st) Q X:=aK h
theorem zm {f:Nat} (h:W (ev call G cv a st) (pSort call f Q X) X):W (ev call G cv (.sortK f a) st) Q X:=aK h
theorem AP {f:Nat} (h:W (ev call G cv a st) (pMap call f Q X) X):W (ev call G cv (.tmap f a) st) Q X:=aK h
theorem jx (h:W (ev call G cv a st) (pDiv call G cv b Q X) X):W (ev call G cv (.divmod a b) st) Q X:=
 aK (bi h (fun v _ q=>by
  obtain⟨i,rfl,q⟩:=f9 (v:=v) q
  exact aK (bi q (fun v _ q=>by
   obtain⟨j,rfl,h1,h2,h3,h4,q⟩:=f9 (v:=v) q
   exact c9 (by rw [decide_eq_true h1,decide_eq_true h2,decide_eq_true h3,decide_eq_true h4];rfl) ⟨q⟩) fun _ h=>h)) fun _ h=>h)
end
section
variable {call:CallT} {G:Nat→Option V} {cv:Option V} {st:St} {X:St→Prop} {e:E}
theorem bc {Q:List V→St→Prop} (h:Q [] st):W (evs call G cv .nil st) Q X:=⟨h⟩
theorem aB {es:Es} {Q:List V→St→Prop} (h:W (ev call G cv e st) (pCons call G cv es Q X) X):W (evs call G cv (.cons e es) st) Q X:=aK (bi h (fun _ _ h=>aK (bi h (fun _ _ h=>⟨h⟩) fun _ h=>h)) fun _ h=>h)
variable {Q:Bool→St→Prop}
theorem dn (h:W (ev call G cv e st) (pVal Q) X):W (evT call G cv (.val e) st) Q X:=aK (bi h (fun _ _ ⟨r,e,q⟩=>eO e q) fun _ h=>h)
theorem bu {op:Cop} {a b:E} (h:W (ev call G cv a st) (pCmpT call G cv op b Q X) X):W (evT call G cv (.cmp op a b) st) Q X:=ko h fun _ _ _ ⟨r,e,q⟩=>eO e q
theorem nq {t:T} (h:W (evT call G cv t st) (pNot Q) X):W (evT call G cv (.not t) st) Q X:=aK (bi h (fun _ _ h=>⟨h⟩) fun _ h=>h)
theorem cD {t:T} {ts:Ts} (h:W (evT call G cv t st) (pAndT call G cv ts Q X) X):W (evTA call G cv (.cons t ts) st) Q X:=aK (bi h (fun b _ q=>by cases b;exact⟨q⟩;exact q) fun _ h=>h)
theorem nl {t:T} {ts:Ts} (h:W (evT call G cv t st) (pOrT call G cv ts Q X) X):W (evTO call G cv (.cons t ts) st) Q X:=aK (bi h (fun b _ q=>by cases b;exact q;exact⟨q⟩) fun _ h=>h)
theorem eV (h:Q true st):W (evTA call G cv .nil st) Q X:=⟨h⟩
theorem wz (h:Q false st):W (evTO call G cv .nil st) Q X:=⟨h⟩
theorem fL {ts:Ts} (h:W (evTA call G cv ts st) Q X):W (evT call G cv (.and ts) st) Q X:=h
theorem wQ {ts:Ts} (h:W (evTO call G cv ts st) Q X):W (evT call G cv (.or ts) st) Q X:=h
end
section
variable {call:CallT} {G:Nat→Option V} {st:St} {Q:Fl→St→Prop} {X:St→Prop} {e:E}
theorem aJ (h:Q .next st):W (exs call G .nil st) Q X:=⟨h⟩
theorem ai {s:S} {ss:Ss} (h:W (ex call G s st) (pSeq call G ss Q X) X):W (exs call G (.cons s ss) st) Q X:=aK (bi h (fun f _ q=>by cases f with
 | next=>exact q
 | brk=>exact⟨q⟩
 | cont=>exact⟨q⟩
 | ret v=>exact⟨q⟩) fun _ h=>h)
theorem iA {α β:Type} {r:Res α} {Q:β→St→Prop} {f:α→St→β} {g:α→St→St} (h:W r (fun a st=>Q (f a st) (g a st)) X):W (r.bind fun a st=>.ok (f a st) (g a st)) Q X:=aK (bi h (fun _ _ h=>⟨h⟩) fun _ h=>h)
theorem aM {i:Nat} (h:W (ev call G .none e st) (pAsg i Q) X):W (ex call G (.assign i e) st) Q X:=iA h
theorem wO {i:Nat} {elt it:E} (h:W (ev call G .none (.comp elt it) st) (pAsg i Q) X):W (ex call G (.asgC i elt it) st) Q X:=iA h
theorem tO {i:Nat} {elt it:E} {c:T} (h:W (ev call G .none (.compIf elt it c) st) (pAsg i Q) X):W (ex call G (.asgCI i elt it c) st) Q X:=iA h
theorem Au {is:List Nat} {v:V} {st:St} (q:pUnp is Q v st):W (unpackV is v st) Q X:=by obtain⟨l,rfl,q⟩:=xB (v:=v) q;exact c9 (decide_eq_true q.1) ⟨q.2⟩
theorem eL {is:List Nat} (h:W (ev call G .none e st) (pUnp is Q) X):W (ex call G (.unpack is e) st) Q X:=aK (bi h (fun _ _ q=>Au q) fun _ h=>h)
theorem uC {i j:Nat} {a b:E} (h:W (ev call G .none (.tup (.cons a (.cons b .nil))) st) (pUnp [i,j] Q) X):W (ex call G (.unpack2 i j a b) st) Q X:=aK (bi h (fun _ _ q=>Au q) fun _ h=>h)
theorem pZ {i:Nat} {op:Bop} {x:V} (hx:st.fv[i]?=some (some x)) (h:W (ev call G .none e st) (pAug i op x Q X) X):W (ex call G (.aug i op e) st) Q X:=by
 show W ((getVar st i).bind _) Q X
 unfold getVar;rw [hx]
 exact aK (show W (Res.ok _ st) _ X from ⟨aK (bi h (fun _ _ h=>iA h) fun _ h=>h)⟩)
theorem dT (h:W (ev call G .none e st) (pExp Q) X):W (ex call G (.expr e) st) Q X:=iA h
theorem dd (h:W (ev call G .none e st) (pRet Q) X):W (ex call G (.ret e) st) Q X:=iA h
theorem ch {t:T} {b o:Ss} (h:W (evT call G .none t st) (pIfS call G b o Q X) X):W (ex call G (.ifS t b o) st) Q X:=aK (bi h (fun c _ q=>by cases c<;>exact q) fun _ h=>h)
theorem Ax (h:Q .brk st):W (ex call G .brk st) Q X:=⟨h⟩
theorem rV (h:Q .cont st):W (ex call G .cont st) Q X:=⟨h⟩
theorem rO {b:Ss} (h:W (exs call G b st) Q NX):W (ex call G (.tryP b) st) Q X:=i6 h
theorem AN {b hd:Ss} (h:W (exs call G b st) Q (pHand call G hd Q)):W (ex call G (.tryX b hd) st) Q X:=by
 show W (match exs call G b st with | .ex st=>noEx (exs call G hd st) | r=>r) Q X
 cases hr:exs call G b st with
 | ok f st'=>rw [hr] at h;exact⟨h.run⟩
 | ex st'=>rw [hr] at h;exact i6 h.run
 | bad=>rw [hr] at h;exact⟨h.run⟩
theorem AO {b f:Ss} (h:W (exs call G b st) (pFin call G f Q X) (pFinX call G f X)):W (ex call G (.tryF b f) st) Q X:=by
 show W (match exs call G b st with | .ok g st=>thenNext (exs call G f st) fun st=>.ok g st | .ex st=>thenNext (exs call G f st) fun st=>.ex st | .bad=>.bad) Q X
 cases hr:exs call G b st with
 | ok g st'=>rw [hr] at h;exact aK (bi h.run (fun _ _ ⟨e,q⟩=>by rw [e];exact⟨q⟩) fun _ h=>h)
 | ex st'=>rw [hr] at h;exact aK (bi h.run (fun _ _ ⟨e,q⟩=>by rw [e];exact⟨q⟩) fun _ h=>h)
 | bad=>rw [hr] at h;exact⟨h.run⟩
end
theorem qk {a i k:Nat} (h:i < a) (hk:a - i < k+1):a - (i+1) < k:=by
 rw [Nat.sub_succ];exact aE (Nat.pred_lt (Nat.sub_ne_zero_of_lt h)) (cL hk)
theorem kq {src:V} {g:V→Nat→St→Res Fl} {Q:Fl→St→Prop} {X:St→Prop} (I:Nat→St→Prop) (l:List V) (hsrc:∀ i st,I i st→nextOf st.hp i src=some l[i]?)
  (tn:∀ i x st,l[i]?=some x→I i st→W (g x i st) (pTurn Q (I (i+1))) NX)
  (fin:∀ st,I l.length st→Q .next st):∀ (k i:Nat) (st:St),i≤l.length→l.length - i < k→I i st→W (forGo src g k i st) Q X:=by
 intro k
 induction k with
 | zero=>intro i st _ h;exact absurd h (cF _)
 | succ k ih=>
  intro i st hi hk hI
  have hs:=hsrc i st hI
  show W (match nextOf st.hp i src with | .none=>Res.bad | some o=>(match o with | .none=>.ok .next st | some x=>(noEx (g x i st)).bind fun f st=>turn f st (forGo src g k (i+1)))) Q X
  rw [hs]
  cases hx:l[i]? with
  | none=>
   have:l.length≤i:=bq.mp hx
   exact⟨fin st (by rw [db this hi];exact hI)⟩
  | some x=>
   have hlt:=(ag.mp hx).1
   refine aK (i6 (bi (tn i x st hx hI) (fun f st q=>?_) fun _ h=>h))
   have h1:l.length - (i+1) < k:=qk hlt hk
   cases f with
   | next=>exact ih (i+1) st hlt h1 q
   | cont=>exact ih (i+1) st hlt h1 q
   | brk=>exact⟨q⟩
   | ret v=>exact⟨q⟩
theorem oC {g:V→St→Res Fl} {Q:Fl→St→Prop} {X:St→Prop} (I:Nat→St→Prop) (lo n:Nat)
  (turn:∀ i st,i < n→I i st→W (g (.int ((lo+i:Nat):Int)) st) (pTurn Q (I (i+1))) NX)
  (fin:∀ st,I n st→Q .next st):∀ (k i:Nat) (st:St),i+k=n→I i st→W (rangeGo g ((lo+i:Nat):Int) k st) Q X:=by
 intro k
 induction k with
 | zero=>intro i st h hI;exact⟨fin st (by rw [←h];exact hI)⟩
 | succ k ih=>
  intro i st h hI
  show W ((noEx (g (.int ((lo+i:Nat):Int)) st)).bind fun f st=>Mine.turn f st (rangeGo g (((lo+i:Nat):Int)+1) k)) Q X
  refine aK (i6 (bi (turn i st (by grind) hI) (fun f st q=>?_) fun _ h=>h))
  have e:(((lo+i:Nat):Int)+1)=((lo+(i+1):Nat):Int):=rfl
  have h1:i+1+k=n:=by grind
  cases f with
  | next=>rw [e];exact ih (i+1) st h1 q
  | cont=>rw [e];exact ih (i+1) st h1 q
  | brk=>exact⟨q⟩
  | ret v=>exact⟨q⟩
theorem jr {t:St→Res Bool} {b:St→Res Fl} {Q:Fl→St→Prop} {X:St→Prop} (I:Nat→St→Prop)
  (turn:∀ n st,I n st→W (t st) (pWhile b Q X (pLess I n)) X):∀ (k n:Nat) (st:St),n < k→I n st→W (whileGo t b k st) Q X:=by
 intro k
 induction k with
 | zero=>intro n st h;exact absurd h (cF _)
 | succ k ih=>
  intro n st hk hI
  show W ((t st).bind fun c st=>if c then (b st).bind fun f st=>Mine.turn f st (whileGo t b k) else .ok .next st) Q X
  refine aK (bi (turn n st hI) (fun c st q=>?_) fun _ h=>h)
  cases c with
  | false=>exact⟨q⟩
  | true=>
   refine aK (bi q (fun f st q=>?_) fun _ h=>h)
   cases f with
   | next=>obtain⟨m,hm,hI⟩:=q;exact ih m st (aE hm (cL hk)) hI
   | cont=>obtain⟨m,hm,hI⟩:=q;exact ih m st (aE hm (cL hk)) hI
   | brk=>exact⟨q⟩
   | ret v=>exact⟨q⟩
theorem wL {src:V} {g:V→St→Res (List V)} {Q:List V→St→Prop} {X:St→Prop} (I:Nat→List V→St→Prop) (l:List V) (hsrc:∀ i o st,I i o st→nextOf st.hp i src=some l[i]?)
  (turn:∀ i x o st,l[i]?=some x→I i o st→W (g x st) (pAdd I i o) NX) (fin:∀ o st,I l.length o st→Q o st) :
  ∀ (k i:Nat) (o:List V) (st:St),i≤l.length→l.length - i < k→I i o st→W (compGo src g k i st) (pPre o Q) X:=by
 intro k
 induction k with
 | zero=>intro i o st _ h;exact absurd h (cF _)
 | succ k ih=>
  intro i o st hi hk hI
  have hs:=hsrc i o st hI
  show W (match nextOf st.hp i src with | .none=>Res.bad | some o=>(match o with | .none=>.ok [] st | some x=>(noEx (g x st)).bind fun ys st=>(compGo src g k (i+1) st).bind fun zs st=>.ok (ys++zs) st)) _ X
  rw [hs]
  cases hx:l[i]? with
  | none=>
   have:l.length≤i:=bq.mp hx
   refine⟨?_⟩
   show Q (o++[]) st
   rw [al]
   exact fin o st (by rw [db this hi];exact hI)
  | some x=>
   have hlt:=(ag.mp hx).1
   refine aK (i6 (bi (turn i x o st hx hI) (fun ys st q=>?_) fun _ h=>h))
   refine aK (bi (ih (i+1) (o++ys) st hlt (qk hlt hk) q) (fun zs st q=>⟨?_⟩) fun _ h=>h)
   show Q (o++(ys++zs)) st
   rw [←aw]
   exact q
section
variable {Q:V→St→Prop} {X:St→Prop} {st:St}
theorem js {α:Type} {Q:α→St→Prop} {a:α} (h:Q a st):W (.ok a st) Q X:=⟨h⟩
theorem w_typ {s:List Nat} (h:Q .tstr st):W (b1V .typ (.str s) st) Q X:=⟨h⟩
theorem vh {α:Type} (i:Int) (k:Int→Res α):onInt (.int i) k=k i:=rfl
theorem wN {i:Nat} (hi:i < 1114112) (h:Q (.str [i]) st):W (b1V .chr (.int (i:Int)) st) Q X:=by
 have h1:(0:Int)≤(i:Int):=bg i
 have h2:(i:Int) < 1114112:=ds.mpr hi
 have e:b1V .chr (.int (i:Int)) st=onInt (.int (i:Int)) fun i=>guard (decide (0≤i)&&decide (i < 1114112)) (.ok (.str [i.toNat]) st):=rfl
 rw [e,vh,decide_eq_true h1,decide_eq_true h2]
 exact⟨h⟩
theorem Av {c:Nat} (h:Q (.int c) st):W (b1V .ord (.str [c]) st) Q X:=⟨h⟩
theorem lm {s:List Nat} (h:Q (.int s.length) st):W (b1V .len (.str s) st) Q X:=⟨h⟩
theorem eW {i j:Int} (h:Q (.int (i+j)) st):W (binop .add (.int i) (.int j) st) Q X:=⟨h⟩
theorem lj {i j:Int} (h:Q (.int (i - j)) st):W (binop .sub (.int i) (.int j) st) Q X:=⟨h⟩
theorem Ba {i j:Int} {Q:V→St→Prop} (h:Q (.int (i+j)) st):W (augV .add (.int i) (.int j) st) Q X:=⟨h⟩
theorem wF {i j:Int} (hj:0 < j) (h:Q (.int (i % j)) st):W (binop .mod (.int i) (.int j) st) Q X:=c9 (decide_eq_true hj) ⟨h⟩
theorem AS {s:List Nat} {n:Nat} (hn:n≤1000) (hs:s.length≤1000) (h:Q (.str (bB n s).flatten) st):W (binop .mul (.str s) (.int (n:Int)) st) Q X:=by
 refine c9 (b:=decide (0≤(n:Int))&&decide ((n:Int)≤1000)&&decide (s.length≤1000)) ?_ ⟨h⟩
 rw [decide_eq_true (bg n),decide_eq_true (show (n:Int)≤1000 from c7.mpr hn),decide_eq_true hs];rfl
theorem tI {s:List Nat} {c:Nat} (h:Q (.int (rfindL c s)) st):W (m1V .rfind s (.str [c]) st) Q X:=⟨h⟩
theorem uD {s t:List Nat} (h:Q (.str (rstripL t.contains s)) st):W (m1V .rstrip s (.str t) st) Q X:=⟨h⟩
theorem wJ {s t:List Nat} (h:Q (.bool (t.isSuffixOf s)) st):W (m1V .endswith s (.str t) st) Q X:=⟨h⟩
theorem lk {s t:List Nat} (h:Q (.bool (t.isPrefixOf s)) st):W (m1V .startswith s (.str t) st) Q X:=⟨h⟩
end
section
variable {α:Type} {call:CallT} {G:Nat→Option V} {st:St} {Q:Fl→St→Prop} {X:St→Prop} {e:E}
theorem ifT {A:Prop} (h:A):A:=h
theorem ifF {A:Prop} (h:A):A:=h
theorem eQ {i:Nat} {b:Ss} (h:W (ev call G .none e st) (pFor (gForL call G i b) Q X) X):W (ex call G (.forL i e b) st) Q X:=aK h
theorem AZ {is:List Nat} {b:Ss} (h:W (ev call G .none e st) (pFor (gForT call G is b) Q X) X):W (ex call G (.forT is e b) st) Q X:=aK h
theorem gW {t:T} {b:Ss} (h:W (whileGo (evT call G .none t) (exs call G b) FUEL st) Q X):W (ex call G (.whileS t b) st) Q X:=h
theorem pW {g:V→St→Res Fl} {a c:Int} (h1:0≤a) (h2:a≤LIM) (h3:0≤c) (h4:c≤LIM) (h:W (rangeGo g a (c - a).toNat st) Q X):W (rangeV g (.int a) (.int c) st) Q X:=by
 show W (guard _ _) Q X
 refine c9 ?_ h
 rw [decide_eq_true h1,decide_eq_true h2,decide_eq_true h3,decide_eq_true h4];rfl
theorem wI {i:Nat} {b:Ss} {c:Int} (h:W (ev call G .none e st) (pForR c (gForR call G i b) Q X) X):W (ex call G (.forR i e b) st) Q X:=
 aK (bi h (fun _ _ ⟨e,h1,h2,q⟩=>by rw [e];exact pW (Int.le_refl 0) (bg _) h1 h2 q) fun _ h=>h)
theorem wB {α:Type} {x:V} {n:Nat} {k:Nat→Res α} {Q:α→St→Prop} {X:St→Prop} (e:x = .loc n) (q:W (k n) Q X):W (onLoc x k) Q X:=by rw [e];exact q
theorem A0 {i j:Nat} {b:Ss} {n:Nat} (h:W (ev call G .none e st) (pForE n (gForE call G i j b) Q X) X):W (ex call G (.forE i j e b) st) Q X:=
 aK (bi h (fun v st q=>wB q.1 (by rw [q.1];exact q.2)) fun _ h=>h)
theorem wG {x y h l:Nat} {Q:V→St→Prop} (hx:hexVal x=some h) (hy:hexVal y=some l) (q:Q (.int ((16 * h+l:Nat):Int)) st):W (int16V (.str [x,y]) st) Q X:=de hx (de hy ⟨q⟩)
theorem eR {src:V} {g:V→Nat→St→Res Fl} {k i:Nat} {x:V} (hk:0 < k) (hs:nextOf st.hp i src=some (some x))
  (h:W (g x i st) (pTurn Q (pFor1 src g (k - 1) (i+1) Q X)) NX):W (forGo src g k i st) Q X:=by
 cases k with
 | zero=>exact absurd hk (bx _)
 | succ k=>
  show W (match nextOf st.hp i src with | .none=>Res.bad | some o=>(match o with | .none=>.ok .next st | some x=>(noEx (g x i st)).bind fun f st=>turn f st (forGo src g k (i+1)))) Q X
  rw [hs]
  refine aK (i6 (bi h (fun f st q=>?_) fun _ h=>h))
  cases f with
  | next=>exact q
  | cont=>exact q
  | brk=>exact⟨q⟩
  | ret v=>exact⟨q⟩
theorem gX {src:V} {g:V→Nat→St→Res Fl} {k i:Nat} (hk:0 < k) (hs:nextOf st.hp i src=some none) (h:Q .next st):W (forGo src g k i st) Q X:=by
 cases k with
 | zero=>exact absurd hk (bx _)
 | succ k=>
  show W (match nextOf st.hp i src with | .none=>Res.bad | some o=>(match o with | .none=>.ok .next st | some x=>(noEx (g x i st)).bind fun f st=>turn f st (forGo src g k (i+1)))) Q X
  rw [hs]
  exact⟨h⟩
end
theorem bM {α:Type} {l:List α} {j:Nat} {v:α} (h:l[j]?=some v):itemAt l (j:Int)=some v:=by
 have hj:=(ag.mp h).1
 unfold itemAt normIdx
 rw [if_pos ⟨bg j,ds.mpr hj⟩]
 exact h
theorem neg1 (n:Nat):((-1:Int)+n).toNat=n - 1:=by rw [Int.add_comm];exact Int.toNat_sub n 1
theorem qU {α:Type} {l:List α} {v:α} (h:l[l.length - 1]?=some v):itemAt l (-1)=some v:=by
 have hj:=(ag.mp h).1
 unfold itemAt normIdx
 rw [if_neg (fun q=>absurd q.1 (by decide)),if_pos ⟨by grind,by decide⟩]
 show l[((-1:Int)+l.length).toNat]?=_
 rw [neg1]
 exact h
theorem qT {α:Type} {l:List α} {j:Nat} (h:l.length≤j):itemAt l (j:Int)=none:=by
 unfold itemAt normIdx
 rw [if_neg (by grind),if_neg (by grind)]
 rfl
theorem okB {i:Int} (h:-10000000 < i) (h':i < 10000000):okBound (some i)=true:=decide_eq_true ⟨iq (by decide) h,iq h' (by decide)⟩
theorem okN {i:Nat} (h':i < 10000000):okBound (some (i:Int))=true:=okB (by grind) (by grind)
theorem qi {α:Type} (l:List α) (n:Nat):l.take (min n l.length)=l.take n:=by
 by_cases h:n≤l.length
 ·rw [fg h]
 ·rw [gU (by grind),bj,bX (by grind)]
theorem gM {α:Type} (l:List α) (n:Nat):cut l none (some (n:Int))=l.take n:=by
 unfold cut clamp
 dsimp only
 rw [if_neg (by grind),dP]
 exact qi l n
theorem ka {α:Type} (l:List α) (n:Nat):cut l (some (n:Int)) none=l.drop n:=by
 unfold cut clamp
 dsimp only
 rw [if_neg (by grind),bj]
 show l.drop (min n l.length)=_
 by_cases h:n≤l.length
 ·rw [fg h]
 ·rw [gU (by grind),y0,bA (by grind)]
theorem yv {α:Type} (l:List α) (n m:Nat):cut l (some (n:Int)) (some (m:Int))=(l.take m).drop n:=by
 unfold cut clamp
 dsimp only
 rw [if_neg (by grind),if_neg (by grind)]
 show (l.take (min m l.length)).drop (min n l.length)=_
 rw [qi]
 by_cases h:n≤l.length
 ·rw [fg h]
 ·rw [gU (by grind),bA (by rw [bC];grind),bA (by rw [bC];grind)]
theorem jN {α:Type} (l:List α):cut l none (some (-1))=l.dropLast:=by
 unfold cut clamp
 dsimp only
 rw [if_pos (by decide),dP,tD,neg1]
theorem d4 {call:CallT} {G:Nat→Option V} {st st':St} {Q:Fl→St→Prop} {X:St→Prop} {s:S} {ss:Ss} (h:ex call G s st = .ok .next st') (k:W (exs call G ss st') Q X):W (exs call G (.cons s ss) st) Q X:=ai (by rw [h];exact js k)
theorem cW {d f:Nat} {fd:FD} {vs:List V} {σ:Hp} (fv:List (Option V)) {P:V→Hp→Prop} (hf:FT f=some fd) (hv:frame fd vs=some fv)
  (h:∀ R:Fl→St→Prop,(∀ v st,P v st.hp→R (.ret v) st)→W (exs (CN d) GT fd.body ⟨fv,σ⟩) R NX):Cal (d+1) f vs σ P:=by
 refine B7 hf hv (bi (h (fun fl st=>match fl with | .ret v=>P v st.hp | _=>False) fun v st p=>p) (fun fl st p=>?_) fun _ h=>h)
 cases fl with
 | ret v=>exact p
 | next=>exact p.elim
 | brk=>exact p.elim
 | cont=>exact p.elim
abbrev CalP (d f:Nat) (vs:List V) (v:V):Prop:=∀ σ,Cal d f vs σ fun w σ'=>w=v∧σ'=σ
theorem cM {d f:Nat} {vs:List V} {st:St} {v:V} {Q:V→St→Prop} {X:St→Prop} (c:CalP d f vs v) (h:Q v st):W (callR (CN d) f vs st) Q X:=
 dE (c st.hp) fun _ _ ⟨e,e'⟩=>by rw [e,e'];exact h
inductive FI {α:Type} (f:α→List (Option V)) (P:α→Hp→Prop):St→Prop
 | mk (a:α) (σ:Hp) (h:P a σ):FI f P ⟨f a,σ⟩
theorem fM {σ:Hp} {u j:Nat} {l:List V} (h:σ[u]?=some l):nextOf σ j (.loc u)=some l[j]?:=by show cX _ _=_;rw [h];rfl
theorem iT {α:Type} {f:Nat→α} {c:Nat} (h:c < 256):((bZ 256).map f)[c]?=some (f c):=by
 rw [aN,List.getElem?_range h];rfl
theorem od {d c:Nat} (hc:c < 256):CalP (d+1) 1 [.str [c]] (.str (quoted c)):=fun σ=>by
 refine cW [some (.str [c])] rfl rfl fun R hR=>?_
 refine ai (dd (cY (lw rfl (eT (ah rfl (Av ?_))))))
 exact AW (bM (iT hc)) (hR _ _ ⟨rfl,rfl⟩)
theorem dU {d:Nat} (s:List Nat):CalP (d+1) 4 [.str s] (.str s):=fun σ=>by
 refine cW [some (.str s),none,none,none] rfl rfl fun R hR=>?_
 refine d4 (st':=⟨[some (.str s),some .tstr,none,none],σ⟩) rfl ?_
 exact ai (ch (dn (zn (ah rfl ⟨rfl,true,rfl,ifT (ai (dd (ah rfl (hR _ _ ⟨rfl,rfl⟩))))⟩))))
theorem ji {d:Nat} (s:List Nat):CalP (d+1) 5 [.str s] (.str [47]):=fun σ=>by
 refine cW [some (.str s)] rfl rfl fun R hR=>?_
 exact ai (ch (dn (nr (ah rfl ⟨false,rfl,ifF (ai (dd (bb (hR _ _ ⟨rfl,rfl⟩))))⟩))))
theorem rt {d x y h l:Nat} (hx:hexVal x=some h) (hy:hexVal y=some l) (hl:16 * h+l < 1114112):CalP (d+1) 0 [.str [61,x,y]] (.str [16 * h+l]):=fun σ=>by
 refine cW [some (.str [61,x,y])] rfl rfl fun R hR=>?_
 refine ai (dd (eT ?_))
 refine aK (jV (ah rfl (bb (bb (d3 (by decide) ?_)))))
 show W (int16V (.str [x,y]) _) _ _
 refine wG hx hy ?_
 show W (b1V .chr (.int ((16 * h+l:Nat):Int)) _) _ _
 with_reducible refine wN hl ?_
 exact hR _ _ ⟨rfl,rfl⟩
theorem yJ {d:Nat} {a b:List Nat} (ha:a≠[]) (hb:[47].isPrefixOf b=false) (hl:a.length+b.length+1≤1000000) :
  CalP (d+2) 6 [.str a,.str b] (.str (if [47].isSuffixOf a then a++b else a++([47]++b))):=fun σ=>by
 refine cW [some (.str a),some (.tup [.str b]),none,none,none] rfl rfl fun R hR=>?_
 refine ai (aM (bN (aB (ah rfl (bc (cM (dU a) ?_))))))
 refine ai (aM (bN (aB (ah rfl (bc (cM (ji a) ?_))))))
 refine d4 (st':=⟨[some (.str a),some (.tup [.str b]),some (.str [47]),some (.str a),none],σ⟩) rfl ?_
 refine ai (rO (ai (eQ (ah rfl (eR (x:=.str b) (by decide) rfl ?_)))))
 refine ai (aM (bN (aB (ah rfl (bc (cM (dU b) ?_))))))
 refine ai (ch (wQ (nl (dn (jw (ah rfl (ah rfl (lk ⟨_,rfl,?_⟩))))))))
 rw [hb]
 refine ifF (nl (nq (dn (ah rfl ⟨true,by cases a with | nil=>exact absurd rfl ha | cons x xs=>rfl,ifF ?_⟩))))
 refine wz (ifF (ai (ch (dn (jw (ah rfl (ah rfl (wJ ⟨_,rfl,?_⟩))))))))
 have h1:(a++b).length≤LIM:=by rw [aa];show _≤1000000;grind
 have h2:(a++([47]++b)).length≤LIM:=by rw [aa,aa];show _+(1+_)≤1000000;grind
 have h3:([47]++b).length≤LIM:=by rw [aa];show 1+_≤1000000;grind
 cases hs:[47].isSuffixOf a with
 | true=>
  refine ifT (ai (pZ rfl (ah rfl (oF h1 ?_))))
  refine aJ (aJ (aJ (gX (by decide) rfl ?_)))
  exact aJ (ai (dd (ah rfl (hR _ _ ⟨by rw [hs];rfl,rfl⟩))))
 | false=>
  refine ifF (ai (pZ rfl (df (ah rfl (ah rfl (rW h3 (oF h2 ?_)))))))
  refine aJ (aJ (aJ (gX (by decide) rfl ?_)))
  exact aJ (ai (dd (ah rfl (hR _ _ ⟨by rw [hs];rfl,rfl⟩))))
def NoEnd (t:List Nat):Prop:=t=[]∨∃ u x,t=u++[x]∧x≠47
noncomputable def pdir (t:List Nat):List Nat:=if t=[] then [47] else t
theorem q7 (p:Nat→Bool) (l r:List Nat) (x:Nat) (hl:∀ y∈l,p y=false) (hx:p x=true):(l++x::r).findIdx? p=some l.length:=by
 induction l with
 | nil=>show (x::r).findIdx? p=_;rw [jS,hx];rfl
 | cons a l ih=>
  show (a::(l++x::r)).findIdx? p=_
  rw [jS,hl a (.head _),ih fun y hy=>hl y (.tail _ hy)]
  rfl
theorem nJ {t c:List Nat} (hc:47∉c):rfindL 47 (t++47::c)+1=((t.length+1:Nat):Int):=by
 have e:(t++47::c).reverse=c.reverse++47::t.reverse:=by rw [fj,kE,aw];rfl
 unfold rfindL
 rw [e,q7 (· == 47) c.reverse t.reverse 47 (fun y hy=>beq_eq_false_iff_ne.mpr fun q=>hc (by rw [←q];exact yY.mp hy)) rfl]
 show ((t++47::c).length:Int) - 1 - (c.reverse.length:Int)+1=_
 rw [aa,wd]
 show ((t.length+(c.length+1):Nat):Int) - 1 - (c.length:Int)+1=_
 grind
theorem qh (t c:List Nat):(t++47::c).take (t.length+1)=t++[47]:=by
 induction t with
 | nil=>rfl
 | cons x t ih=>exact congrArg (x::·) ih
theorem yq (t c:List Nat):(t++47::c).drop (t.length+1)=c:=by
 induction t with
 | nil=>rfl
 | cons x t ih=>exact ih
theorem sv {u:List Nat} {x:Nat} (hx:x≠47):rstripL [47].contains (u++[x]++[47])=u++[x]:=by
 unfold rstripL
 rw [fj,fj]
 show ((47::x::u.reverse).dropWhile _).reverse=_
 have h1:[47].contains 47=true:=by decide
 have h2:[47].contains x=false:=by
  cases h:[47].contains x with
  | false=>rfl
  | true=>exact absurd (ay.mp (List.contains_iff_mem.mp h)) hx
 rw [List.dropWhile_cons_of_pos h1,List.dropWhile_cons_of_neg (by rw [h2];exact aA),kE,ur]
theorem z7 {n x:Nat}:x∈(bB n [47]).flatten→x=47:=by
 intro h
 obtain⟨l,h1,h2⟩:=List.mem_flatten.mp h
 rw [(List.mem_replicate.mp h1).2] at h2
 exact ay.mp h2
theorem aQ {n:Nat} (h:n≤1000000):n≤LIM:=h
theorem jO {s t:List Nat} {σ:Hp} (h:s≠t):cmpop .ne (.str s) (.str t) σ=some true:=by
 show some (!decide (s=t))=_
 rw [decide_eq_false h];rfl
theorem il {s:List Nat} {σ:Hp}:cmpop .ne (.str s) (.str s) σ=some false:=by
 show some (!decide (s=s))=_
 rw [decide_eq_true rfl];rfl
section
variable {t c:List Nat}
theorem tH {d:Nat} {st:St} {ss:Ss} {R:Fl→St→Prop} (ht:NoEnd t) (hl:t.length < 1000) (hp:st.fv[3]?=some (some (.str (t++[47])))) (hs:st.fv[1]?=some (some (.str [47])))
  (k:∀ v,v=pdir t→W (exs (CN d) GT ss (if t=[] then st else setVar st 3 (.str (pdir t)))) R NX) :
  W (exs (CN d) GT (.cons (.ifS (.and (.cons (.val (.var 3)) (.cons (.cmp .ne (.var 3) (.bin .mul (.var 1) (.b1 .len (.var 3)))) .nil))) (.cons (.assign 3 (.m1 .rstrip (.var 3) (.var 1))) .nil) .nil) ss) st) R NX:=by
 have hn:(t++[47]).length=t.length+1:=by rw [aa];rfl
 refine ai (ch (fL (cD (dn (ah hp ⟨true,by cases t<;>rfl,ifT (cD (bu (ah hp (df (ah hs (eT (ah hp (lm ?_))))))))⟩)))))
 rw [hn]
 refine AS (by grind) (by decide) ?_
 rcases ht with rfl | ⟨u,x,rfl,hx⟩
 ·exact⟨false,il,ifF (ifF (aJ (k _ rfl)))⟩
 ·have hne:¬(u++[x]++[47]=(bB ((u++[x]).length+1) [47]).flatten):=fun q=>hx (z7 (n:=(u++[x]).length+1) (by rw [←q];exact cm _ (bm _ (.head _))))
  have hne':¬u++[x]=[]:=fun q=>by cases u<;>cases q
  have kk:=k _ rfl
  rw [if_neg hne'] at kk
  unfold pdir at kk
  rw [if_neg hne'] at kk
  refine⟨true,jO hne,ifT (eV (ifT (ai (aM (jw (ah hp (ah hs (uD ?_))))))))⟩
  rw [sv hx]
  exact aJ kk
theorem vT {d:Nat} (hc:47∉c) (ht:NoEnd t) (hl:t.length+c.length+1 < 1000):CalP (d+2) 7 [.str (t++47::c)] (.tup [.str (pdir t),.str c]):=fun σ=>by
 refine cW [some (.str (t++47::c)),none,none,none,none] rfl rfl fun R hR=>?_
 refine ai (aM (bN (aB (ah rfl (bc (cM (dU _) ?_))))))
 refine ai (aM (bN (aB (ah rfl (bc (cM (ji _) ?_))))))
 refine ai (aM (df (jw (ah rfl (ah rfl (tI (bb (eW ?_))))))))
 rw [nJ hc]
 refine ai (uC (dZ (aB (cA (ah rfl (ah rfl (d3 (by rw [okN (by grind)];rfl) (aB (iz (ah rfl (ah rfl (d3 (by rw [okN (by grind)];rfl) (bc (cw (aQ (aq rfl)) ⟨rfl,?_⟩))))))))))))))
 rw [gM,ka,qh,yq]
 refine tH ht (by grind) rfl rfl fun v _=>?_
 refine ai (dd (dZ (aB (ah (v:=.str (pdir t)) ?_ (aB (ah (v:=.str c) ?_ (bc (cw (aQ (aq rfl)) (hR _ _ ⟨rfl,?_⟩)))))))))
 all_goals
  by_cases h:t=[]
  ·rw [if_pos h,h];rfl
  ·rw [if_neg h];rfl
theorem rA {d:Nat} (hc:47∉c) (ht:NoEnd t) (hl:t.length+c.length+1 < 1000):CalP (d+2) 8 [.str (t++47::c)] (.str (pdir t)):=fun σ=>by
 refine cW [some (.str (t++47::c)),none,none,none] rfl rfl fun R hR=>?_
 refine ai (aM (bN (aB (ah rfl (bc (cM (dU _) ?_))))))
 refine ai (aM (bN (aB (ah rfl (bc (cM (ji _) ?_))))))
 refine ai (aM (df (jw (ah rfl (ah rfl (tI (bb (eW ?_))))))))
 rw [nJ hc]
 refine ai (aM (cA (ah rfl (ah rfl (d3 (by rw [okN (by grind)];rfl) ?_)))))
 rw [gM,qh]
 refine tH ht (by grind) rfl rfl fun v _=>?_
 refine ai (dd (ah (v:=.str (pdir t)) ?_ (hR _ _ ⟨rfl,?_⟩)))
 all_goals
  by_cases h:t=[]
  ·rw [if_pos h,h];rfl
  ·rw [if_neg h];rfl
end
section
variable {src:V} {g:V→St→Res (List V)} {X:St→Prop} {st:St} {k i:Nat}
def pMore (src:V) (g:V→St→Res (List V)) (k i:Nat) (Q:List V→St→Prop) (X:St→Prop) (ys:List V) (st:St):Prop:=W (compGo src g k i st) (pPre ys Q) X
def pFr (fv:List (Option V)) (Q:V→St→Prop) (X:St→Prop) (r:List V) (st':St):Prop:=W (alloc r { st' with fv:=fv }) Q X
theorem fD {Q:List V→St→Prop} {x:V} (hk:0 < k) (hs:nextOf st.hp i src=some (some x))
  (h:W (g x st) (pMore src g (k - 1) (i+1) Q X) NX):W (compGo src g k i st) Q X:=by
 cases k with
 | zero=>exact absurd hk (bx _)
 | succ k=>
  show W (match nextOf st.hp i src with | .none=>Res.bad | some o=>(match o with | .none=>.ok [] st | some x=>(noEx (g x st)).bind fun ys st=>(compGo src g k (i+1) st).bind fun zs st=>.ok (ys++zs) st)) _ X
  rw [hs]
  exact aK (i6 (bi h (fun ys st q=>aK (bi q (fun zs st q=>js q) fun _ h=>h)) fun _ h=>h))
theorem kP {Q:List V→St→Prop} (hk:0 < k) (hs:nextOf st.hp i src=some none) (h:Q [] st):W (compGo src g k i st) Q X:=by
 cases k with
 | zero=>exact absurd hk (bx _)
 | succ k=>
  show W (match nextOf st.hp i src with | .none=>Res.bad | some o=>(match o with | .none=>.ok [] st | some x=>(noEx (g x st)).bind fun ys st=>(compGo src g k (i+1) st).bind fun zs st=>.ok (ys++zs) st)) _ X
  rw [hs]
  exact js h
theorem fC {Q:V→St→Prop} (h:W (compGo src g FUEL 0 st) (pFr st.fv Q X) X):W (compV src g st) Q X:=aK h
theorem fX {Q:List V→St→Prop} (I:Nat→List V→St→Prop) (l:List V) (hsrc:∀ i o st,I i o st→nextOf st.hp i src=some l[i]?)
  (turn:∀ i x o st,l[i]?=some x→I i o st→W (g x st) (pAdd I i o) NX) (fin:∀ o st,I l.length o st→Q o st) (hk:l.length < k) (h:I 0 [] st):W (compGo src g k 0 st) Q X:=
 wL I l hsrc turn fin k 0 [] st (aD _) hk h
def IsR (f:V→List V) (x:V) (st:St) (ys:List V) (st':St):Prop:=ys=f x∧st'=st
theorem lA {l:List V} {f:V→List V} {Q:List V→St→Prop} (hsrc:∀ i,nextOf st.hp i src=some l[i]?) (turn:∀ x∈l,W (g x st) (IsR f x st) NX) (h:Q (l.flatMap f) st) (hk:l.length < k):W (compGo src g k 0 st) Q X:=by
 refine fX (I:=fun i o st'=>o=(l.take i).flatMap f∧st'=st) l (fun i o st' h=>by rw [h.2];exact hsrc i) (fun i x o st' hx h=>?_) (fun o st' h=>?_) hk ⟨rfl,rfl⟩
 ·obtain⟨e1,rfl⟩:=h
  refine bi (turn x (ac hx)) (fun ys st'' q=>⟨?_,q.2⟩) fun _ h=>h
  obtain⟨hi,rfl⟩:=ag.mp hx
  rw [q.1,e1,av hi,cP]
  show _=_++(f l[i]++[])
  rw [al]
 ·obtain⟨e1,rfl⟩:=h
  rw [e1,bj];assumption
end
section
variable {call:CallT} {G:Nat→Option V} {st:St} {Q:Fl→St→Prop} {X:St→Prop}
def pSetc2 (i:Nat) (fv:List (Option V)) (Q:Fl→St→Prop) (r:List V) (st':St):Prop:=(!r.isEmpty&&allT r)=true∧Q .next (setVar { st' with fv:=fv } i (.bool true))
def pSetc (call:CallT) (G:Nat→Option V) (i:Nat) (elt:E) (Q:Fl→St→Prop) (X:St→Prop) (x:V) (st:St):Prop:=W (compGo x (gComp call G elt) FUEL 0 st) (pSetc2 i st.fv Q) X
theorem AQ {i:Nat} {elt it:E} (h:W (ev call G .none it st) (pSetc call G i elt Q X) X):W (ex call G (.setc i elt it) st) Q X:=
 aK (bi h (fun _ _ h=>aK (bi h (fun r _ ⟨e,q⟩=>c9 e (js q)) fun _ h=>h)) fun _ h=>h)
noncomputable def gMap (call:CallT) (f:Nat) (y:V) (st:St):Res (List V):=(callR call f [y] st).bind fun r st=>.ok [r] st
theorem zk {f:Nat} {n:Nat} {Q:V→St→Prop} (h:W (compGo (.loc n) (gMap call f) FUEL 0 st) (pTup Q X) X):W (tmapV call f (.loc n) st) Q X:=aK h
def pOne (Q:List V→St→Prop) (r:V) (st:St):Prop:=Q [r] st
def pEltIf (call:CallT) (G:Nat→Option V) (cv:Option V) (elt:E) (Q:List V→St→Prop) (X:St→Prop) (b:Bool) (st:St):Prop:=if b then W (ev call G cv elt st) (pOne Q) X else Q [] st
theorem wA {r:Res V} {Q:List V→St→Prop} (h:W r (pOne Q) X):W (r.bind fun r st=>.ok [r] st) Q X:=aK (bi h (fun _ _ q=>js q) fun _ h=>h)
theorem iO {y:V} {elt:E} {Q:List V→St→Prop} (h:W (ev call G (some y) elt st) (pOne Q) X):W (gComp call G elt y st) Q X:=wA h
theorem kO {y:V} {elt:E} {c:T} {Q:List V→St→Prop} (h:W (evT call G (some y) c st) (pEltIf call G (some y) elt Q X) X):W (gCompIf call G elt c y st) Q X:=
 aK (bi h (fun b _ q=>by cases b with | true=>exact iO q | false=>exact js q) fun _ h=>h)
theorem Ce {n i j:Nat} {p q:List V} {ps qs:List (List Nat)} {Q:V→St→Prop} (h:st.hp[n]?=some [.loc i,.loc j]) (hi:st.hp[i]?=some p) (hj:st.hp[j]?=some q) (hp:strsOf p=some ps) (hq:strsOf q=some qs)
  (k:Q (.loc (if ltS qs ps then j else i)) st):W (b1V .min (.loc n) st) Q X:=d5 h (d5 hi (d5 hj (de hp (de hq (js k)))))
theorem Cf {n i j:Nat} {p q:List V} {ps qs:List (List Nat)} {Q:V→St→Prop} (h:st.hp[n]?=some [.loc i,.loc j]) (hi:st.hp[i]?=some p) (hj:st.hp[j]?=some q) (hp:strsOf p=some ps) (hq:strsOf q=some qs)
  (k:Q (.loc (if ltS ps qs then j else i)) st):W (b1V .max (.loc n) st) Q X:=d5 h (d5 hi (d5 hj (de hp (de hq (js k)))))
theorem zl {s:List Nat} {c:Nat} {Q:V→St→Prop} (hs:s.length≤LIM) (hl:(splitL c s).length≤LIM) (k:Q (.loc st.hp.length) { st with hp:=st.hp++[(splitL c s).map .str] }):W (m1V .split s (.str [c]) st) Q X:=
 c9 (decide_eq_true hs) (jy (by rw [ae];exact hl) k)
end
theorem nF (s:List Nat) (c:Nat):(splitL c s).length≤s.length+1:=by
 induction s with
 | nil=>exact am _
 | cons d s ih=>
  show (if d=c then []::splitL c s else match splitL c s with | x::xs=>(d::x)::xs | []=>[[d]]).length≤_
  by_cases h:d=c
  ·rw [if_pos h];exact ez ih
  ·rw [if_neg h]
   cases hq:splitL c s with
   | nil=>exact cG _ _
   | cons x xs=>rw [hq] at ih;exact cq ih
section
variable {st:St} {X:St→Prop} {Q:V→St→Prop}
theorem bG {l:List V} (hl:l.length≤LIM) (k:∀ n σ',Ext st.hp σ'→st.hp.length≤n→σ'[n]?=some l→Q (.loc n) { st with hp:=σ' }):W (alloc l st) Q X:=
 jy hl (k _ _ (Ext.snoc _ _) (am _) (dj _ _))
theorem pU {s:List Nat} {c:Nat} (hs:s.length < LIM) (k:∀ n σ',Ext st.hp σ'→st.hp.length≤n→σ'[n]?=some ((splitL c s).map .str)→Q (.loc n) { st with hp:=σ' }):W (m1V .split s (.str [c]) st) Q X:=
 zl (aW hs) (aj (nF s c) hs) (k _ _ (Ext.snoc _ _) (am _) (dj _ _))
end
theorem eX (l:List (List Nat)):strsOf (l.map .str)=some l:=by
 induction l with
 | nil=>rfl
 | cons x l ih=>show (strsOf (l.map .str)).map (x::·)=_;rw [ih];rfl
noncomputable def body (P:List (List Nat)):List Nat:=P.flatMap (47::·)
noncomputable def text (P:List (List Nat)):List Nat:=pdir (body P)
structure Part (c:List Nat):Prop where
 ne:c≠[]
 sep:47∉c
 dot:c≠[46]
theorem rD (P R:List (List Nat)):body (P++R)=body P++body R:=cP
theorem oj (P:List (List Nat)) (c:List Nat):body (P++[c])=body P++47::c:=by
 rw [rD];show _++(47::c++[])=_;rw [al]
theorem rC {P:List (List Nat)}:body P=[]↔P=[]:=by
 cases P with
 | nil=>exact⟨fun _=>rfl,fun _=>rfl⟩
 | cons c P=>exact⟨fun h=>(by cases h),fun h=>(by cases h)⟩
theorem eH (c:List Nat) (P:List (List Nat)):text (c::P)=body (c::P):=by
 unfold text pdir
 exact if_neg fun h=>by cases rC.mp h
theorem jX (P:List (List Nat)) (c:List Nat):text (P++[c])=body P++47::c:=by
 unfold text pdir
 rw [if_neg (fun h=>by have:=rC.mp h;cases P<;>cases this),oj]
theorem jk {P:List (List Nat)} (h:∀ c∈P,Part c):NoEnd (body P):=by
 rcases tC P with rfl | ⟨R,c,rfl⟩
 ·exact .inl rfl
 ·obtain p:=h c (by rw [d9];exact bm _ (.head _))
  rcases tC c with rfl | ⟨u,x,rfl⟩
  ·exact absurd rfl p.ne
  ·refine .inr ⟨body R++47::u,x,by rw [d9,oj,d9,aw];rfl,fun q=>p.sep ?_⟩
   rw [q,d9];exact bm _ (.head _)
theorem sq:∀ (P:List (List Nat)) (c:List Nat),47∉c→(∀ c∈P,Part c)→splitL 47 (c++body P)=c::P:=by
 intro P
 induction P with
 | nil=>
  intro c hc _
  induction c with
  | nil=>rfl
  | cons x c ih=>
   show (if x=47 then _ else match splitL 47 (c++body []) with | y::ys=>(x::y)::ys | []=>[[x]])=_
   rw [if_neg (fun q=>hc (by rw [q];exact .head _)),ih fun q=>hc (.tail _ q)]
 | cons e P ihP=>
  intro c hc hP
  induction c with
  | nil=>
   show []::splitL 47 (e++body P)=_
   rw [ihP e (hP e (.head _)).sep fun c hc=>hP c (.tail _ hc)]
  | cons x c ih=>
   show (if x=47 then _ else match splitL 47 (c++body (e::P)) with | y::ys=>(x::y)::ys | []=>[[x]])=_
   rw [if_neg (fun q=>hc (by rw [q];exact .head _)),ih fun q=>hc (.tail _ q)]
noncomputable def pt (v:V):List V:=match v with
 | .str s=>if s≠[]∧s≠[46] then [.str s] else []
 | _=>[]
theorem xz:∀ {P:List (List Nat)},(∀ c∈P,Part c)→(P.map V.str).flatMap pt=P.map .str:=by
 intro P
 induction P with
 | nil=>intro _;rfl
 | cons c P ih=>
  intro h
  have p:=h c (.head _)
  show pt (.str c)++(P.map V.str).flatMap pt=_
  rw [ih fun c hc=>h c (.tail _ hc)]
  show (if c≠[]∧c≠[46] then [V.str c] else [])++_=_
  rw [if_pos ⟨p.ne,p.dot⟩];rfl
theorem zX {P:List (List Nat)} (h:∀ c∈P,Part c):((splitL 47 (text P)).map V.str).flatMap pt=P.map .str:=by
 cases P with
 | nil=>show (([[],[]]:List (List Nat)).map V.str).flatMap pt=_;rfl
 | cons c P=>
  rw [eH,show body (c::P)=[]++body (c::P) from rfl,sq (c::P) [] (fun q=>nomatch q) h]
  show pt (.str [])++((c::P).map V.str).flatMap pt=_
  rw [xz h];rfl
theorem sT:∀ (P:List (List Nat)) (c:List Nat),[47]++joinL [47] (c::P)=body (c::P):=by
 intro P
 induction P with
 | nil=>intro c;show _=47::c++[];rw [al];rfl
 | cons e P ih=>intro c;show 47::(c++[47]++joinL [47] (e::P))=47::c++body (e::P);rw [←ih e,aw];rfl
theorem mn (P:List (List Nat)):[47]++joinL [47] P=text P:=by
 cases P with
 | nil=>rfl
 | cons c P=>rw [sT,eH]
theorem jC {P:List (List Nat)}:(text P).length≤(body P).length+1:=by
 unfold text pdir
 by_cases h:body P=[]
 ·rw [if_pos h];exact cG _ _
 ·rw [if_neg h];exact bv _
theorem Cs {α:Type} [DecidableEq α] (p:List α):lcp p p=p:=by
 induction p with
 | nil=>rfl
 | cons x p ih=>rw [ib,ih]
theorem xN {α:Type} [DecidableEq α]:∀ (p q:List α),lcp p q=lcp q p:=by
 intro p
 induction p with
 | nil=>intro q;cases q<;>rfl
 | cons x p ih=>
  intro q
  cases q with
  | nil=>rfl
  | cons y q=>
   by_cases h:x=y
   ·subst h;rw [ib,ib,ih]
   ·show (if x=y then _ else _)=if y=x then _ else _
    rw [if_neg h,if_neg (Ne.symm h)]
theorem Ab {α:Type} [DecidableEq α] {x y:α} (h:x≠y) (p a b:List α):lcp (p++x::a) (p++y::b)=p:=by
 rw [pi]
 show p++(if x=y then _ else _)=p
 rw [if_neg h,al]
noncomputable def ltN (x y:List Nat):Bool:=decide (x < y)
theorem xL (p q:List (List Nat)):ltS p q=lx ltN p q:=by
 induction p generalizing q with
 | nil=>cases q<;>rfl
 | cons x p ih=>
  cases q with
  | nil=>rfl
  | cons y q=>show (if x=y then ltS p q else _)=if x=y then lx ltN p q else _;rw [ih];rfl
theorem oX (x y:List Nat):ltN x y=lx (fun a b=>decide (a < b)) x y:=by
 induction x generalizing y with
 | nil=>cases y with
  | nil=>rfl
  | cons b y=>exact decide_eq_true (List.nil_lt_cons b y)
 | cons a x ih=>
  cases y with
  | nil=>exact decide_eq_false (List.not_lt_nil _)
  | cons b y=>
   by_cases h:a=b
   ·subst h
    rw [cC,←ih]
    unfold ltN
    by_cases q:x < y
    ·rw [decide_eq_true q,decide_eq_true (d8.mpr (.inr ⟨rfl,q⟩))]
    ·rw [decide_eq_false q,decide_eq_false fun z=>(d8.mp z).elim (bx _) fun z=>q z.2]
   ·rw [dl h]
    unfold ltN
    by_cases q:a < b
    ·rw [decide_eq_true q,decide_eq_true (d8.mpr (.inl q))]
    ·rw [decide_eq_false q,decide_eq_false fun z=>(d8.mp z).elim q fun z=>h z.1]
theorem zZ:STO fun a b:Nat=>decide (a < b) where
 irr:=fun a=>decide_eq_false (bx a)
 tr:=fun a b c h1 h2=>decide_eq_true (bw (of_decide_eq_true h1) (of_decide_eq_true h2))
 tot:=fun a b h=>(fP h).elim (fun q=>.inl (decide_eq_true q)) fun q=>.inr (decide_eq_true q)
theorem nE {α:Type} {r s:α→α→Bool} (h:∀ a b,r a b=s a b) (o:STO s):STO r:=by
 have:r=s:=funext fun a=>funext (h a)
 rw [this];exact o
theorem dF:STO ltN:=nE oX (me zZ)
theorem oZ:STO ltS:=nE xL (me dF)
theorem wM {d n1 n2:Nat} {ps qs:List (List Nat)} {σ:Hp} {X:St→Prop} {Q:Fl→St→Prop} {a b:Option V} (v0 v1 v2 v3 v4 v10:Option V)
  (h1:σ[n1]?=some (ps.map .str)) (h2:σ[n2]?=some (qs.map .str)) (hlt:ltS qs ps=false) (hl:ps.length < 1000)
  (k:∀ n σ' a b,Ext σ σ'→σ'[n]?=some ((lcp ps qs).map .str)→Q .next ⟨[v0,v1,v2,v3,v4,a,some (.loc n1),some (.loc n2),some (.loc n),b,v10],σ'⟩) :
  W (forGo (.loc n1) (fun y k st=>exs (CN d) GT (.cons (.ifS (.cmp .ne (.var 5) (.idx (.var 7) (.var 9))) (.cons (.assign 8 (.sliceHi (.var 6) (.var 9))) (.cons .brk .nil)) .nil) .nil) (setVar (setVar st 9 (.int k)) 5 y)) FUEL 0
   ⟨[v0,v1,v2,v3,v4,a,some (.loc n1),some (.loc n2),some (.loc n1),b,v10],σ⟩) Q X:=by
 refine kq (I:=fun i st=>(∃ a b,st=⟨[v0,v1,v2,v3,v4,a,some (.loc n1),some (.loc n2),some (.loc n1),b,v10],σ⟩)∧qs.take i=ps.take i) (ps.map .str) (fun i st ⟨⟨a,b,e⟩,_⟩=>by rw [e];show (σ[n1]?).map _=_;rw [h1];rfl)
  (fun i x st hx ⟨⟨a,b,e⟩,hp⟩=>?_) (fun st ⟨⟨a,b,e⟩,hp⟩=>?_) _ _ _ (aD _) (by rw [ae];show ps.length - 0 < 100000;grind) ⟨⟨a,b,rfl⟩,rfl⟩
 ·rw [e]
  rw [aN] at hx
  obtain⟨p,hp1,rfl⟩:=aF.mp hx
  obtain⟨hi,rfl⟩:=ag.mp hp1
  have hps:ps=ps.take i++ps[i]::ps.drop (i+1):=by rw [rL];exact (cc i ps).symm
  obtain⟨q,hq⟩:∃ q,qs[i]?=some q:=by
   cases hq:qs[i]? with
   | some q=>exact⟨q,rfl⟩
   | none=>
    have hle:=bq.mp hq
    rw [bX hle] at hp
    rw [hp,xL] at hlt
    have:=sM (r:=ltN) (ps.take i) (x:=ps[i]::ps.drop (i+1)) (fun h=>nomatch h)
    rw [←hps,hlt] at this
    cases this
  obtain⟨hj,rfl⟩:=ag.mp hq
  have hqs:qs=ps.take i++qs[i]::qs.drop (i+1):=by rw [←hp,rL];exact (cc i qs).symm
  have hq':(qs.map V.str)[i]?=some (.str qs[i]):=by rw [aN,hq];rfl
  refine ai (ch (bu (ah rfl (cY (ah rfl (ah rfl (eP h2 (bM hq') ?_)))))))
  by_cases hc:ps[i]=qs[i]
  ·rw [hc]
   refine⟨false,il,ifF (aJ (aJ ⟨⟨_,_,rfl⟩,?_⟩))⟩
   rw [av hi,av hj,hp,hc]
  ·refine⟨true,jO hc,ifT (ai (aM (cA (ah rfl (ah rfl (fW h1 (by rw [okN (by grind)];rfl) ?_ ?_))))))⟩
   ·rw [gM,bC,ae];exact aj (eA _ _) (aQ (by grind))
   ·refine ai (Ax (k _ _ _ _ (Ext.snoc _ _) ?_))
    rw [gM]
    refine (dj _ _).trans ?_
    rw [←pQ]
    conv=>rhs;rw [hps,hqs,Ab hc]
 ·rw [e]
  rw [ae,bj] at hp
  refine k _ _ _ _ (Ext.refl _) ?_
  rw [h1]
  have:lcp ps qs=ps:=by
   have e:=cc ps.length qs
   rw [hp] at e
   conv=>lhs;rw [←e]
   have:=pi ps [] (qs.drop ps.length)
   rw [al] at this
   rw [this]
   show ps++lcp [] _=ps
   cases qs.drop ps.length<;>exact al _
  rw [this]
theorem tK {d n:Nat} {P:List (List Nat)} {st:St} {Q:V→St→Prop} {X:St→Prop} (hP:∀ c∈P,Part c) (lP:(text P).length < 1000) (nP:P.length < 1000) (h:st.hp[n]?=some ((splitL 47 (text P)).map .str)) (h2:st.fv[2]?=some (some (.str [46])))
  (k:∀ m σ',Ext st.hp σ'→σ'[m]?=some (P.map .str)→Q (.loc m) { st with hp:=σ' }):W (ev (CN d) GT (some (.loc n)) (.compIf .cv .cv (.and (.cons (.val .cv) (.cons (.cmp .ne .cv (.var 2)) .nil)))) st) Q X:=by
 refine lB (iM (fC (lA (l:=(splitL 47 (text P)).map .str) (f:=pt) (fun i=>by show (st.hp[n]?).map _=_;rw [h];rfl) (fun x hx=>?_) ?_ ?_)))
 ·obtain⟨s,_,rfl⟩:=bE.mp hx
  cases s with
  | nil=>exact kO (fL (cD (dn (iM ⟨false,rfl,ifF (ifF ⟨rfl,rfl⟩)⟩))))
  | cons y s=>
   refine kO (fL (cD (dn (iM ⟨true,rfl,ifT (cD (bu (iM (ah h2 ?_))))⟩))))
   by_cases hq:y::s=[46]
   ·rw [hq];exact⟨false,il,ifF (ifF ⟨rfl,rfl⟩)⟩
   ·exact⟨true,jO hq,ifT (eV (ifT (iM ⟨(if_pos ⟨(fun q=>nomatch q),hq⟩:pt (.str (y::s))=_).symm,rfl⟩)))⟩
 ·rw [zX hP]
  exact bG (by rw [ae];exact aQ (by grind)) fun m σ' e _ g=>k m σ' e g
 ·rw [ae]
  exact aC (nF _ _) (by show _ < 100000;grind)
theorem mD {d n:Nat} {P R:List (List Nat)} {σ:Hp} (hP:∀ c∈P,Part c) (hR:∀ c∈R,Part c) (lP:(body P).length < 900) (lR:(body R).length < 900) (nP:P.length < 100) (nR:R.length < 100) (hn:σ[n]?=some [.str (text P),.str (text R)]) :
  Cal (d+2) 9 [.loc n] σ fun v σ'=>v = .str (text (lcp P R))∧Ext σ σ':=by
 refine cW [some (.loc n),none,none,none,none,none,none,none,none,none,none] rfl rfl fun K hK=>?_
 have tP:=jC (P:=P)
 have tR:=jC (P:=R)
 refine ai (aM (AP (ah rfl (zk ?_))))
 refine fD (x:=.str (text P)) (by decide) (by show (σ[n]?).map _=_;rw [hn];rfl) (wA (cM (dU _) ?_))
 refine fD (x:=.str (text R)) (by decide) (by show (σ[n]?).map _=_;rw [hn];rfl) (wA (cM (dU _) ?_))
 refine kP (by decide) (by show (σ[n]?).map _=_;rw [hn];rfl) (cw (aQ (aq rfl)) ?_)
 refine ai (ch (nq (dn (ah rfl ⟨true,rfl,ifF (aJ ?_)⟩))))
 refine ai (ch (dn (nr (cY (ah rfl (bb (oD (v:=.str (text P)) rfl ⟨false,rfl,ifF ?_⟩)))))))
 refine d4 (st':=⟨[some (.tup [.str (text P),.str (text R)]),some (.str [47]),none,none,none,none,none,none,none,none,none],σ⟩) rfl ?_
 refine d4 (st':=⟨[some (.tup [.str (text P),.str (text R)]),some (.str [47]),some (.str [46]),none,none,none,none,none,none,none,none],σ⟩) rfl ?_
 refine aJ (ai (rO (ai (wO (lC (ah rfl (fC ?_)))))))
 refine fD (x:=.str (text P)) (by decide) rfl (iO (jw (iM (ah rfl (pU (by show _ < 1000000;grind) fun a σ1 x1 _ g1=>?_)))))
 refine fD (x:=.str (text R)) (by decide) rfl (iO (jw (iM (ah rfl (pU (by show _ < 1000000;grind) fun b σ2 x2 _ g2=>?_)))))
 refine kP (by decide) rfl (bG (aQ (aq rfl)) fun e σ3 x3 _ g3=>?_)
 refine ai (rO (ai (AQ (ah rfl ?_))))
 have hT:∀ P:List (List Nat),[47].isPrefixOf (text P)=true:=fun P=>by cases P<;>rfl
 refine fD (x:=.str (text P)) (by decide) rfl (iO (jw (iM (ah rfl (lk ?_)))))
 refine fD (x:=.str (text R)) (by decide) rfl (iO (jw (iM (ah rfl (lk ?_)))))
 refine kP (by decide) rfl ⟨(by rw [hT,hT];rfl),aJ ?_⟩
 refine ai (wO (lC (ah rfl (fC ?_))))
 have G3:=x3.get (x2.get g1)
 refine fD (x:=.loc a) (by decide) (by show (σ3[e]?).map _=_;rw [g3];rfl) (iO (tK hP (by grind) (by grind) G3 rfl fun p σ4 x4 g4=>?_))
 refine fD (x:=.loc b) (by decide) (by show (σ4[e]?).map _=_;rw [x4.get g3];rfl) (iO (tK hR (by grind) (by grind) (x4.get (x3.get g2)) rfl fun q σ5 x5 g5=>?_))
 refine kP (by decide) (by show (σ5[e]?).map _=_;rw [x5.get (x4.get g3)];rfl) (bG (aQ (aq rfl)) fun l σ6 x6 _ g6=>?_)
 have h4:=x6.get (x5.get g4)
 have h5:=x6.get g5
 have X6:Ext σ σ6:=x1.trans (x2.trans (x3.trans (x4.trans (x5.trans x6))))
 refine ai (aM (eT (ah rfl (Ce g6 h4 h5 (eX _) (eX _) ?_))))
 refine ai (aM (eT (ah rfl (Cf g6 h4 h5 (eX _) (eX _) ?_))))
 refine ai (aM (ah rfl ?_))
 have fin:∀ (K':Fl→St→Prop) (hK':∀ v st,v=V.str (text (lcp P R))∧Ext σ st.hp→K' (.ret v) st) (n1 n2:Nat) (s t:List (List Nat)),σ6[n1]?=some (s.map .str)→σ6[n2]?=some (t.map .str)→ltS t s=false→s.length < 100→lcp s t=lcp P R→(∃ u,P=lcp P R++u) →
  W (exs (CN (d+1)) GT (.cons (.forE 9 5 (.var 6) (.cons (.ifS (.cmp .ne (.var 5) (.idx (.var 7) (.var 9))) (.cons (.assign 8 (.sliceHi (.var 6) (.var 9))) (.cons .brk .nil)) .nil) .nil))
    (.cons (.assign 10 (.ife (.val (.var 4)) (.var 1) (.sliceHi (.var 1) (.lit (.int 0)))))
    (.cons (.ret (.bin .add (.var 10) (.m1 .join (.var 1) (.var 8)))) .nil)))
   ⟨[some (.tup [.str (text P),.str (text R)]),some (.str [47]),some (.str [46]),some (.loc l),some (.bool true),none,some (.loc n1),some (.loc n2),some (.loc n1),none,none],σ6⟩) K' NX:=by
  intro K' hK' n1 n2 s t hs ht hlt hl he ⟨u,hu⟩
  refine ai (A0 (ah rfl ⟨rfl,wM _ _ _ _ _ _ hs ht hlt (by grind) fun m σ7 a b x7 g7=>?_⟩))
  refine ai (aM (wH (dn (ah rfl ⟨true,rfl,ifT (ah rfl ?_)⟩))))
  have hlen:([47]++joinL [47] (lcp P R)).length≤1000000:=by
   rw [mn]
   have:=jC (P:=lcp P R)
   have:=congrArg (fun z=>(body z).length) hu
   change (body P).length=(body (lcp P R++u)).length at this
   rw [rD,aa] at this
   grind
  rw [he] at g7
  refine ai (dd (df (ah rfl (jw (ah rfl (ah rfl (rR g7 (eX _) (aj (by rw [aa];exact cG _ _) hlen) (rW hlen (hK' _ _ ?_)))))))))
  exact⟨by rw [mn],X6.trans x7⟩
 have pre:=ph P R
 cases h:ltS R P with
 | true=>
  have h':ltS P R=false:=oZ.asym h
  rw [if_pos rfl,h',if_neg aA]
  refine fin _ ?_ q p R P h5 h4 h' nR (xN R P) pre;exact hK
 | false=>
  rw [if_neg aA]
  cases h':ltS P R with
  | true=>rw [if_pos rfl];refine fin _ ?_ p q P R h4 h5 h nP rfl pre;exact hK
  | false=>
   rw [if_neg aA]
   have e:P=R:=by
    rcases Classical.em (P=R) with e | e
    ·exact e
    ·rcases oZ.tot P R e with z | z
     ·rw [h'] at z;cases z
     ·rw [h] at z;cases z
   refine fin _ ?_ p p P P h4 h4 (oZ.irr P) nP (by rw [←e]) pre;exact hK
section
variable {st:St} {X:St→Prop} {Q:V→St→Prop}
theorem zj {tab:List V} {s t:List Nat} (h:transL tab s=some t) (hl:t.length≤LIM) (k:Q (.str t) st):W (m1V .translate s (.flist tab) st) Q X:=de h (ju hl k)
theorem pX {s:List Nat} (hs:s.length≤LIM) (hp:s.all plainSign=true) (hn:(linesL s).length≤LIM) (k:∀ n σ',Ext st.hp σ'→st.hp.length≤n→σ'[n]?=some ((linesL s).map .str)→Q (.loc n) { st with hp:=σ' }):W (m0V .splitlines (.str s) st) Q X:=
 c9 (by rw [decide_eq_true hs,hp];rfl) (bG (by rw [ae];exact hn) k)
theorem uE {s:List Nat} (k:Q (.str (rstripL PySem.Unicode.isSpace s)) st):W (m0V .rstrip (.str s) st) Q X:=js k
theorem eN {σ:Hp} {n:Nat} {f:List V→List V} {l:List V} (x:Ext σ st.hp) (hn:σ.length≤n) (h:st.hp[n]?=some l) (hl:(f l).length≤LIM)
  (k:∀ σ',Ext σ σ'→σ'[n]?=some (f l)→(∀ m l',m≠n→st.hp[m]?=some l'→σ'[m]?=some l')→Q .none { st with hp:=σ' }):W (setList n f st) Q X:=
 nj h hl (k _ (x.set hn _) (ul h) fun m l' hm h'=>jf (Ne.symm hm) h')
end
theorem n8 {α:Type} (l:List α):cut l (some 0) (some (-1))=l.dropLast:=by
 rw [←jN l]
 unfold cut
 dsimp only
 have e:clamp 0 l.length=0:=Nat.zero_min l.length
 rw [e]
theorem yu {α:Type} (l:List α):cut l (some 0) none=l:=ka l 0
noncomputable def encLine (l:List Nat):List Nat:=if l.getLast?=some 32∨l.getLast?=some 9 then l.dropLast++quoted (l.getLast?.getD 0) else l
noncomputable def encRows (t:List Nat):List (List Nat):=(linesL t).map encLine++if t.getLast?=some 13∨t.getLast?=some 10 then [[]] else []
noncomputable def encB (t:List Nat):List Nat:=joinL [10] (encRows t)
noncomputable def TAB:List V:=(bZ 256).map fun c=>.str (if encodesItself c then [c] else quoted c)
theorem sV {c a b:Nat} {σ:Hp}:cmpop .isin (.str [c]) (.str [a,b]) σ=some (decide (c=a∨c=b)):=by
 show some (decide (c∈[a,b]))=_
 congr 1
 by_cases h:c=a∨c=b
 ·rw [decide_eq_true h,decide_eq_true (az.mpr (h.imp id fun q=>ay.mpr q))]
 ·rw [decide_eq_false h,decide_eq_false fun q=>h ((az.mp q).imp id ay.mp)]
theorem ic {α:Type} {l:List α} {c:α} (h:l.getLast?=some c):itemAt l (-1)=some c:=qU (by rw [←List.getLast?_eq_getElem?];exact h)
theorem uH {d n:Nat} {l:List Nat} {rows:List V} {σ0 σ:Hp} {ss:Ss} {Q:Fl→St→Prop} {X:St→Prop} {t:List Nat} {v8 v9 v10 v11 v12:Option V} (hl:l.length < 60) (x:Ext σ0 σ) (hn:σ0.length≤n) (h:σ[n]?=some rows) (hr:rows.length < 1000)
  (k:∀ σ' v8 v9 v11 v12,Ext σ0 σ'→σ'[n]?=some (rows++[.str (encLine l)])→(∀ m l',m≠n→σ[m]?=some l'→σ'[m]?=some l')→Q .next ⟨[some (.str t),some (.int 76),some (.str [10]),some (.str [61,10]),some (.int 75),some (.loc n),some (.app n),some (.str l),v8,v9,v10,v11,v12],σ'⟩) :
  W (exs (CN (d+1)) GT (.cons (.assign 8 (.lit (.int 0)))
    (.cons (.assign 9 (.bin .sub (.bin .sub (.b1 .len (.var 7)) (.lit (.int 1))) (.var 1)))
    (.cons (.whileS (.cmp .le (.var 8) (.var 9)) ss)
    (.cons (.ifS (.and (.cons (.val (.var 7)) (.cons (.cmp .isin (.idx (.var 7) (.neg (.lit (.int 1)))) (.lit (.str [32,9]))) .nil)))
      (.cons (.assign 11 (.bin .sub (.var 8) (.var 9)))
      (.cons (.ifS (.cmp .ge (.var 11) (.lit (.int 3)))
        (.cons (.assign 12 (.call 1 (.cons (.idx (.var 7) (.neg (.lit (.int 1)))) .nil))) .nil)
        (.cons (.ifS (.cmp .eq (.var 11) (.lit (.int 2)))
          (.cons (.assign 12 (.bin .add (.idx (.var 7) (.neg (.lit (.int 1)))) (.var 3))) .nil)
          (.cons (.assign 12 (.bin .add (.var 3) (.call 1 (.cons (.idx (.var 7) (.neg (.lit (.int 1)))) .nil)))) .nil)) .nil))
      (.cons (.expr (.callv 6 (.bin .add (.sliceLH (.var 7) (.var 8) (.neg (.lit (.int 1)))) (.var 12)))) .nil)))
      (.cons (.expr (.callv 6 (.sliceLo (.var 7) (.var 8)))) .nil)) .nil))))
   ⟨[some (.str t),some (.int 76),some (.str [10]),some (.str [61,10]),some (.int 75),some (.loc n),some (.app n),some (.str l),v8,v9,v10,v11,v12],σ⟩) Q X:=by
 refine d4 (st':=⟨[some (.str t),some (.int 76),some (.str [10]),some (.str [61,10]),some (.int 75),some (.loc n),some (.app n),some (.str l),some (.int 0),v9,v10,v11,v12],σ⟩) rfl ?_
 refine d4 (st':=⟨[some (.str t),some (.int 76),some (.str [10]),some (.str [61,10]),some (.int 75),some (.loc n),some (.app n),some (.str l),some (.int 0),some (.int ((l.length:Int) - 1 - 76)),v10,v11,v12],σ⟩) rfl ?_
 have h9:¬(0:Int)≤(l.length:Int) - 1 - 76:=by omega
 refine ai (gW (jr (I:=fun _ st=>st=_) (fun _ st e=>?_) _ 0 _ (by decide) rfl))
 rw [e]
 refine bu (ah rfl (ah rfl ⟨false,?_,ifF ?_⟩))
 ·show some (decide ((0:Int)≤(l.length:Int) - 1 - 76))=_;rw [decide_eq_false h9]
 have hadd:∀ y:List Nat,(rows++[V.str y]).length≤LIM:=fun y=>by rw [aa];show _+1≤1000000;omega
 have plain:¬(l.getLast?=some 32∨l.getLast?=some 9)→W (exs (CN (d+1)) GT (.cons (.expr (.callv 6 (.sliceLo (.var 7) (.var 8)))) .nil) ⟨[some (.str t),some (.int 76),some (.str [10]),some (.str [61,10]),some (.int 75),some (.loc n),some (.app n),some (.str l),some (.int 0),some (.int ((l.length:Int) - 1 - 76)),v10,v11,v12],σ⟩) Q X:=fun hc=>by
  refine ai (dT (oE rfl (iz (ah rfl (ah rfl (d3 rfl ?_))))))
  rw [yu]
  refine eN x hn h (hadd _) fun σ' x' h' o=>aJ (k σ' _ _ _ _ x' ?_ o)
  rw [h']
  unfold encLine
  rw [if_neg hc]
 have post:∀ f st,Q f st→pSeq (CN (d+1)) GT .nil Q X f st:=fun f st q=>by cases f<;>first | exact aJ q | exact q
 refine ai (bi (Q:=Q) (X:=X) (ch (fL (cD (dn (ah rfl ⟨!l.isEmpty,rfl,?_⟩))))) post fun _ h=>h)
 cases hc:l.getLast? with
 | none=>
  obtain rfl:=fS.mp hc
  exact ifF (ifF (plain (by rw [hc];exact fun q=>q.elim (fun q=>nomatch q) fun q=>nomatch q)))
 | some c=>
  have hne:(!l.isEmpty)=true:=by cases l with | nil=>cases hc | cons _ _=>rfl
  rw [hne]
  refine ifT (cD (bu (cY (ah rfl (jt (bb (gq (ic hc) (bb ⟨_,sV,?_⟩))))))))
  by_cases hq:c=32∨c=9
  ·rw [decide_eq_true hq]
   have hc256:c < 256:=by omega
   refine ifT (eV (ifT (ai (aM (df (ah rfl (ah rfl (lj ?_))))))))
   refine ai (ch (bu (ah rfl (bb ⟨true,?_,ifT (ai (aM (bN (aB (cY (ah rfl (jt (bb (gq (ic hc) (bc (cM (od hc256) (aJ ?_))))))))))))⟩))))
   ·show some (decide ((3:Int)≤0 - ((l.length:Int) - 1 - 76)))=_
    rw [decide_eq_true (by omega)]
   refine ai (dT (oE rfl (df (jV (ah rfl (ah rfl (jt (bb (d3 rfl (ah rfl (rW ?_ ?_)))))))))))
   ·rw [n8,aa,iZ];show _+3≤1000000;omega
   ·refine eN x hn h (hadd _) fun σ' x' h' o=>aJ (k σ' _ _ _ _ x' ?_ o)
    rw [h',n8]
    unfold encLine
    rw [hc,if_pos (hq.imp (congrArg some) (congrArg some))]
    rfl
  ·rw [decide_eq_false hq]
   exact ifF (ifF (plain fun q=>hq (by rw [hc] at q;exact q.imp Option.some.inj Option.some.inj)))
inductive EcI (t:List Nat) (n m:Nat) (σ:Hp) (i:Nat):St→Prop
 | mk (v7 v8 v9 v11 v12:Option V) (σ':Hp) (x:Ext σ σ') (g:σ'[n]?=some (((linesL t).take i).map fun l=>V.str (encLine l))) (gm:σ'[m]?=some ((linesL t).map .str)) :
  EcI t n m σ i ⟨[some (.str t),some (.int 76),some (.str [10]),some (.str [61,10]),some (.int 75),some (.loc n),some (.app n),v7,v8,v9,none,v11,v12],σ'⟩
theorem tu {d:Nat} {s t:List Nat} {σ:Hp} (hs:s≠[]) (ht:transL TAB s=some t) (hp:t.all plainSign=true) (hl:t.length < 60) (hn:(linesL t).length < 60) (hk:((linesL t).all fun l=>decide (l.length < 60))=true) (he:(encB t).length≤1000) (ht0:t≠[]) :
  Cal (d+2) 2 [.str s] σ fun v σ'=>v = .str (encB t)∧Ext σ σ':=by
 refine cW [some (.str s),some (.int 76),some (.str [10]),none,none,none,none,none,none,none,none,none,none] rfl rfl fun R hR=>?_
 refine ai (ch (bu (ah rfl (bb ⟨false,rfl,ifF (aJ ?_)⟩))))
 refine ai (ch (nq (dn (ah rfl ⟨true,by cases s with | nil=>exact absurd rfl hs | cons _ _=>rfl,ifF (aJ ?_)⟩))))
 refine ai (aM (jw (ah rfl (lw rfl (zj (tab:=TAB) ht (aQ (by omega)) ?_)))))
 refine d4 (st':=⟨[some (.str t),some (.int 76),some (.str [10]),some (.str [61,10]),none,none,none,none,none,none,none,none,none],σ⟩) rfl ?_
 refine d4 (st':=⟨[some (.str t),some (.int 76),some (.str [10]),some (.str [61,10]),some (.int 75),none,none,none,none,none,none,none,none],σ⟩) rfl ?_
 refine ai (aM (eu (bc (bG (aQ (aD _)) fun n σ1 x1 hn1 g1=>?_))))
 refine d4 (st':=⟨[some (.str t),some (.int 76),some (.str [10]),some (.str [61,10]),some (.int 75),some (.loc n),some (.app n),none,none,none,none,none,none],σ1⟩) rfl ?_
 refine ai (eQ (AU (ah rfl (pX (aQ (by omega)) hp (aQ (by omega)) fun m σ2 x2 hm g2=>?_))))
 have hmn:m≠n:=fun q=>by
  have:=dA g1
  rw [q] at hm
  exact absurd hm (Nat.not_le_of_lt this)
 refine kq (I:=EcI t n m σ) ((linesL t).map .str) (fun i st h=>by cases h with | mk _ _ _ _ _ σ' _ _ g=>exact fM g)
  (fun i y st hy h=>?_) (fun st h=>?_) _ _ _ (aD _) (by rw [ae];show _ - 0 < 100000;omega) ⟨_,_,_,_,_,σ2,x1.trans x2,x2.get g1,g2⟩
 ·obtain⟨_,_,_,_,_,σ',x',g',gm⟩:=h
  rw [aN] at hy
  obtain⟨l,hl1,rfl⟩:=aF.mp hy
  obtain⟨hi,rfl⟩:=ag.mp hl1
  refine uH (of_decide_eq_true (ax.mp hk _ (cy hi))) x' hn1 g' (by rw [ae,bC];omega) fun σ'' v8 v9 v11 v12 x'' g'' o=>⟨_,_,_,_,_,σ'',x'',?_,o _ _ hmn gm⟩
  rw [g'',av hi,bh]
  rfl
 ·obtain⟨_,_,_,_,_,σ',x',g',gm⟩:=h
  rw [ae,bj] at g'
  obtain⟨c,hc⟩:∃ c,t.getLast?=some c:=by
   cases q:t.getLast? with
   | some c=>exact⟨c,rfl⟩
   | none=>exact absurd (fS.mp q) ht0
  have ret:∀ (σ':Hp) (a b c x y z:Option V),Ext σ σ'→σ'[n]?=some ((encRows t).map .str)→W (exs (CN (d+1)) GT (.cons (.ret (.m1 .join (.var 2) (.var 5))) .nil) ⟨[some (.str t),some (.int 76),some (.str [10]),some (.str [61,10]),some (.int 75),some (.loc n),some (.app n),a,b,c,x,y,z],σ'⟩) R NX:=fun σ' _ _ _ _ _ _ x' g=>by
   refine ai (dd (jw (ah rfl (ah rfl (rR g (eX _) (aj he (aQ (by decide))) (hR _ _ ⟨rfl,x'⟩))))))
  refine ai (ch (bu (cY (ah rfl (jt (bb (gq (ic hc) (lw rfl ⟨_,sV,?_⟩))))))))
  by_cases hq:c=13∨c=10
  ·rw [decide_eq_true hq]
   refine ifT (ai (dT (oE rfl (bb (eN x' hn1 g' (by rw [aa,ae];show _+1≤1000000;omega) fun σ'' x'' g'' _=>aJ (ret σ'' _ _ _ _ _ _ x'' ?_))))))
   rw [g'']
   unfold encRows
   rw [hc,if_pos (hq.imp (congrArg some) (congrArg some)),bh,c6]
   rfl
  ·rw [decide_eq_false hq]
   refine ifF (aJ (ret σ' _ _ _ _ _ _ x' ?_))
   rw [g']
   unfold encRows
   rw [hc,if_neg (fun q=>hq (q.imp Option.some.inj Option.some.inj)),al,c6]
   rfl
noncomputable def HEX:List Nat:=[48,49,50,51,52,53,54,55,56,57,97,98,99,100,101,102,65,66,67,68,69,70]
noncomputable def hexN (c:Nat):Nat:=(hexVal c).getD 0
theorem yd:∀ c∈HEX,hexVal c=some (hexN c)∧hexN c < 16:=by decide
noncomputable def fin1 (r d:List Nat):List Nat:=if r=[] then [10] else d
noncomputable def decK:Nat→List Nat→List Nat
 | _,[]=>[]
 | k+1,_::r=>decK k r
 | 0,c::r=>if c≠61 then c::fin1 r (decK 0 r) else
  match r with
  | []=>[]
  | x::r'=>(match r' with
   | y::r''=>if decide (x∈HEX)&&decide (y∈HEX) then (16 * hexN x+hexN y)::fin1 r'' (decK 2 r) else 61::fin1 r (decK 0 r)
   | []=>61::fin1 r (decK 0 r))
noncomputable def decLine (l:List Nat):List Nat:=if rstripL PySem.Unicode.isSpace l=[] then [10] else decK 0 (rstripL PySem.Unicode.isSpace l)
noncomputable def decAll (s:List Nat):List Nat:=(linesL s).flatMap decLine
noncomputable def decB (s:List Nat):List Nat:=if ¬(s.getLast?=some 13∨s.getLast?=some 10)∧[10].isSuffixOf (decAll s) then (decAll s).dropLast else decAll s
theorem uh {a b c:List Nat} (e:a++b=c) (h:c.length≤1000):a.length≤LIM:=by
 have:=congrArg eE e
 rw [aa] at this
 exact aQ (by grind)
theorem lD {d i:Nat} {st:St} {e:E} {x s:List Nat} {Q:Fl→St→Prop} {X:St→Prop} (hx:st.fv[i]?=some (some (.str x))) (h:(x++s).length≤LIM) (hv:W (ev (CN d) GT none e st) (fun y st'=>y = .str s∧st'=st) X) (k:Q .next (setVar st i (.str (x++s)))):W (ex (CN d) GT (.aug i .add e) st) Q X:=
 pZ hx (bi hv (fun y st' ⟨e1,e2⟩=>by rw [e1,e2];exact oF h k) fun _ h=>h)
theorem gu {call:CallT} {G:Nat→Option V} {i n:Nat} {st:St} {Q:Fl→St→Prop} {X:St→Prop} (m:Nat) (hx:st.fv[i]?=some (some (.int (n:Int)))) (k:Q .next (setVar st i (.int ((n+m:Nat):Int)))):W (ex call G (.aug i .add (.lit (.int (m:Int)))) st) Q X:=
 pZ hx (bb (Ba k))
theorem yx {c:Nat} {l:List Nat} {σ:Hp}:cmpop .isin (.str [c]) (.str l) σ=some (decide (c∈l)):=rfl
inductive DeI (s l acc:List Nat) (σ:Hp) (n:Nat):St→Prop
 | mk (p r a:List Nat) (v6:Option V) (i:Nat) (hi:i=p.length) (e1:l=p++r) (e2:n=r.length) (e3:a++decK 0 r=acc++decK 0 l):DeI s l acc σ n ⟨[some (.str s),some (.str [10]),some (.str a),some (.str l),some (.int (i:Nat)),some (.int l.length),v6],σ⟩
theorem rU {d:Nat} {l acc:List Nat} {s:List Nat} {v6:Option V} {σ:Hp} {X:St→Prop} {Q:Fl→St→Prop} (hl:l.length < 1000) (hd:(acc++decK 0 l).length≤1000)
  (k:∀ v6,Q .next ⟨[some (.str s),some (.str [10]),some (.str (acc++decK 0 l)),some (.str l),some (.int l.length),some (.int l.length),v6],σ⟩) :
  W (ex (CN (d+1)) GT (.whileS (.cmp .lt (.var 4) (.var 5))
      (.cons (.assign 6 (.idx (.var 3) (.var 4)))
      (.cons (.ifS (.cmp .ne (.var 6) (.lit (.str [61])))
        (.cons (.aug 2 .add (.var 6))
        (.cons (.aug 4 .add (.lit (.int 1))) .nil))
        (.cons (.ifS (.cmp .eq (.bin .add (.var 4) (.lit (.int 1))) (.var 5))
          (.cons (.aug 4 .add (.lit (.int 1)))
          (.cons .cont .nil))
          (.cons (.ifS (.and (.cons (.cmp .lt (.bin .add (.var 4) (.lit (.int 2))) (.var 5)) (.cons (.cmp .isin (.idx (.var 3) (.bin .add (.var 4) (.lit (.int 1)))) (.glob 1)) (.cons (.cmp .isin (.idx (.var 3) (.bin .add (.var 4) (.lit (.int 2)))) (.glob 1)) .nil))))
            (.cons (.aug 2 .add (.call 0 (.cons (.sliceLH (.var 3) (.var 4) (.bin .add (.var 4) (.lit (.int 3)))) .nil)))
            (.cons (.aug 4 .add (.lit (.int 3))) .nil))
            (.cons (.aug 2 .add (.var 6))
            (.cons (.aug 4 .add (.lit (.int 1))) .nil))) .nil)) .nil))
      (.cons (.ifS (.cmp .eq (.var 4) (.var 5))
        (.cons (.aug 2 .add (.var 1)) .nil) .nil) .nil))))
   ⟨[some (.str s),some (.str [10]),some (.str acc),some (.str l),some (.int 0),some (.int l.length),v6],σ⟩) Q X:=by
 refine gW (jr (I:=DeI s l acc σ) (fun n st h=>?_) _ l.length _ (by show _ < 100000;omega) ⟨[],l,acc,_,_,rfl,rfl,rfl,rfl⟩)
 obtain⟨p,r,a,v6,i,hi,e1,e2,e3⟩:=h
 subst hi
 have hlen:l.length=p.length+r.length:=by rw [e1,aa]
 refine bu (ah rfl (ah rfl ⟨decide (((p.length:Nat):Int) < (l.length:Int)),rfl,?_⟩))
 have ha:(a++decK 0 r).length≤1000:=by rw [e3];exact hd
 cases r with
 | nil=>
  rw [decide_eq_false (by rw [hlen];show ¬(p.length:Int) < ((p.length+0:Nat):Int);grind)]
  have e3':a=acc++decK 0 l:=by rw [←e3];exact (al a).symm
  have hp:p.length=l.length:=hlen.symm
  refine ifF ?_
  rw [e3',hp]
  exact k _
 | cons c r=>
  have hlc:l.length=p.length+(r.length+1):=hlen
  rw [decide_eq_true (by grind)]
  have gc:l[p.length]?=some c:=by rw [e1,aV (am _),fA];rfl
  refine ifT (ai (aM (cY (ah rfl (ah rfl (gq (bM gc) ?_))))))
  have fin:∀ (m:Nat) (b r':List Nat) (R':Fl→St→Prop) (X':St→Prop),r'=r.drop m→m≤r.length→(a++b++fin1 r' (decK 0 r'))=acc++decK 0 l →
    (∀ st,pLess (DeI s l acc σ) n st→R' .next st) →
    W (exs (CN (d+1)) GT (.cons (.ifS (.cmp .eq (.var 4) (.var 5)) (.cons (.aug 2 .add (.var 1)) .nil) .nil) .nil)
     ⟨[some (.str s),some (.str [10]),some (.str (a++b)),some (.str l),some (.int ((p.length+1+m:Nat))),some (.int l.length),some (.str [c])],σ⟩) R' X':=by
   intro m b r' R' X' hr' hm hq hR
   refine ai (ch (bu (ah rfl (ah rfl ⟨decide (((p.length+1+m:Nat):Int)=(l.length:Int)),rfl,?_⟩))))
   have hp':l=(p++c::r.take m)++r':=by rw [e1,hr',aw];show _=p++c::(r.take m++r.drop m);rw [cc]
   have hpl:(p++c::r.take m).length=p.length+1+m:=by rw [aa,cR,bC,fg hm];grind
   have hrl:r'.length=r.length - m:=by rw [hr',bU]
   by_cases hz:r'=[]
   ·rw [decide_eq_true (by rw [hz] at hrl;have:r.length=m:=by { have h0:0=r.length - m:=hrl;grind };grind)]
    unfold fin1 at hq
    rw [if_pos hz] at hq
    refine ifT (ai (lD rfl (uh (b:=[]) (by rw [al];exact hq) hd) (ah rfl ⟨rfl,rfl⟩) (aJ (aJ (hR _ ⟨r'.length,?_,p++c::r.take m,r',a++b++[10],some (.str [c]),_,?_,hp',rfl,?_⟩)))))
    ·rw [e2,hz];exact bo _
    ·exact hpl.symm
    ·rw [hz];exact (al _).trans hq
   ·rw [decide_eq_false (by
     have:r'.length≠0:=fun q=>hz (aG q)
     grind)]
    unfold fin1 at hq
    rw [if_neg hz] at hq
    refine ifF (aJ (aJ (hR _ ⟨r'.length,?_,p++c::r.take m,r',a++b,some (.str [c]),_,?_,hp',rfl,hq⟩)))
    ·rw [e2,hrl];show _ < r.length+1;grind
    ·rw [hpl]
  have len1:∀ (b u:List Nat),a++b++u=acc++decK 0 l→(a++b).length≤LIM:=fun b u e=>uh e hd
  by_cases hc:c=61
  ·subst hc
   refine ai (ch (bu (ah rfl (bb ⟨false,il,ifF ?_⟩))))
   refine ai (ch (bu (df (ah rfl (bb (eW (ah rfl ⟨decide (((p.length:Nat):Int)+1=(l.length:Int)),rfl,?_⟩)))))))
   cases r with
   | nil=>
    rw [decide_eq_true (by rw [hlc];rfl)]
    refine ifT (ai (gu 1 rfl (ai (rV ⟨0,by rw [e2];exact bo _,p++[61],[],a,some (.str [61]),_,?_,by rw [e1,al],rfl,e3⟩))))
    rw [aa];rfl
   | cons x r'=>
    have hlx:l.length=p.length+(r'.length+1+1):=hlc
    rw [decide_eq_false (by grind)]
    have gx:l[p.length+1]?=some x:=by rw [e1,aV (aX _ _),cr];rfl
    have no:∀ (st:St) (R':Fl→St→Prop) (X':St→Prop),st=⟨[some (.str s),some (.str [10]),some (.str a),some (.str l),some (.int (p.length:Nat)),some (.int l.length),some (.str [61])],σ⟩→decK 0 (61::x::r')=61::fin1 (x::r') (decK 0 (x::r')) →
      R' .next ⟨[some (.str s),some (.str [10]),some (.str (a++[61])),some (.str l),some (.int (p.length+1+0:Nat)),some (.int l.length),some (.str [61])],σ⟩ →
      W (exs (CN (d+1)) GT (.cons (.aug 2 .add (.var 6)) (.cons (.aug 4 .add (.lit (.int 1))) .nil)) st) R' X':=fun st R' X' e he hr=>by
     rw [e]
     refine ai (lD rfl (len1 [61] _ (by rw [aw,←e3,he];rfl)) (ah rfl ⟨rfl,rfl⟩) ?_)
     exact ai (gu 1 rfl (aJ hr))
    refine ifF (ai (ch (fL (cD (bu (df (ah rfl (bb (eW (ah rfl ⟨decide (((p.length:Nat):Int)+2 < (l.length:Int)),rfl,?_⟩))))))))))
    cases r' with
    | nil=>
     rw [decide_eq_false (by rw [hlx];show ¬(p.length:Int)+2 < ((p.length+2:Nat):Int);grind)]
     have he:decK 0 [61,x]=61::fin1 [x] (decK 0 [x]):=rfl
     exact ifF (ifF (no _ _ _ rfl he (aJ (aJ (fin 0 [61] [x] _ _ rfl (aD _) (by rw [aw,←e3,he];rfl) fun st h=>h)))))
    | cons y r''=>
     have hly:l.length=p.length+(r''.length+1+1+1):=hlx
     rw [decide_eq_true (by grind)]
     have gy:l[p.length+2]?=some y:=by rw [e1,aV (aX _ _),cr];rfl
     have he:decK 0 (61::x::y::r'')=if decide (x∈HEX)&&decide (y∈HEX) then (16 * hexN x+hexN y)::fin1 r'' (decK 0 r'') else 61::fin1 (x::y::r'') (decK 0 (x::y::r'')):=rfl
     refine ifT (cD (bu (cY (ah rfl (df (ah rfl (bb (eW (gq (bM (j:=p.length+1) gx) (lw rfl ⟨_,yx,?_⟩))))))))))
     change if decide (x∈HEX)=true then _ else _
     have heF:(decide (x∈HEX)&&decide (y∈HEX))=false→decK 0 (61::x::y::r'')=61::fin1 (x::y::r'') (decK 0 (x::y::r'')):=fun hh=>by rw [he,hh];rfl
     cases hx:decide (x∈HEX) with
     | false=>exact ifF (ifF (no _ _ _ rfl (heF (by rw [hx];rfl)) (aJ (aJ (fin 0 [61] (x::y::r'') _ _ rfl (aD _) (by rw [aw,←e3,heF (by rw [hx];rfl)];rfl) fun st h=>h)))))
     | true=>
      refine ifT (cD (bu (cY (ah rfl (df (ah rfl (bb (eW (gq (bM (j:=p.length+2) gy) (lw rfl ⟨_,yx,?_⟩))))))))))
      change if decide (y∈HEX)=true then _ else _
      cases hy:decide (y∈HEX) with
      | false=>exact ifF (ifF (no _ _ _ rfl (heF (by rw [hx,hy];rfl)) (aJ (aJ (fin 0 [61] (x::y::r'') _ _ rfl (aD _) (by rw [aw,←e3,heF (by rw [hx,hy];rfl)];rfl) fun st h=>h)))))
      | true=>
       obtain⟨hx1,hx2⟩:=yd x (of_decide_eq_true hx)
       obtain⟨hy1,hy2⟩:=yd y (of_decide_eq_true hy)
       have he':decK 0 (61::x::y::r'')=(16 * hexN x+hexN y)::fin1 r'' (decK 0 r''):=by rw [he,hx,hy];rfl
       have hcut:cut l (some ((p.length:Nat):Int)) (some ((p.length+3:Nat):Int))=[61,x,y]:=by
        rw [yv,e1,List.take_append,List.drop_append]
        rw [bX (aX _ _),List.drop_of_length_le (am _),fA,cr]
        rfl
       refine ifT (eV (ifT (ai (lD (s:=[16 * hexN x+hexN y]) rfl (len1 _ _ (by rw [aw,←e3,he'];rfl)) (bN (aB (jV (ah rfl (ah rfl (df (ah rfl (bb (eW (d3 ?_ (bc ?_))))))))))) ?_))))
       ·rw [show (((p.length:Nat):Int)+3)=((p.length+3:Nat):Int) from rfl,okN (by grind),okN (by grind)];rfl
       ·have e3:(((p.length:Nat):Int)+3)=((p.length+3:Nat):Int):=rfl
        rw [e3,hcut]
        exact cM (rt hx1 hy1 (by grind)) ⟨rfl,rfl⟩
       ·refine ai (gu 3 rfl (aJ (aJ (aJ ?_))))
        exact fin 2 _ r'' _ _ rfl (by show 2≤r''.length+2;grind) (by rw [aw,←e3,he'];rfl) fun st h=>h
  ·have he:decK 0 (c::r)=c::fin1 r (decK 0 r):=if_pos hc
   refine ai (ch (bu (ah rfl (bb ⟨true,jO (fun q=>hc (List.cons.inj q).1),ifT ?_⟩))))
   refine ai (lD rfl (len1 [c] _ (by rw [aw,←e3,he];rfl)) (ah rfl ⟨rfl,rfl⟩) ?_)
   refine ai (gu 1 rfl (aJ ?_))
   exact fin 0 [c] r _ _ rfl (aD _) (by rw [aw,←e3,he];rfl) fun st h=>h
theorem tv {d:Nat} {s:List Nat} {σ:Hp} (hs:s≠[]) (hp:s.all plainSign=true) (hl:s.length < 1000) (hn:(linesL s).length < 1000) (hk:((linesL s).all fun l=>decide ((rstripL PySem.Unicode.isSpace l).length < 1000))=true) (hd:(decAll s).length≤1000) :
  Cal (d+2) 3 [.str s] σ fun v σ'=>v = .str (decB s)∧Ext σ σ':=by
 refine cW [some (.str s),some (.str [10]),none,none,none,none,none] rfl rfl fun R hR=>?_
 refine ai (ch (nq (dn (ah rfl ⟨true,by cases s with | nil=>exact absurd rfl hs | cons _ _=>rfl,ifF (aJ ?_)⟩))))
 refine d4 (st':=⟨[some (.str s),some (.str [10]),some (.str []),none,none,none,none],σ⟩) rfl ?_
 refine ai (eQ (AU (ah rfl (pX (aQ (by grind)) hp (aQ (by grind)) fun m σ2 x2 hm g2=>?_))))
 have hacc:∀ i,(((linesL s).take i).flatMap decLine).length≤1000:=fun i=>by
  have:=congrArg (fun z:List (List Nat)=>(z.flatMap decLine).length) (cc i (linesL s))
  change (List.flatMap _ (_++_)).length=(decAll s).length at this
  rw [cP,aa] at this
  grind
 refine kq (I:=fun i st=>∃ v3 v4 v5 v6,st=⟨[some (.str s),some (.str [10]),some (.str (((linesL s).take i).flatMap decLine)),v3,v4,v5,v6],σ2⟩) ((linesL s).map .str)
  (fun i st ⟨_,_,_,_,e⟩=>by rw [e];show (σ2[m]?).map _=_;rw [g2];rfl)
  (fun i y st hy ⟨_,_,_,_,e⟩=>?_) (fun st ⟨_,_,_,_,e⟩=>?_) _ _ _ (aD _) (by rw [ae];show _ - 0 < 100000;grind) ⟨_,_,_,_,rfl⟩
 ·rw [e]
  rw [aN] at hy
  obtain⟨l,hl1,rfl⟩:=aF.mp hy
  obtain⟨hi,rfl⟩:=ag.mp hl1
  have hstep:((linesL s).take (i+1)).flatMap decLine=((linesL s).take i).flatMap decLine++decLine (linesL s)[i]:=by
   rw [av hi,cP]
   show _++(decLine _++[])=_
   rw [al]
  have hle:=hacc (i+1)
  rw [hstep] at hle
  rw [hstep]
  have hlk:=of_decide_eq_true (ax.mp hk _ (cy hi))
  refine ai (aM (AU (ah rfl (uE ?_))))
  unfold decLine at hle ⊢
  generalize rstripL PySem.Unicode.isSpace (linesL s)[i]=l at *
  by_cases hz:l=[]
  ·rw [if_pos hz] at hle ⊢
   rw [hz]
   exact ai (ch (nq (dn (ah rfl ⟨false,rfl,ifT (ai (lD rfl (aj hle (aQ (by decide))) (ah rfl ⟨rfl,rfl⟩) (ai (rV ⟨_,_,_,_,rfl⟩))))⟩))))
  ·rw [if_neg hz] at hle ⊢
   refine ai (ch (nq (dn (ah rfl ⟨true,by cases l with | nil=>exact absurd rfl hz | cons _ _=>rfl,ifF (aJ ?_)⟩))))
   refine d4 (st':=⟨[some (.str s),some (.str [10]),some (.str (((linesL s).take i).flatMap decLine)),some (.str l),some (.int 0),_,_],σ2⟩) rfl ?_
   refine ai (aM (eT (ah rfl (lm ?_))))
   exact ai (rU hlk hle fun v6=>aJ ⟨_,_,_,_,rfl⟩)
 ·rw [e]
  rw [ae,bj]
  have fold:(linesL s).flatMap decLine=decAll s:=rfl
  rw [fold]
  obtain⟨c,hc⟩:∃ c,s.getLast?=some c:=by
   cases q:s.getLast? with
   | some c=>exact⟨c,rfl⟩
   | none=>exact absurd (fS.mp q) hs
  have ret:∀ (t:List Nat) (a b c x:Option V),t=decB s→W (exs (CN (d+1)) GT (.cons (.ret (.var 2)) .nil) ⟨[some (.str s),some (.str [10]),some (.str t),a,b,c,x],σ2⟩) R NX:=fun t _ _ _ _ e=>ai (dd (ah rfl (hR _ _ ⟨by rw [e],x2⟩)))
  refine ai (ch (fL (cD (bu (cY (ah rfl (jt (bb (gq (ic hc) (bb ⟨!decide (c=13∨c=10),?_,?_⟩))))))))))
  ·show cX _ (cmpop .isin (.str [c]) (.str [13,10]) σ2)=_
   rw [sV];rfl
  by_cases hq:c=13∨c=10
  ·rw [decide_eq_true hq]
   exact ifF (ifF (aJ (ret _ _ _ _ _ (by unfold decB;rw [hc,if_neg (fun z=>z.1 (hq.imp (congrArg some) (congrArg some)))]))))
  ·rw [decide_eq_false hq]
   refine ifT (cD (dn (jw (ah rfl (ah rfl (wJ ⟨_,rfl,?_⟩))))))
   cases he:[10].isSuffixOf (decAll s) with
   | false=>exact ifF (ifF (aJ (ret _ _ _ _ _ (by unfold decB;rw [he,if_neg (fun z=>nomatch z.2)]))))
   | true=>
    refine ifT (eV (ifT (ai (aM (cA (ah rfl (jt (eT (ah rfl (lm (d3 rfl ?_)))))))))))
    refine aJ (ret _ _ _ _ _ ?_)
    unfold decB
    rw [hc,he,if_pos ⟨fun z=>hq (z.imp Option.some.inj Option.some.inj),rfl⟩]
    exact jN _
noncomputable abbrev Txt:=List Nat
noncomputable def off (l:List Txt) (x:Txt):Bool:=!decide (x∈l)
theorem AD {l:List Txt} {x:Txt} (h:x∉l):off l x=true:=by unfold off;rw [decide_eq_false h];rfl
theorem AE {l:List Txt} {x:Txt} (h:x∈l):off l x=false:=by unfold off;rw [decide_eq_true h];rfl
structure DI (xs ys p r q s:List Txt):Prop where
 ex:xs=p++r
 ey:ys=q++s
 o1:∀ x∈p,∀ y∈s,ltN x y=true
 o2:∀ y∈q,∀ x∈r,ltN y x=true
section
variable {xs ys p r q s:List Txt} {e a:Txt}
theorem DI.symm (h:DI xs ys p r q s):DI ys xs q s p r:=⟨h.ey,h.ex,h.o2,h.o1⟩
theorem hG (h:Srt ltN xs) (hx:xs=p++e::r):∀ x∈r,ltN e x=true:=by
 rw [hx] at h
 exact (bn.mp (List.pairwise_append.mp h).2.1).1
theorem iW {f:Txt→Bool} (h:f e=true):(p++[e]).filter f=p.filter f++[e]:=by rw [fJ,bH h];rfl
theorem iX {f:Txt→Bool} (h:f e=false):(p++[e]).filter f=p.filter f:=by rw [fJ,bV (by rw [h];exact aA)];exact al _
theorem AI (sy:Srt ltN ys) (h:DI xs ys p (e::r) q (a::s)) (hl:ltN e a=true):DI xs ys (p++[e]) r q (a::s)∧off ys e=true:=by
 have key:∀ y∈a::s,ltN e y=true:=fun y hy=>(az.mp hy).elim (fun z=>by rw [z];exact hl) fun z=>dF.tr _ _ _ hl (hG sy h.ey y z)
 refine⟨⟨by rw [h.ex,aw];rfl,h.ey,fun x hx y hy=>?_,fun y hy x hx=>h.o2 y hy x (.tail _ hx)⟩,AD fun z=>?_⟩
 ·rcases aU.mp hx with z | z
  ·exact h.o1 x z y hy
  ·rw [ay.mp z];exact key y hy
 ·rw [h.ey] at z
  rcases aU.mp z with z | z
  ·have:=h.o2 e z e (.head _);rw [dF.irr] at this;cases this
  ·have:=key e z;rw [dF.irr] at this;cases this
theorem Cv (sx:Srt ltN xs) (sy:Srt ltN ys) (h:DI xs ys p (e::r) q (e::s)):DI xs ys (p++[e]) r (q++[e]) s:=by
 refine⟨by rw [h.ex,aw];rfl,by rw [h.ey,aw];rfl,fun x hx y hy=>?_,fun y hy x hx=>?_⟩
 ·rcases aU.mp hx with z | z
  ·exact h.o1 x z y (.tail _ hy)
  ·rw [ay.mp z];exact hG sy h.ey y hy
 ·rcases aU.mp hy with z | z
  ·exact h.o2 y z x (.tail _ hx)
  ·rw [ay.mp z];exact hG sx h.ex x hx
theorem yr (h:DI xs ys p r q s) (z:r=[]∨s=[]):p.filter (off ys)++r=xs.filter (off ys):=by
 rcases z with z | z
 ·rw [h.ex,z,al,al]
 ·rw [h.ex,fJ]
  congr 1
  refine (List.filter_eq_self.mpr fun x hx=>AD fun m=>?_).symm
  rw [h.ey,z,al] at m
  have:=h.o2 x m x hx
  rw [dF.irr] at this;cases this
end
theorem yf {p r:List Txt} {e:Txt}:(p++e::r)[p.length]?=some e:=by rw [aV (am _),fA];rfl
theorem um {xs:List Txt} {i:Nat} {e:Txt} (h:xs[i]?=some e):(xs.map V.str)[i]?=some (.str e):=by rw [aN,h];rfl
theorem B2 {e a:Txt} {σ:Hp}:cmpop .lt (.str e) (.str a) σ=some (ltN e a):=rfl
theorem B4 {e a:Txt} {σ:Hp}:cmpop .gt (.str e) (.str a) σ=some (ltN a e):=rfl
section
variable {st:St} {Q:Fl→St→Prop} {X:St→Prop}
theorem Bb {n i:Nat} {xs:List Txt} {Q:V→St→Prop} (hx:st.hp[n]?=some (xs.map .str)) (hb:i < 1000) (h1:∀ x,xs[i]?=some x→Q (.str x) st) (h2:xs.length≤i→X st):W (idxV (.loc n) (.int (i:Int)) st) Q X:=by
 cases q:xs[i]? with
 | some x=>exact eP hx (bM (um q)) (h1 x q)
 | none=>
  have hle:=bq.mp q
  exact AV hx (qT (by rw [ae];exact hle)) (by rw [ae];exact c7.mpr hle) (iq (ds.mpr hb) (by decide)) (h2 hle)
theorem ll {d lv iv ev n i:Nat} {body:Ss} {xs:List Txt} {e:Txt} (hl:st.fv[lv]?=some (some (.loc n))) (hi:st.fv[iv]?=some (some (.int (i:Int)))) (he:st.fv[ev]?=some (some (.str e))) (hx:st.hp[n]?=some (xs.map .str)) (hb:i < 1000)
  (ne:xs[i]?≠some e) (h1:∀ x,xs[i]?=some x→Q .next st) (h2:xs.length≤i→X st):W (ex (CN d) GT (.whileS (.cmp .eq (.idx (.var lv) (.var iv)) (.var ev)) body) st) Q X:=by
 refine gW (jr (I:=fun _ st'=>st'=st) (fun _ st' e'=>?_) _ 0 _ (by decide) rfl)
 rw [e']
 refine bu (cY (ah hl (ah hi (Bb hx hb (fun x q=>ah he ⟨false,?_,ifF (h1 x q)⟩) h2))))
 show some (decide (x=e))=_
 rw [decide_eq_false fun z=>ne (by rw [q,z])]
end
inductive DS (n m a b:Nat) (xs ys:List Txt) (σ:Hp) (p r q s M U:List Txt):St→Prop
 | mk (i j:Nat) (v6 v7:Option V) (σ':Hp) (hi:i=p.length) (hj:j=q.length) (x:Ext σ σ') (ga:σ'[a]?=some (M.map .str)) (gb:σ'[b]?=some (U.map .str)) (D:DI xs ys p r q s) (eM:M=p.filter (off ys)) (eU:U=q.filter (off xs)) :
  DS n m a b xs ys σ p r q s M U ⟨[some (.loc n),some (.loc m),some (.int i),some (.int j),some (.loc a),some (.loc b),v6,v7],σ'⟩
inductive DOut (xs ys:List Txt) (σ:Hp) (v:V) (σ':Hp):Prop
 | mk (a b:Nat) (e:v = .tup [.loc a,.loc b]) (x:Ext σ σ') (ga:σ'[a]?=some ((xs.filter (off ys)).map .str)) (gb:σ'[b]?=some ((ys.filter (off xs)).map .str))
inductive DW (n m a b:Nat) (xs ys:List Txt) (σ:Hp) (k:Nat) (st:St):Prop
 | mk (p r q s M U:List Txt) (ek:k=r.length+s.length) (h:DS n m a b xs ys σ p r q s M U st)
inductive DE (n m a b:Nat) (xs ys:List Txt) (σ:Hp):St→Prop
 | mk (i j v6 v7:Option V) (σ':Hp) (x:Ext σ σ') (ga:σ'[a]?=some ((xs.filter (off ys)).map .str)) (gb:σ'[b]?=some ((ys.filter (off xs)).map .str)):DE n m a b xs ys σ ⟨[some (.loc n),some (.loc m),i,j,some (.loc a),some (.loc b),v6,v7],σ'⟩
theorem yK {d n m:Nat} {xs ys:List Txt} {σ:Hp} (hx:σ[n]?=some (xs.map .str)) (hy:σ[m]?=some (ys.map .str)) (sx:Srt ltN xs) (sy:Srt ltN ys) (lx:xs.length < 100) (ly:ys.length < 100) :
  Cal (d+1) 10 [.loc n,.loc m] σ (DOut xs ys σ):=by
 refine cW [some (.loc n),some (.loc m),none,none,none,none,none,none] rfl rfl fun R hR=>?_
 refine d4 (st':=⟨[some (.loc n),some (.loc m),some (.int 0),some (.int 0),none,none,none,none],σ⟩) rfl ?_
 refine ai (aM (eu (bc (bG (aQ (aD _)) fun a σ1 x1 ha1 g1=>?_))))
 refine ai (aM (eu (bc (bG (aQ (aD _)) fun b σ2 x2 hb2 g2=>?_))))
 have hab:a≠b:=fun q=>by
  have:=dA g1
  rw [q] at this
  exact absurd hb2 (Nat.not_le_of_lt this)
 have hb1:σ.length≤b:=aj x1.len hb2
 have fin:∀ (p r q s M U:List Txt) (st:St) (Q':Fl→St→Prop),DS n m a b xs ys σ p r q s M U st→(r=[]∨s=[])→(∀ st,DE n m a b xs ys σ st→Q' .brk st) →
   W (exs (CN d) GT (.cons (.expr (.extend (.var 4) (.sliceLo (.var 0) (.var 2)))) (.cons (.expr (.extend (.var 5) (.sliceLo (.var 1) (.var 3)))) (.cons .brk .nil))) st) Q' NX:=by
  intro p r q s M U st Q' h hz k
  obtain⟨i,j,v6,v7,σ',rfl,rfl,x,ga,gb,D,eM,eU⟩:=h
  have lp:p.length≤xs.length:=by rw [D.ex,aa];exact aX _ _
  have lq:q.length≤ys.length:=by rw [D.ey,aa];exact aX _ _
  have lM:M.length≤xs.length:=by rw [eM];exact aj (cz _ _) lp
  have lU:U.length≤ys.length:=by rw [eU];exact aj (cz _ _) lq
  have dx:xs.drop p.length=r:=by rw [D.ex];exact List.drop_left
  have dy:ys.drop q.length=s:=by rw [D.ey];exact List.drop_left
  have lr:r.length≤xs.length:=by rw [←dx,bU];exact dJ _ _
  have ls:s.length≤ys.length:=by rw [←dy,bU];exact dJ _ _
  refine ai (dT (lz (ah rfl (iz (ah rfl (ah rfl (fW (x.get hx) (by rw [okN (by grind)];rfl) ?_ ⟨_,dj _ _,?_,?_⟩)))))))
  ·rw [ka,bU,ae];exact aQ (by grind)
  ·exact fun z=>absurd (dA ga) (by rw [z];exact bx _)
  rw [ka,←List.map_drop,dx]
  refine eN (σ:=σ) (x.trans (Ext.snoc _ _)) ha1 ((Ext.snoc _ _).get ga) (by rw [aa,ae,ae];exact aQ (by grind)) fun σ3 x3 ga3 o3=>?_
  have gb3:=o3 b _ (Ne.symm hab) ((Ext.snoc _ _).get gb)
  refine ai (dT (lz (ah rfl (iz (ah rfl (ah rfl (fW (x3.get hy) (by rw [okN (by grind)];rfl) ?_ ⟨_,dj _ _,?_,?_⟩)))))))
  ·rw [ka,bU,ae];exact aQ (by grind)
  ·exact fun z=>absurd (dA gb3) (by rw [z];exact bx _)
  rw [ka,←List.map_drop,dy]
  refine eN (σ:=σ) (x3.trans (Ext.snoc _ _)) hb1 ((Ext.snoc _ _).get gb3) (by rw [aa,ae,ae];exact aQ (by grind)) fun σ4 x4 gb4 o4=>?_
  have ga4:=o4 a _ hab ((Ext.snoc _ _).get ga3)
  refine ai (Ax (k _ ⟨_,_,_,_,_,x4,?_,?_⟩))
  ·rw [ga4,←bh,eM,yr D hz]
  ·rw [gb4,←bh,eU,yr D.symm hz.symm]
 refine ai (gW (jr (I:=DW n m a b xs ys σ) (fun k st h=>?_) _ (xs.length+ys.length) _ (by show _ < 100000;omega) ⟨[],xs,[],ys,[],[],rfl,⟨0,0,_,_,σ2,rfl,rfl,x1.trans x2,x2.get g1,g2,⟨rfl,rfl,fun _ h=>(nomatch h),fun _ h=>(nomatch h)⟩,rfl,rfl⟩⟩))
 obtain⟨p,r,q,s,M,U,ek,h⟩:=h
 obtain⟨i,j,v6,v7,σ',hi,hj,x,ga,gb,D,eM,eU⟩:=h
 subst hi hj
 refine dn (bb ⟨true,rfl,ifT ?_⟩)
 have lp:p.length+r.length=xs.length:=by rw [D.ex,aa]
 have lq:q.length+s.length=ys.length:=by rw [D.ey,aa]
 have lM:M.length≤p.length:=by rw [eM];exact cz _ _
 have lU:U.length≤q.length:=by rw [eU];exact cz _ _
 have last:∀ st,DE n m a b xs ys σ st→W (exs (CN d) GT (.cons (.ret (.tup (.cons (.var 4) (.cons (.var 5) .nil)))) .nil) st) R NX:=fun st h=>by
  obtain⟨i,j,v6,v7,σ',x,ga,gb⟩:=h
  exact ai (dd (dZ (aB (ah rfl (aB (ah rfl (bc (cw (aQ (aq rfl)) (hR _ _ ⟨a,b,rfl,x,ga,gb⟩)))))))))
 refine ai (AN ?_)
 refine ai (aM (cY (ah rfl (ah rfl (Bb (x.get hx) (by grind) (fun e0 he=>?_) fun hle=>?_)))))
 rotate_left
 ·have hz:r=[]:=aG (by grind)
  exact fin p r q s M U _ _ ⟨_,_,_,_,σ',rfl,rfl,x,ga,gb,D,eM,eU⟩ (.inl hz) last
 refine ai (aM (cY (ah rfl (ah rfl (Bb (x.get hy) (by grind) (fun a0 ha=>?_) fun hle=>?_)))))
 rotate_left
 ·have hz:s=[]:=aG (by grind)
  exact fin p r q s M U _ _ ⟨_,_,_,_,σ',rfl,rfl,x,ga,gb,D,eM,eU⟩ (.inr hz) last
 cases r with
 | nil=>rw [D.ex,al,iK (am _)] at he;cases he
 | cons e1 r=>
 cases s with
 | nil=>rw [D.ey,al,iK (am _)] at ha;cases ha
 | cons a1 s=>
 have he':=he
 have ha':=ha
 rw [D.ex,yf] at he'
 rw [D.ey,yf] at ha'
 obtain rfl:=Option.some.inj he'
 obtain rfl:=Option.some.inj ha'
 have lr:p.length+(r.length+1)=xs.length:=lp
 have ls:q.length+(s.length+1)=ys.length:=lq
 have nx:∀ p',p'=p.length+1→xs[p']?≠some e1:=fun p' hp q=>by
  rw [hp,D.ex,aV (aX _ _),cr] at q
  have:=hG sx D.ex e1 (ac (i:=0) q)
  rw [dF.irr] at this;cases this
 have ny:∀ p',p'=q.length+1→ys[p']?≠some a1:=fun p' hp q=>by
  rw [hp,D.ey,aV (aX _ _),cr] at q
  have:=hG sy D.ey a1 (ac (i:=0) q)
  rw [dF.irr] at this;cases this
 have sn:∀ (p:List Txt) (e:Txt),(p++[e]).length=p.length+1:=fun p e=>aa
 have rz:p.length+1≥xs.length→r=[]:=fun h=>aG (by grind)
 have sz:q.length+1≥ys.length→s=[]:=fun h=>aG (by grind)
 refine ai (ch (bu (ah rfl (ah rfl ⟨_,B2,?_⟩))))
 cases hlt:ltN e1 a1 with
 | true=>
  obtain⟨D',oe⟩:=AI sy D hlt
  have eM':M++[e1]=(p++[e1]).filter (off ys):=by rw [iW oe,eM]
  refine ifT (ai (dT (fY (ah rfl (ah rfl (eN x ha1 ga (by rw [aa,ae];show _+1≤1000000;grind) fun σ3 x3 ga3 o3=>?_))))))
  have ga3':σ3[a]?=some ((M++[e1]).map .str):=by rw [ga3,bh];rfl
  have gb3:=o3 b _ (Ne.symm hab) gb
  refine ai (gu 1 rfl (ai (ll (i:=p.length+1) rfl rfl rfl (x3.get hx) (by grind) (nx _ rfl) (fun x0 _=>?_) fun hle=>?_)))
  ·exact aJ (aJ (aJ ⟨r.length+(a1::s).length,by rw [ek];show _ < r.length+1+_;grind,p++[e1],r,q,a1::s,_,_,rfl,⟨_,_,_,_,σ3,(sn _ _).symm,rfl,x3,ga3',gb3,D',eM',eU⟩⟩))
  ·exact fin (p++[e1]) r q (a1::s) _ _ _ _ ⟨_,_,_,_,σ3,(sn _ _).symm,rfl,x3,ga3',gb3,D',eM',eU⟩ (.inl (rz hle)) last
 | false=>
 refine ifF (ai (ch (bu (ah rfl (ah rfl ⟨_,B4,?_⟩)))))
 cases hgt:ltN a1 e1 with
 | true=>
  obtain⟨D'',oa⟩:=AI sx D.symm hgt
  have D':=D''.symm
  have eU':U++[a1]=(q++[a1]).filter (off xs):=by rw [iW oa,eU]
  refine ifT (ai (dT (fY (ah rfl (ah rfl (eN x hb1 gb (by rw [aa,ae];show _+1≤1000000;grind) fun σ3 x3 gb3 o3=>?_))))))
  have gb3':σ3[b]?=some ((U++[a1]).map .str):=by rw [gb3,bh];rfl
  have ga3:=o3 a _ hab ga
  refine ai (gu 1 rfl (ai (ll (i:=q.length+1) rfl rfl rfl (x3.get hy) (by grind) (ny _ rfl) (fun x0 _=>?_) fun hle=>?_)))
  ·exact aJ (aJ (aJ (aJ ⟨(e1::r).length+s.length,by rw [ek];show _ < (r.length+1)+(s.length+1);show (r.length+1)+_ < _;grind,p,e1::r,q++[a1],s,_,_,rfl,⟨_,_,_,_,σ3,rfl,(sn _ _).symm,x3,ga3,gb3',D',eM,eU'⟩⟩)))
  ·exact fin p (e1::r) (q++[a1]) s _ _ _ _ ⟨_,_,_,_,σ3,rfl,(sn _ _).symm,x3,ga3,gb3',D',eM,eU'⟩ (.inr (sz hle)) last
 | false=>
  obtain rfl:e1=a1:=by
   rcases Classical.em (e1=a1) with z | z
   ·exact z
   ·rcases dF.tot e1 a1 z with z | z
    ·rw [hlt] at z;cases z
    ·rw [hgt] at z;cases z
  have D':=Cv sx sy D
  have eM':M=(p++[e1]).filter (off ys):=by rw [iX (AE (by rw [D.ey];exact bm _ (.head _))),eM]
  have eU':U=(q++[e1]).filter (off xs):=by rw [iX (AE (by rw [D.ex];exact bm _ (.head _))),eU]
  have S':∀ v6 v7,DS n m a b xs ys σ (p++[e1]) r (q++[e1]) s M U ⟨[some (.loc n),some (.loc m),some (.int (p.length+1:Nat)),some (.int (q.length+1:Nat)),some (.loc a),some (.loc b),v6,v7],σ'⟩:=fun v6 v7=>⟨_,_,v6,v7,σ',(sn _ _).symm,(sn _ _).symm,x,ga,gb,D',eM',eU'⟩
  refine ifF (ai (gu 1 rfl (ai (AO (ai (ll (i:=p.length+1) rfl rfl rfl (x.get hx) (by grind) (nx _ rfl) (fun x0 _=>?_) fun hle=>?_))))))
  ·refine aJ (ai (gu 1 rfl (ai (ll (i:=q.length+1) rfl rfl rfl (x.get hy) (by grind) (ny _ rfl) (fun x0 _=>?_) fun hle=>?_))))
   ·exact aJ ⟨rfl,aJ (aJ (aJ (aJ ⟨r.length+s.length,by rw [ek];show _ < (r.length+1)+(s.length+1);grind,_,_,_,_,_,_,rfl,S' _ _⟩)))⟩
   ·exact fin _ _ _ _ _ _ _ _ (S' _ _) (.inr (sz hle)) last
  ·refine ai (gu 1 rfl (ai (ll (i:=q.length+1) rfl rfl rfl (x.get hy) (by grind) (ny _ rfl) (fun x0 _=>?_) fun hle'=>?_)))
   ·exact aJ ⟨rfl,fin _ _ _ _ _ _ _ _ (S' _ _) (.inl (rz hle)) last⟩
   ·exact fin _ _ _ _ _ _ _ _ (S' _ _) (.inl (rz hle)) last
noncomputable def std (c:Nat):Bool:=decide (c=9∨c=10)||(decide (32≤c∧c≤126)&&!decide (c=47∨c=61))
noncomputable def lineEnd (r:Name):Bool:=r.isEmpty||decide (r.head?=some 10)
noncomputable def stnd (c:Nat) (r:Name):Bool:=if (decide (c=9∨c=32)&&lineEnd r)=true then false else std c
noncomputable def sg1:Name→List Sign
 | []=>[]
 | c::r=>(if stnd c r then (c,0) else (61,c))::sg1 r
noncomputable def sg0 (n:Name):List Sign:=n.map fun c=>(61,c)
noncomputable def sgB (b:Bool) (n:Name):List Sign:=if b then sg1 n else sg0 n
noncomputable def back (s:Sign):Nat:=if s.1=61 then s.2 else s.1
theorem std61:std 61=false:=by decide
theorem std47:std 47=false:=by decide
theorem qm {c:Nat} {r:Name} (h:stnd c r=true):std c=true:=by
 unfold stnd at h
 by_cases q:(decide (c=9∨c=32)&&lineEnd r)=true
 ·rw [if_pos q] at h;cases h
 ·rw [if_neg q] at h;exact h
theorem lQ (n:Name):(sg1 n).map back=n:=by
 induction n with
 | nil=>rfl
 | cons c r ih=>
  show back (if stnd c r then (c,0) else (61,c))::(sg1 r).map back=_
  rw [ih]
  congr 1
  cases h:stnd c r with
  | false=>rfl
  | true=>
   have:c≠61:=fun q=>by have:=qm h;rw [q,std61] at this;cases this
   exact if_neg this
theorem t6 {n:Name} {x:Sign} (h:x∈sg1 n):(x.2=0∧std x.1=true)∨(x.1=61∧x.2∈n):=by
 induction n with
 | nil=>cases h
 | cons c r ih=>
  rcases az.mp h with q | q
  ·rw [q]
   cases h:stnd c r with
   | false=>exact .inr ⟨rfl,.head _⟩
   | true=>exact .inl ⟨rfl,qm h⟩
  ·rcases ih q with z | z
   ·exact .inl z
   ·exact .inr ⟨z.1,.tail _ z.2⟩
theorem xr:SgOk sg1 where
 sep:=fun n x h q=>by
  rcases t6 h with z | z
  ·rw [q,std47] at z;cases z.2
  ·rw [q] at z;cases z.1
 inj:=fun n m h=>by rw [←lQ n,h,lQ]
theorem qp (n:Name):(sg0 n).map back=n:=by
 unfold sg0
 rw [c6]
 exact (cO fun c _=>rfl).trans (ut _)
theorem kW {n:Name} {x:Sign} (h:x∈sg0 n):x.1=61∧x.2∈n:=by
 obtain⟨c,hc,rfl⟩:=bE.mp h
 exact⟨rfl,hc⟩
theorem xt:SgOk sg0 where
 sep:=fun n x h q=>by rw [q] at h;cases (kW h).1
 inj:=fun n m h=>by rw [←qp n,h,qp]
theorem oK (b:Bool):SgOk (sgB b):=by cases b;exact xt;exact xr
noncomputable def sgV (x:Sign):V:=.tup [.int x.1,.int x.2]
section
variable {call:CallT} {G:Nat→Option V} {cv:Option V} {st:St} {Q:V→St→Prop} {X:St→Prop} {a b c:E} {o1 o2:Cop}
def pCh3 (o2:Cop) (y:V) (Q:V→St→Prop) (z:V) (st:St):Prop:=∃ r,cmpop o2 y z st.hp=some r∧Q (.bool r) st
def pCh2 (call:CallT) (G:Nat→Option V) (cv:Option V) (o1 o2:Cop) (c:E) (x:V) (Q:V→St→Prop) (X:St→Prop) (y:V) (st:St):Prop:=∃ r,cmpop o1 x y st.hp=some r∧if r then W (ev call G cv c st) (pCh3 o2 y Q) X else Q (.bool false) st
def pCh (call:CallT) (G:Nat→Option V) (cv:Option V) (o1 o2:Cop) (b c:E) (Q:V→St→Prop) (X:St→Prop) (x:V) (st:St):Prop:=W (ev call G cv b st) (pCh2 call G cv o1 o2 c x Q X) X
theorem zp (h:W (ev call G cv a st) (pCh call G cv o1 o2 b c Q X) X):W (ev call G cv (.chain o1 o2 a b c) st) Q X:=
 ko h fun _ _ _ ⟨r,e,q⟩=>aK (eO e (by
  cases r with
  | true=>exact aK (bi q (fun _ _ ⟨r,e,q⟩=>aK (eO e (js q))) fun _ h=>h)
  | false=>exact js q))
end
theorem po {c a b:Nat} {σ:Hp}:cmpop .isin (.int (c:Int)) (.tup [.int (a:Int),.int (b:Int)]) σ=some (decide (c=a∨c=b)):=by
 show some (decide ((a:Int)=c)||(decide ((b:Int)=c)||false))=_
 congr 1
 by_cases h1:c=a
 ·have z:(a:Int)=c:=by rw [h1]
  have z':c=a∨c=b:=.inl h1
  rw [decide_eq_true z,decide_eq_true z'];rfl
 ·by_cases h2:c=b
  ·have z:(b:Int)=c:=by rw [h2]
   have z':c=a∨c=b:=.inr h2
   rw [decide_eq_true z,decide_eq_true z',Bool.true_or,kH]
  ·rw [decide_eq_false (by grind),decide_eq_false (by grind),decide_eq_false (by grind)];rfl
theorem ite_t {A B:Prop} {b:Bool} (h:b=true) (k:A):if b=true then A else B:=by rw [if_pos h];exact k
theorem ite_f {A B:Prop} {b:Bool} (h:b=false) (k:B):if b=true then A else B:=by rw [if_neg (by rw [h];exact aA)];exact k
theorem le_int {a b:Nat} {σ:Hp}:cmpop .le (.int (a:Int)) (.int (b:Int)) σ=some (decide (a≤b)):=by
 show some (decide ((a:Int)≤b))=_
 congr 1
 by_cases h:a≤b
 ·rw [decide_eq_true h,decide_eq_true (c7.mpr h)]
 ·rw [decide_eq_false h,decide_eq_false fun q=>h (c7.mp q)]
theorem ym {a b:Nat} {σ:Hp}:cmpop .eq (.int (a:Int)) (.int (b:Int)) σ=some (decide (a=b)):=by
 show some (decide ((a:Int)=b))=_
 congr 1
 by_cases h:a=b
 ·rw [decide_eq_true h,decide_eq_true (by rw [h])]
 ·have z:¬(a:Int)=b:=fun q=>h (Int.ofNat.inj q)
  rw [decide_eq_false h,decide_eq_false z]
theorem BW {s t:Txt} {σ:Hp}:cmpop .eq (.str s) (.str t) σ=some (decide (s=t)):=rfl
theorem Cd {d c:Nat} {cv:Option V} {st:St} {Q:V→St→Prop} {X:St→Prop} (h3:st.fv[3]?=some (some (.int (c:Int)))) (h:Q (.bool (std c)) st) :
  W (ev (CN d) GT cv (.or (.cmp .isin (.var 3) (.tup (.cons (.lit (.int 9)) (.cons (.lit (.int 10)) .nil)))) (.and (.chain .le .le (.lit (.int 32)) (.var 3) (.lit (.int 126))) (.cmp .notin (.var 3) (.tup (.cons (.lit (.int 47)) (.cons (.lit (.int 61)) .nil)))))) st) Q X:=by
 refine w_or (Aw (ah h3 (dZ (aB (bb (aB (bb (bc (cw (aQ (aq rfl)) ⟨_,po (a:=9) (b:=10),_,rfl,?_⟩)))))))))
 cases h1:decide (c=9∨c=10) with
 | true=>
  refine ifT ?_
  unfold std at h
  rw [h1] at h
  exact h
 | false=>
  refine ifF (Ay (zp (bb (ah h3 ⟨_,le_int (a:=32),?_⟩))))
  have fin:∀ b,decide (32≤c∧c≤126)=b→∃ r,truth st.hp (.bool b)=some r∧if r=true then W (ev (CN d) GT cv (.cmp .notin (.var 3) (.tup (.cons (.lit (.int 47)) (.cons (.lit (.int 61)) .nil)))) st) Q X else Q (.bool b) st:=fun b hb=>by
   refine⟨b,rfl,?_⟩
   unfold std at h
   rw [h1,hb] at h
   cases b with
   | false=>exact ifF h
   | true=>
    refine ifT (Aw (ah h3 (dZ (aB (bb (aB (bb (bc (cw (aQ (aq rfl)) ⟨_,?_,h⟩)))))))))
    show cX _ (cmpop .isin (.int (c:Int)) (.tup [.int (47:Nat),.int (61:Nat)]) st.hp)=_
    rw [po];rfl
  cases h2:decide (32≤c) with
  | false=>exact ifF (fin false (decide_eq_false fun q=>of_decide_eq_false h2 q.1))
  | true=>
   refine ifT (bb ⟨_,le_int (b:=126),fin _ ?_⟩)
   by_cases q:c≤126
   ·rw [decide_eq_true q,decide_eq_true ⟨of_decide_eq_true h2,q⟩]
   ·rw [decide_eq_false q,decide_eq_false fun z=>q z.2]
inductive SgI (n:Name) (a:Nat) (σ:Hp) (i:Nat):St→Prop
 | mk (p r:Name) (acc:List Sign) (v2 v3 v4:Option V) (σ':Hp) (e1:n=p++r) (e2:i=p.length) (e3:acc++sg1 r=sg1 n) (e4:acc.length=p.length) (x:Ext σ σ') (g:σ'[a]?=some (acc.map sgV)):SgI n a σ i ⟨[some (.str n),some (.loc a),v2,v3,v4],σ'⟩
theorem kf {d:Nat} {n:Name} {σ:Hp} (hn:n.length < 1000):Cal (d+1) 14 [.str n] σ fun v σ'=>∃ a,v = .loc a∧Ext σ σ'∧σ.length≤a∧σ'[a]?=some ((sg1 n).map sgV):=by
 refine cW [some (.str n),none,none,none,none] rfl rfl fun R hR=>?_
 refine ai (aM (eu (bc (bG (aQ (aD _)) fun a σ1 x1 ha1 g1=>?_))))
 have hz:((n.length:Int) - 0).toNat=n.length:=by grind
 refine ai (wI (eT (ah rfl (lm ⟨rfl,bg _,c7.mpr (aQ (by grind)),?_⟩))))
 rw [hz]
 refine oC (I:=SgI n a σ) 0 n.length (fun i st hi h=>?_) (fun st h=>?_) _ _ _ (cJ _) ⟨[],n,[],_,_,_,σ1,rfl,rfl,rfl,rfl,x1,g1⟩
 ·obtain⟨p,r,acc,v2,v3,v4,σ',e1,e2,e3,e4,x,g⟩:=h
  rw [cJ]
  cases r with
  | nil=>rw [e1,al] at hi;grind
  | cons c r=>
  have hln:n.length=p.length+(r.length+1):=by rw [e1,aa];rfl
  have gc:n[i]?=some c:=by rw [e1,e2,aV (am _),fA];rfl
  refine ai (aM (eT (cY (ah rfl (ah rfl (gq (bM gc) (Av ?_)))))))
  refine ai (aM (Cd rfl ?_))
  have fin:∀ (b:Bool) (st:St) (R':Fl→St→Prop),b=stnd c r→st=⟨[some (.str n),some (.loc a),some (.int (i:Int)),some (.int (c:Int)),some (.bool b)],σ'⟩ →
    (∀ st,SgI n a σ (i+1) st→R' .next st) →
    W (exs (CN d) GT (.cons (.expr (.append (.var 1) (.ife (.val (.var 4)) (.tup (.cons (.var 3) (.cons (.lit (.int 0)) .nil))) (.tup (.cons (.lit (.int 61)) (.cons (.var 3) .nil)))))) .nil) st) R' NX:=by
   intro b st R' hb e hR
   rw [e]
   refine ai (dT (fY (ah rfl (wH (dn (ah rfl ⟨b,rfl,?_⟩))))))
   have key:∀ v,v=sgV (if stnd c r then (c,0) else (61,c))→W (setList a (·++[v]) ⟨[some (.str n),some (.loc a),some (.int (i:Int)),some (.int (c:Int)),some (.bool b)],σ'⟩) (fun _ st=>W (exs (CN d) GT .nil st) R' NX) NX:=fun v ev=>by
    refine eN x ha1 g (by rw [aa,ae];show _+1≤1000000;grind) fun σ2 x2 g2 _=>aJ (hR _ ⟨p++[c],r,acc++[if stnd c r then (c,0) else (61,c)],_,_,_,σ2,by rw [e1,aw];rfl,by rw [e2,aa];rfl,by rw [←e3,aw];rfl,by rw [aa,aa,e4];rfl,x2,?_⟩)
    rw [g2,ev,bh];rfl
   cases b with
   | true=>exact ifT (dZ (aB (ah rfl (aB (bb (bc (cw (aQ (aq rfl)) (key _ (by rw [←hb];rfl)))))))))
   | false=>exact ifF (dZ (aB (bb (aB (ah rfl (bc (cw (aQ (aq rfl)) (key _ (by rw [←hb];rfl)))))))))
  refine ai (ch (fL (cD (bu (ah rfl (dZ (aB (bb (aB (bb (bc (cw (aQ (aq rfl)) ⟨_,po (a:=9) (b:=32),?_⟩))))))))))))
  cases h1:decide (c=9∨c=32) with
  | false=>
   refine ifF (ifF (aJ (fin _ _ _ ?_ rfl fun st h=>h)))
   unfold stnd
   rw [h1];rfl
  | true=>
   have hs:stnd c r=if lineEnd r=true then false else std c:=by unfold stnd;rw [h1];rfl
   refine ifT<|cD<|wQ<|nl<|bu<|df<|ah rfl<|bb<|eW<|eT<|ah rfl<|lm ⟨_,ym (a:=i+1),?_⟩
   cases h2:decide (i+1=n.length) with
   | true=>
    have hr:r=[]:=aG (by have:=of_decide_eq_true h2;grind)
    refine ifT (ifT (eV (ifT (ai (aM (bb (aJ (fin false _ _ ?_ rfl fun st h=>h))))))))
    rw [hs,hr];rfl
   | false=>
    have hlt:i+1 < n.length:=by have:=of_decide_eq_false h2;grind
    cases r with
    | nil=>exfalso;rw [hln,e2] at hlt;exact absurd hlt (bx _)
    | cons x r=>
    have gx:n[i+1]?=some x:=by rw [e1,e2,aV (aX _ _),cr];rfl
    refine ifF (nl (bu (cY (ah rfl (df (ah rfl (bb (eW (gq (bM (j:=i+1) gx) (bb ⟨_,BW,?_⟩))))))))))
    cases h3:decide ([x]=[10]) with
    | true=>
     refine ifT (ifT (eV (ifT (ai (aM (bb (aJ (fin false _ _ ?_ rfl fun st h=>h))))))))
     rw [hs,(List.cons.inj (of_decide_eq_true h3)).1];rfl
    | false=>
     refine ifF (wz (ifF (ifF (aJ (fin _ _ _ ?_ rfl fun st h=>h)))))
     rw [hs]
     refine (if_neg ?_).symm
     show ¬(false||decide (some x=some 10))=true
     rw [decide_eq_false fun z=>of_decide_eq_false h3 (by rw [Option.some.inj z])]
     exact aA
 ·obtain⟨p,r,acc,v2,v3,v4,σ',e1,e2,e3,e4,x,g⟩:=h
  have hr:r=[]:=aG (by have:=congrArg eE e1;rw [aa] at this;grind)
  rw [hr] at e3
  have:acc=sg1 n:=by rw [←e3];exact (al _).symm
  rw [this] at g
  exact ai (dd (ah rfl (hR _ _ ⟨a,rfl,x,ha1,g⟩)))
theorem oL (n:Name):(sg1 n).length=n.length:=by
 have:=congrArg eE (lQ n)
 rwa [ae] at this
theorem yH {d a:Nat} {e:Entry} {σ:Hp} (g:σ[a]?=some (e.map .str)) (he:e.length < 100) (hn:∀ n∈e,n.length < 100):Cal (d+2) 15 [.loc a] σ fun v σ'=>∃ b,v = .loc b∧Ext σ σ'∧σ.length≤b∧σ'[b]?=some ((rowOf sg1 e).map sgV):=by
 refine cW [some (.loc a),none,none] rfl rfl fun R hR=>?_
 refine ai (aM (eu (bc (bG (aQ (aD _)) fun b σ1 x1 hb1 g1=>?_))))
 refine ai (eQ (ah rfl ?_))
 refine kq (I:=fun i=>FI (fun v2=>[some (.loc a),some (.loc b),v2]) fun _ σ'=>Ext σ σ'∧σ'[b]?=some ((rowOf sg1 (e.take i)).map sgV)∧(rowOf sg1 (e.take i)).length≤101 * i) (e.map .str)
  (fun i st h=>by cases h with | mk v2 σ' h=>exact fM (h.1.get g)) (fun i y st hy h=>?_) (fun st h=>?_) _ _ _ (aD _) (by rw [ae];show _ - 0 < 100000;omega) ⟨_,σ1,x1,g1,aD _⟩
 ·obtain⟨v2,σ',x,gb,hl⟩:=h
  rw [aN] at hy
  obtain⟨n,hn1,rfl⟩:=aF.mp hy
  obtain⟨hi,rfl⟩:=ag.mp hn1
  have hnl:=hn _ (cy hi)
  have hstep:rowOf sg1 (e.take (i+1))=rowOf sg1 (e.take i)++[SEP]++sg1 e[i]:=by
   rw [av hi,gz,hU]
   show _++(SEP::(sg1 e[i]++[]))=_
   rw [al,aw];rfl
  have hl2:(rowOf sg1 (e.take (i+1))).length≤101 * (i+1):=by
   rw [hstep,aa,aa,oL]
   show _+1+_≤_
   grind
  refine ai<|dT<|fY<|ah rfl<|dZ<|aB<|bb<|aB<|bb<|bc<|cw (aQ (aq rfl)) ?_
  refine eN x hb1 gb (by rw [aa,ae];show _+1≤1000000;grind) fun σ2 x2 gb2 _=>?_
  refine ai (dT (lz (ah rfl (bN (aB (ah rfl (bc (dE (kf (by grind)) fun v σ3 ⟨c,ev,x3,hc,gc⟩=>?_))))))))
  rw [ev]
  have hbc:b≠c:=aP (aE (dA gb2) hc)
  refine⟨_,gc,hbc,eN (σ:=σ) (x2.trans x3) hb1 (x3.get gb2) ?_ fun σ4 x4 gb4 _=>aJ ⟨_,σ4,x4,?_,hl2⟩⟩
  ·rw [aa,aa,ae,ae,oL];show _+1+_≤1000000;grind
  ·rw [gb4,hstep,bh,bh];rfl
 ·obtain⟨v2,σ',x,gb,_⟩:=h
  rw [ae,bj] at gb
  exact ai (dd (ah rfl (hR _ _ ⟨b,rfl,x,hb1,gb⟩)))
noncomputable def OCT:List Nat:=[46,97,33,98,32,45,61,9,126,48,95,0,10,47,133,255]
noncomputable def PRE:List Name:=[]::OCT.map fun c=>[c]
noncomputable def NameOk (n:Name):Prop:=∃ a∈OCT.drop 1,∃ b∈PRE,∃ c∈PRE,n=a::(b++c)
noncomputable def txt (x:Sign):Txt:=if x.1=61 then quoted x.2 else [x.1]
noncomputable def enc (b:Bool) (n:Name):Txt:=(sgB b n).flatMap txt
noncomputable def tr (c:Nat):Txt:=if encodesItself c then [c] else quoted c
noncomputable def repl (c:Nat):Txt:=if c=47 then [61,50,70] else [c]
noncomputable def ckD (s:Txt) (n:Name):Bool:=!s.isEmpty&&(s.all plainSign&&(decide (s.length < 30)&&(decide ((linesL s).length < 1000)&&(((linesL s).all fun l=>decide ((rstripL PySem.Unicode.isSpace l).length < 1000))&&(decide ((decAll s).length≤1000)&&(decide (decB s=n)&&(!decide (47∈s)&&!decide (s=[46]))))))))
noncomputable def ckE (n:Name) (t:Txt):Bool:=t.all plainSign&&(decide (t.length < 60)&&(decide ((linesL t).length < 60)&&(((linesL t).all fun l=>decide (l.length < 60))&&(decide ((encB t).length≤1000)&&(!t.isEmpty&&decide ((encB t).flatMap repl=enc true n))))))
noncomputable def ck (n:Name):Bool:=ckE n (n.flatMap tr)&&(ckD (enc true n) n&&ckD (enc false n) n)
noncomputable def ckA (a:Nat):Bool:=PRE.all fun b=>PRE.all fun c=>ck (a::(b++c))
theorem ck97:ckA 97=true:=by decide +kernel
theorem ck33:ckA 33=true:=by decide +kernel
theorem ck98:ckA 98=true:=by decide +kernel
theorem ck32:ckA 32=true:=by decide +kernel
theorem ck45:ckA 45=true:=by decide +kernel
theorem ck61:ckA 61=true:=by decide +kernel
theorem ck9:ckA 9=true:=by decide +kernel
theorem ck126:ckA 126=true:=by decide +kernel
theorem ck48:ckA 48=true:=by decide +kernel
theorem ck95:ckA 95=true:=by decide +kernel
theorem ck0:ckA 0=true:=by decide +kernel
theorem ck10:ckA 10=true:=by decide +kernel
theorem ck47:ckA 47=true:=by decide +kernel
theorem ck133:ckA 133=true:=by decide +kernel
theorem ck255:ckA 255=true:=by decide +kernel
theorem B6:((OCT.drop 1).all ckA)=true:=by
 show (ckA 97&&(ckA 33&&(ckA 98&&(ckA 32&&(ckA 45&&(ckA 61&&(ckA 9&&(ckA 126&&(ckA 48&&(ckA 95&&(ckA 0&&(ckA 10&&(ckA 47&&(ckA 133&&(ckA 255&&true)))))))))))))))=true
 rw [ck97,ck33,ck98,ck32,ck45,ck61,ck9,ck126,ck48,ck95,ck0,ck10,ck47,ck133,ck255];rfl
theorem un {n:Name} (h:NameOk n):ck n=true:=by
 obtain⟨a,ha,b,hb,c,hc,rfl⟩:=h
 exact ax.mp (ax.mp (ax.mp B6 a ha) b hb) c hc
theorem dM {a b:Bool} (h:(a&&b)=true):a=true:=by cases a;cases h;rfl
theorem dm {a b:Bool} (h:(a&&b)=true):b=true:=by cases a;cases h;exact h
theorem notT {a:Bool} (h:(!a)=true):a=false:=by cases a;rfl;cases h
theorem hZ {α:Type} {l:List α} (h:(!l.isEmpty)=true):l≠[]:=fun q=>by rw [q] at h;cases h
theorem lX:∀ b∈PRE,b.length≤1∧∀ c∈b,c < 256:=by decide
theorem BC:∀ a∈OCT.drop 1,a < 256:=by decide
section
variable {n:Name}
theorem NameOk.lt (h:NameOk n):∀ c∈n,c < 256:=by
 obtain⟨a,ha,b,hb,c,hc,rfl⟩:=h
 intro x hx
 rcases az.mp hx with q | q
 ·rw [q];exact BC a ha
 ·exact (aU.mp q).elim ((lX b hb).2 x) ((lX c hc).2 x)
theorem NameOk.len (h:NameOk n):n.length≤3:=by
 obtain⟨a,ha,b,hb,c,hc,rfl⟩:=h
 have h1:=(lX b hb).1
 have h2:=(lX c hc).1
 rw [cR,aa];grind
theorem NameOk.ne (h:NameOk n):n≠[]:=by
 obtain⟨a,ha,b,hb,c,hc,rfl⟩:=h
 exact fun q=>nomatch q
theorem xb (h:∀ c∈n,c < 256):transL TAB n=some (n.flatMap tr):=by
 induction n with
 | nil=>rfl
 | cons c r ih=>
  show (match TAB[c]?,transL TAB r with | some (.str s),some t=>some (s++t) | _,_=>.none)=_
  have e:TAB[c]?=some (.str (tr c)):=iT (h c (.head _))
  rw [e,ih fun c hc=>h c (.tail _ hc)]
  rfl
theorem yo {d:Nat} {σ:Hp} (h:NameOk n):Cal (d+2) 2 [.str n] σ fun v σ'=>∃ t,v = .str t∧Ext σ σ'∧t.flatMap repl=enc true n:=by
 have k:=dM (un h)
 unfold ckE at k
 have k1:=dm k
 have k2:=dm k1
 have k3:=dm k2
 have k4:=dm k3
 have k5:=dm k4
 exact (tu h.ne (xb h.lt) (dM k) (of_decide_eq_true (dM k1)) (of_decide_eq_true (dM k2)) (dM k3) (of_decide_eq_true (dM k4)) (hZ (dM k5))).mono fun v σ' ⟨e,x⟩=>⟨_,e,x,of_decide_eq_true (dm k5)⟩
theorem rm {b:Bool} (h:NameOk n):ckD (enc b n) n=true:=by
 have k:=dm (un h)
 cases b with
 | true=>exact dM k
 | false=>exact dm k
theorem yt {d:Nat} {b:Bool} {σ:Hp} (h:NameOk n):Cal (d+2) 3 [.str (enc b n)] σ fun v σ'=>v = .str n∧Ext σ σ':=by
 have k:=rm (b:=b) h
 unfold ckD at k
 have k1:=dm k
 have k2:=dm k1
 have k3:=dm k2
 have k4:=dm k3
 have k5:=dm k4
 have k6:=dm k5
 exact (tv (hZ (dM k)) (dM k1) (bw (of_decide_eq_true (dM k2)) (by decide)) (of_decide_eq_true (dM k3)) (dM k4) (of_decide_eq_true (dM k5))).mono fun v σ' ⟨e,x⟩=>⟨by rw [e,of_decide_eq_true (dM k6)],x⟩
theorem ik {b:Bool} (h:NameOk n):Part (enc b n)∧(enc b n).length < 30:=by
 have k:=rm (b:=b) h
 unfold ckD at k
 have k2:=dm (dm k)
 have k7:=dm (dm (dm (dm (dm k2))))
 exact⟨⟨hZ (dM k),of_decide_eq_false (notT (dM k7)),of_decide_eq_false (notT (dm k7))⟩,of_decide_eq_true (dM k2)⟩
end
noncomputable abbrev num (a b:Nat):Bool:=decide (a < b)
def SgV (x:Sign):Prop:=(x.1=61∧x.2 < 256)∨(x.1≠61∧x.2=0)
theorem yc {a b:Nat} (ha:a < 16) (hb:b < 16):num (hexDigit a) (hexDigit b)=num a b:=by
 unfold num
 by_cases h:a < b
 ·rw [decide_eq_true h,decide_eq_true]
  unfold hexDigit
  split<;>split<;>grind
 ·rw [decide_eq_false h,decide_eq_false]
  unfold hexDigit
  split<;>split<;>grind
theorem yb {a b:Nat} (ha:a < 16) (hb:b < 16) (h:a≠b):hexDigit a≠hexDigit b:=by
 unfold hexDigit
 split<;>split<;>grind
theorem u0 {a b:Nat} (ha:a < 256) (hb:b < 256) (h:a≠b) (u v:Txt):lx num (quoted a++u) (quoted b++v)=num a b:=by
 show lx num (61::hexDigit (a / 16)::hexDigit (a % 16)::u) (61::hexDigit (b / 16)::hexDigit (b % 16)::v)=_
 rw [cC]
 by_cases q:a / 16=b / 16
 ·rw [q,cC,dl (yb (by grind) (by grind) (by grind)),yc (by grind) (by grind)]
  unfold num
  congr 1
  exact propext ⟨fun _=>by grind,fun _=>by grind⟩
 ·rw [dl (yb (by grind) (by grind) q),yc (by grind) (by grind)]
  unfold num
  congr 1
  exact propext ⟨fun _=>by grind,fun _=>by grind⟩
theorem tU {x:Sign} (h:x.1=61):txt x=quoted x.2:=if_pos h
theorem tV {x:Sign} (h:x.1≠61):txt x=[x.1]:=if_neg h
theorem xq {x y:Sign} (h:x.1≠y.1):sl x y=num x.1 y.1:=if_neg h
theorem Bg {x y:Sign} (hx:SgV x) (hy:SgV y) (h:x≠y) (u v:Txt):lx num (txt x++u) (txt y++v)=sl x y:=by
 have ne:x.1=y.1→x.2≠y.2:=fun q z=>h (ou q z)
 rcases hx with ⟨x1,x2⟩ | ⟨x1,x2⟩
 ·rw [tU x1]
  rcases hy with ⟨y1,y2⟩ | ⟨y1,y2⟩
  ·have e:x.1=y.1:=x1.trans y1.symm
   rw [tU y1,u0 x2 y2 (ne e)]
   exact (if_pos e).symm
  ·have e:x.1≠y.1:=fun q=>y1 (q▸x1)
   rw [tV y1,xq e,x1]
   show lx num (61::_) (y.1::v)=_
   exact dl (Ne.symm y1) _ _
 ·rw [tV x1]
  rcases hy with ⟨y1,y2⟩ | ⟨y1,y2⟩
  ·have e:x.1≠y.1:=fun q=>x1 (q▸y1)
   rw [tU y1,xq e,y1]
   show lx num (x.1::u) (61::_)=_
   exact dl x1 _ _
  ·have e:x.1≠y.1:=fun q=>ne q (x2.trans y2.symm)
   rw [tV y1,xq e]
   show lx num (x.1::u) (y.1::v)=_
   exact dl e _ _
theorem Be (x:Sign):∃ c t,txt x=c::t:=by
 by_cases h:x.1=61
 ·rw [tU h];exact⟨_,_,rfl⟩
 ·rw [tV h];exact⟨_,_,rfl⟩
theorem zV:∀ (p q:List Sign),(∀ x∈p,SgV x)→(∀ x∈q,SgV x)→lx num (p.flatMap txt) (q.flatMap txt)=lx sl p q:=by
 intro p
 induction p with
 | nil=>
  intro q _ _
  cases q with
  | nil=>rfl
  | cons y q=>
   obtain⟨c,t,e⟩:=Be y
   show lx num [] (txt y++_)=true
   rw [e];rfl
 | cons x p ih=>
  intro q hp hq
  cases q with
  | nil=>rw [mf];exact mf _
  | cons y q=>
   show lx num (txt x++p.flatMap txt) (txt y++q.flatMap txt)=_
   by_cases h:x=y
   ·rw [h,oY,cC,ih q (fun x hx=>hp x (.tail _ hx)) fun x hx=>hq x (.tail _ hx)]
   ·rw [Bg (hp x (.head _)) (hq y (.head _)) h,dl h]
structure EntOk (e:Entry):Prop where
 nm:∀ n∈e,NameOk n
 len:e.length≤3
noncomputable def parts (b:Bool) (e:Entry):List Txt:=e.map (enc b)
noncomputable def txtE (b:Bool) (e:Entry):Txt:=text (parts b e)
theorem rB (b:Bool) (e:Entry):body (parts b e)=(rowOf (sgB b) e).flatMap txt:=by
 induction e with
 | nil=>rfl
 | cons n e ih=>
  show 47::enc b n++body (parts b e)=(SEP::(sgB b n++rowOf (sgB b) e)).flatMap txt
  rw [ih,dN,cP]
  rfl
section
variable {b:Bool} {e f:Entry}
theorem nI (h:EntOk e):∀ x∈rowOf (sgB b) e,SgV x:=by
 intro x hx
 obtain⟨n,hn,hx⟩:=List.mem_flatMap.mp hx
 rcases az.mp hx with q | q
 ·rw [q];exact .inr ⟨by decide,rfl⟩
 ·have lt:=(h.nm n hn).lt
  cases b with
  | false=>exact .inl ⟨(kW q).1,lt _ (kW q).2⟩
  | true=>
   rcases t6 q with z | z
   ·exact .inr ⟨fun y=>(by have:=z.2;rw [y,std61] at this;cases this),z.1⟩
   ·exact .inl ⟨z.1,lt _ z.2⟩
theorem kQ (he:EntOk e) (hf:EntOk f):ltN (txtE b e) (txtE b f)=er (sgB b) e f:=by
 have main:lx num (body (parts b e)) (body (parts b f))=er (sgB b) e f:=by rw [rB,rB];exact zV _ _ (nI he) (nI hf)
 have one:∀ {n:Name} {f:Entry},EntOk (n::f)→∃ c t,txtE b (n::f)=47::c::t:=fun {n f} h=>by
  have:=(ik (b:=b) (h.nm n (.head _))).1.ne
  show ∃ c t,text (enc b n::parts b f)=_
  rw [eH]
  show ∃ c t,47::(enc b n++body (parts b f))=_
  cases q:enc b n with
  | nil=>exact absurd q this
  | cons c t=>exact⟨c,t++body (parts b f),rfl⟩
 rw [oX]
 cases e with
 | nil=>
  cases f with
  | nil=>rfl
  | cons m f=>
   obtain⟨c,t,q⟩:=one hf
   rw [q];rfl
 | cons n e=>
  cases f with
  | nil=>
   obtain⟨c,t,q⟩:=one he
   rw [q];rfl
  | cons m f=>rw [←main];show lx num (text (enc b n::parts b e)) (text (enc b m::parts b f))=_;rw [eH,eH];rfl
theorem jz (he:EntOk e) (hf:EntOk f) (h:txtE b e=txtE b f):e=f:=by
 rcases Classical.em (e=f) with q | q
 ·exact q
 ·rcases (ii (oK b)).tot e f q with z | z
  ·rw [←kQ he hf,h,dF.irr] at z;cases z
  ·rw [←kQ hf he,h,dF.irr] at z;cases z
theorem Am {n m:Name} (hn:NameOk n) (hm:NameOk m) (h:enc b n=enc b m):n=m:=by
 have k:∀ {n},NameOk n→EntOk [n]:=fun h=>⟨fun m q=>by rw [ay.mp q];exact h,aq rfl⟩
 have:=jz (b:=b) (k hn) (k hm) (by show text [enc b n]=text [enc b m];rw [h])
 exact (List.cons.inj this).1
theorem hV (h:EntOk e):(∀ c∈parts b e,Part c)∧(body (parts b e)).length≤31 * e.length:=by
 replace h:=h.nm
 induction e with
 | nil=>exact⟨fun c h=>(nomatch h),aD _⟩
 | cons n e ih=>
  obtain⟨h1,h2⟩:=ih fun m hm=>h m (.tail _ hm)
  obtain⟨p1,p2⟩:=ik (b:=b) (h n (.head _))
  refine⟨fun c hc=>(az.mp hc).elim (fun q=>by rw [q];exact p1) (h1 c),?_⟩
  show (47::(enc b n++body (parts b e))).length≤31 * (e.length+1)
  rw [cR,aa]
  grind
theorem EntOk.take (h:EntOk e) (k:Nat):EntOk (e.take k):=⟨fun n hn=>h.nm n (iY hn),aj (by rw [bC];exact eA _ _) h.len⟩
theorem EntOk.drop1 (h:EntOk e):EntOk e.dropLast:=by rw [tD];exact h.take _
end
theorem pg {a n:Nat} (h:a≤31 * n) (hn:n≤3):a≤93:=aj h (Nat.mul_le_mul_left 31 hn)
theorem xM {a b n:Nat} (h:a≤31 * n) (hn:n≤3) (hb:b < 30):a+b+1 < 1000:=aC (ez (Nat.add_le_add (pg h hn) (aW hb))) (by decide)
theorem BA:∀ (n m:Name) (e f:Entry),n≠m→lx sl (sg0 n++rowOf sg0 e) (sg0 m++rowOf sg0 f)=ltN n m:=by
 intro n
 induction n with
 | nil=>
  intro m e f h
  cases m with
  | nil=>exact absurd rfl h
  | cons c m=>cases e<;>rfl
 | cons c n ih=>
  intro m e f h
  cases m with
  | nil=>cases f<;>rfl
  | cons c' m=>
   show lx sl ((61,c)::(sg0 n++rowOf sg0 e)) ((61,c')::(sg0 m++rowOf sg0 f))=_
   rw [oX]
   by_cases q:c=c'
   ·rw [q,cC,cC,ih m e f fun z=>h (by rw [q,z]),oX]
   ·rw [dl q,dl fun z=>q (Prod.mk.inj z).2]
    exact if_pos rfl
theorem BV:∀ (e f:Entry),er sg0 e f=lx ltN e f:=by
 intro e
 induction e with
 | nil=>intro f;cases f<;>rfl
 | cons n e ih=>
  intro f
  cases f with
  | nil=>rfl
  | cons m f=>
   show lx sl (SEP::(sg0 n++rowOf sg0 e)) (SEP::(sg0 m++rowOf sg0 f))=_
   rw [cC]
   by_cases h:n=m
   ·rw [h,oY,cC,←ih f];rfl
   ·rw [BA n m e f h,dl h]
inductive F2 {α β:Type} (R:α→β→Prop):List α→List β→Prop
 | nil:F2 R [] []
 | cons {a:α} {b:β} {l:List α} {m:List β} (h:R a b) (t:F2 R l m):F2 R (a::l) (b::m)
section
variable {α β γ:Type} {R R':α→β→Prop} {l l':List α} {m m':List β}
theorem F2.mono (h:F2 R l m) (k:∀ a b,R a b→R' a b):F2 R' l m:=by
 induction h with
 | nil=>exact .nil
 | cons h _ ih=>exact .cons (k _ _ h) ih
theorem F2.len (h:F2 R l m):l.length=m.length:=by
 induction h with
 | nil=>rfl
 | cons _ _ ih=>exact congrArg (·+1) ih
theorem F2.app (h:F2 R l m) (h':F2 R l' m'):F2 R (l++l') (m++m'):=by
 induction h with
 | nil=>exact h'
 | cons h _ ih=>exact .cons h ih
theorem F2.one {a:α} {b:β} (h:R a b):F2 R [a] [b]:=.cons h .nil
theorem F2.get (h:F2 R l m):∀ {i:Nat} {a:α},l[i]?=some a→∃ b,m[i]?=some b∧R a b:=by
 induction h with
 | nil=>intro i a h;cases h
 | cons h _ ih=>
  intro i a q
  cases i with
  | zero=>cases q;exact⟨_,rfl,h⟩
  | succ i=>exact ih q
theorem F2.get' (h:F2 R l m):∀ {i:Nat} {b:β},m[i]?=some b→∃ a,l[i]?=some a∧R a b:=by
 induction h with
 | nil=>intro i a h;cases h
 | cons h _ ih=>
  intro i a q
  cases i with
  | zero=>cases q;exact⟨_,rfl,h⟩
  | succ i=>exact ih q
theorem F2.mem (h:F2 R l m) {a:α} (q:a∈l):∃ b,b∈m∧R a b:=by
 obtain⟨i,hi⟩:=bJ q
 obtain⟨b,hb,r⟩:=h.get hi
 exact⟨b,ac hb,r⟩
theorem F2.maps (f:β→α) (h:∀ b∈m,R (f b) b):F2 R (m.map f) m:=by
 induction m with
 | nil=>exact .nil
 | cons b m ih=>exact .cons (h b (.head _)) (ih fun c hc=>h c (.tail _ hc))
end
theorem cg {p q:Prop} [Decidable p] [Decidable q] (h:p↔q):decide p=decide q:=by
 by_cases a:p
 ·rw [decide_eq_true a,decide_eq_true (h.mp a)]
 ·rw [decide_eq_false a,decide_eq_false fun b=>a (h.mpr b)]
theorem pB {p:Prop} (i j:Decidable p):@decide p i=@decide p j:=by rw [Subsingleton.elim i j]
theorem uq {p q:Prop} [Decidable p] [Decidable q]:(decide p&&decide q)=decide (p∧q):=by
 by_cases a:p
 ·rw [decide_eq_true a,Bool.true_and];exact cg ⟨fun h=>⟨a,h⟩,fun h=>h.2⟩
 ·have z:¬(p∧q):=fun b=>a b.1
  rw [decide_eq_false a,decide_eq_false z];rfl
theorem BB {p q:Prop} [Decidable p] [Decidable q]:(decide p||decide q)=decide (p∨q):=by
 by_cases a:p
 ·have z:p∨q:=.inl a
  rw [decide_eq_true a,decide_eq_true z];rfl
 ·rw [decide_eq_false a,Bool.false_or];exact cg ⟨fun h=>.inr h,fun h=>h.resolve_left a⟩
section
variable {α:Type} [DecidableEq α] {R:V→α→Prop} {vs ws:List V} {L M:List α} {σ:Hp} {a b k:Nat}
theorem BM {f:V→V→Option Bool} (h:∀ v w x y,R v x→R w y→f v w=some (decide (x=y))) (hv:F2 R vs L):∀ {ws:List V} {M:List α},F2 R ws M→L.length=M.length→leq f vs ws=some (decide (L=M)):=by
 induction hv with
 | nil=>
  intro ws M hw hl
  cases hw with
  | nil=>rfl
  | cons _ _=>cases hl
 | cons hx _ ih=>
  intro ws M hw hl
  cases hw with
  | nil=>cases hl
  | cons hy t=>
   show (f _ _).bind (fun a=>(leq f _ _).bind fun b=>some (a&&b))=_
   rw [h _ _ _ _ hx hy,ih t (Nat.succ.inj hl)]
   show some (_&&_)=_
   rw [uq]
   exact congrArg some (cg (List.cons.injEq ..).to_iff.symm)
theorem BK {f g:V→V→Option Bool} {r:α→α→Bool} (h:∀ v w x y,R v x→R w y→f v w=some (decide (x=y))) (h':∀ v w x y,R v x→R w y→g v w=some (r x y)) (hv:F2 R vs L):∀ {ws:List V} {M:List α},F2 R ws M→llt f g vs ws=some (lx r L M):=by
 induction hv with
 | nil=>
  intro ws M hw
  cases hw with
  | nil=>rfl
  | cons _ _=>rfl
 | @cons v z l L hx _ ih=>
  intro ws M hw
  cases hw with
  | nil=>rfl
  | @cons w y _ _ hy t=>
   show (f _ _).bind (fun e=>if e then llt f g _ _ else g _ _)=_
   rw [h _ _ _ _ hx hy]
   by_cases q:z=y
   ·rw [q,decide_eq_true rfl,cC];exact ih t
   ·rw [decide_eq_false q,dl q];exact h' _ _ _ _ hx hy
variable (ga:σ[a]?=some vs) (gb:σ[b]?=some ws) (hv:F2 R vs L) (hw:F2 R ws M) (h:∀ v w x y,R v x→R w y→veq σ k v w=some (decide (x=y)))
include ga gb hv hw h
theorem oG:veq σ (k+1) (.loc a) (.loc b)=some (decide (L=M)):=by
 show (σ[a]?).bind (fun l=>(σ[b]?).bind fun l'=>if l.length=l'.length then leq (veq σ k) l l' else if false then .none else some false)=_
 rw [ga,gb]
 show (if vs.length=ws.length then leq (veq σ k) vs ws else some false)=_
 rw [hv.len,hw.len]
 by_cases q:L.length=M.length
 ·rw [if_pos q,BM h hv hw q]
 ·rw [if_neg q,decide_eq_false fun z=>q (by rw [z])]
theorem tQ {r:α→α→Bool} (h':∀ v w x y,R v x→R w y→vlt σ k v w=some (r x y)):vlt σ (k+1) (.loc a) (.loc b)=some (lx r L M):=by
 show (σ[a]?).bind (fun l=>(σ[b]?).bind fun l'=>llt (veq σ k) (vlt σ k) l l')=_
 rw [ga,gb]
 exact BK h h' hv hw
end
abbrev IsS (v:V) (s:Txt):Prop:=v = .str s
abbrev IsG (v:V) (x:Sign):Prop:=v=sgV x
def EntAt (σ:Hp) (v:V) (e:Entry):Prop:=∃ a,v = .loc a∧σ[a]?=some (e.map .str)
def RankAt (σ:Hp) (v:V) (e:Entry):Prop:=∃ a,v = .loc a∧σ[a]?=some ((rowOf sg1 e).map sgV)
section
variable {σ:Hp} {k:Nat} {v w:V}
theorem F2.strs (e:List Txt):F2 IsS (e.map .str) e:=F2.maps _ fun _ _=>rfl
theorem F2.signs (e:List Sign):F2 IsG (e.map sgV) e:=F2.maps _ fun _ _=>rfl
theorem wU {s t:Txt} (hv:IsS v s) (hw:IsS w t):veq σ (k+1) v w=some (decide (s=t)):=by rw [hv,hw];rfl
theorem Az {s t:Txt} (hv:IsS v s) (hw:IsS w t):vlt σ (k+1) v w=some (ltN s t):=by rw [hv,hw];rfl
theorem kY {a b:Nat}:decide ((a:Int)=(b:Int))=decide (a=b):=cg ⟨Int.ofNat.inj,fun h=>by rw [h]⟩
theorem AB {x y:Sign} (hv:IsG v x) (hw:IsG w y):veq σ (k+2) v w=some (decide (x=y)):=by
 rw [hv,hw]
 show some (decide ((x.1:Int)=y.1)&&(decide ((x.2:Int)=y.2)&&true))=_
 rw [kY,kY,gj,uq]
 exact congrArg some (cg ⟨fun h=>ou h.1 h.2,fun h=>by rw [h];exact⟨rfl,rfl⟩⟩)
theorem AA {x y:Sign} (hv:IsG v x) (hw:IsG w y):vlt σ (k+2) v w=some (sl x y):=by
 rw [hv,hw]
 show (if decide ((x.1:Int)=y.1)=true then (if decide ((x.2:Int)=y.2)=true then some false else some (decide ((x.2:Int) < y.2))) else some (decide ((x.1:Int) < y.1)))=_
 rw [kY,kY]
 unfold sl
 by_cases h1:x.1=y.1
 ·rw [decide_eq_true h1,if_pos rfl,if_pos h1]
  by_cases h2:x.2=y.2
  ·rw [decide_eq_true h2,if_pos rfl,decide_eq_false (by grind)]
  ·rw [decide_eq_false h2,if_neg aA];exact congrArg some (cg ds)
 ·rw [decide_eq_false h1,if_neg aA,if_neg h1];exact congrArg some (cg ds)
theorem wV {e f:Entry} (hv:EntAt σ v e) (hw:EntAt σ w f):veq σ (k+2) v w=some (decide (e=f)):=by
 obtain⟨a,rfl,ga⟩:=hv
 obtain⟨b,rfl,gb⟩:=hw
 exact oG ga gb (F2.strs e) (F2.strs f) fun _ _ _ _=>wU
theorem Ci {e f:Entry} (hv:EntAt σ v e) (hw:EntAt σ w f):vlt σ (k+2) v w=some (er sg0 e f):=by
 obtain⟨a,rfl,ga⟩:=hv
 obtain⟨b,rfl,gb⟩:=hw
 rw [BV]
 exact tQ ga gb (F2.strs e) (F2.strs f) (fun _ _ _ _=>wU) fun _ _ _ _=>Az
theorem Ch {e f:Entry} (hv:RankAt σ v e) (hw:RankAt σ w f):vlt σ (k+3) v w=some (er sg1 e f):=by
 obtain⟨a,rfl,ga⟩:=hv
 obtain⟨b,rfl,gb⟩:=hw
 exact tQ ga gb (F2.signs _) (F2.signs _) (fun _ _ _ _=>AB) fun _ _ _ _=>AA
theorem EntAt.ext {σ':Hp} {e:Entry} (h:EntAt σ v e) (x:Ext σ σ'):EntAt σ' v e:=by
 obtain⟨a,rfl,g⟩:=h
 exact⟨a,rfl,x.get g⟩
theorem RankAt.ext {σ':Hp} {e:Entry} (h:RankAt σ v e) (x:Ext σ σ'):RankAt σ' v e:=by
 obtain⟨a,rfl,g⟩:=h
 exact⟨a,rfl,x.get g⟩
theorem xH {α:Type} [DecidableEq α] {R:V→α→Prop} {vs:List V} {L:List α} {x:α} (h:∀ v w x y,R v x→R w y→veq σ DEPTH v w=some (decide (x=y))) (hv:R v x) (hs:F2 R vs L):memV σ v vs=some (decide (x∈L)):=by
 induction hs with
 | nil=>rfl
 | cons hy _ ih=>
  show (veq σ DEPTH _ v).bind (fun a=>(memV σ v _).bind fun b=>some (a||b))=_
  rw [h _ _ _ _ hy hv,ih]
  show some (_||_)=_
  rw [BB]
  exact congrArg some (cg ⟨fun q=>q.elim (fun q=>by rw [q];exact .head _) (.tail _),fun q=>(az.mp q).imp Eq.symm id⟩)
theorem BS {n:Nat} {vs:List V} {L:List Entry} {e:Entry} (hv:EntAt σ v e) (g:σ[n]?=some vs) (hs:F2 (EntAt σ) vs L):cmpop .notin v (.loc n) σ=some (!decide (e∈L)):=by
 show cX _ ((σ[n]?).bind fun l=>memV σ v l)=_
 rw [g]
 show cX _ (memV σ v vs)=_
 rw [xH (fun _ _ _ _=>wV) hv hs]
 exact congrArg (fun b=>some (!b)) (pB _ _)
theorem in_S {n:Nat} {L:List Txt} {e:Txt} (g:σ[n]?=some (L.map .str)):cmpop .notin (.str e) (.loc n) σ=some (!decide (e∈L)):=by
 show cX _ ((σ[n]?).bind fun l=>memV σ (.str e) l)=_
 rw [g]
 show cX _ (memV σ (.str e) (L.map .str))=_
 rw [xH (R:=IsS) (fun _ _ _ _=>wU) rfl (F2.strs L)]
 exact congrArg (fun b=>some (!b)) (pB _ _)
end
section
variable {α:Type} {r:α→α→Bool} {σ:Hp} {K J:V→α→Prop}
abbrev KJ (K J:V→α→Prop) (p:V×V) (x:α):Prop:=K p.1 x∧J p.2 x
variable (hl:∀ v w x y,K v x→K w y→vlt σ DEPTH v w=some (r x y))
include hl
theorem jb {v w:V} {x y:α} (hv:K v x) (hw:K w y):ltB σ v w=r x y:=by unfold ltB;rw [hl _ _ _ _ hv hw];rfl
theorem BR {p:V×V} {x:α} {ps:List (V×V)} {xs:List α} (hp:KJ K J p x) (h:F2 (KJ K J) ps xs):F2 (KJ K J) (insOne (ltB σ) p ps) (ins r x xs):=by
 induction h with
 | nil=>exact .one hp
 | @cons _ b _ _ hy t ih=>
  show F2 _ (if ltB σ p.1 _ then _ else _) (if r x _ then _ else _)
  rw [jb hl hp.1 hy.1]
  by_cases q:r x b=true
  ·rw [if_pos q,if_pos q];exact .cons hp (.cons hy t)
  ·rw [if_neg q,if_neg q];exact .cons hy ih
theorem vC {ps:List (V×V)} {xs:List α} (h:F2 (KJ K J) ps xs):F2 (KJ K J) (insAll (ltB σ) ps) (isort r xs):=by
 induction h with
 | nil=>exact .nil
 | cons hy t ih=>exact BR hl hy ih
theorem yN (o:STO r) {ks:List V} {xs:List α} (h:F2 K ks xs) (nd:xs.Nodup):apart σ ks=true:=by
 induction h with
 | nil=>rfl
 | cons hx t ih=>
  obtain⟨h1,h2⟩:=b0.mp nd
  show (_&&_)=true
  rw [ih h2,gj]
  refine ax.mpr fun w hw=>?_
  obtain⟨y,hy,k⟩:=t.mem hw
  rw [jb hl hx k,jb hl k hx]
  rename_i b _ _
  rcases o.tot b y (fun q=>h1 (by rw [q];exact hy)) with z | z
  ·rw [z];rfl
  ·rw [z,kH]
theorem uV (o:STO r) {ks:List V} {xs:List α} (h:F2 K ks xs):strict σ ks=true:=by
 unfold strict
 have s1:(ks.all fun a=>ks.all fun b=>(vlt σ DEPTH a b).isSome)=true:=ax.mpr fun v hv=>ax.mpr fun w hw=>by
  obtain⟨x,_,hx⟩:=h.mem hv
  obtain⟨y,_,hy⟩:=h.mem hw
  rw [hl _ _ _ _ hx hy];rfl
 have s2:(ks.all fun a=>!ltB σ a a)=true:=ax.mpr fun v hv=>by
  obtain⟨x,_,hx⟩:=h.mem hv
  rw [jb hl hx hx,o.irr];rfl
 have s3:(ks.all fun a=>ks.all fun b=>ks.all fun c=>!(ltB σ a b&&ltB σ b c)||ltB σ a c)=true:=ax.mpr fun u hu=>ax.mpr fun v hv=>ax.mpr fun w hw=>by
  obtain⟨x,_,hx⟩:=h.mem hu
  obtain⟨y,_,hy⟩:=h.mem hv
  obtain⟨z,_,hz⟩:=h.mem hw
  rw [jb hl hx hy,jb hl hy hz,jb hl hx hz]
  cases q:r x y with
  | false=>rfl
  | true=>
   cases q':r y z with
   | false=>rfl
   | true=>rw [o.tr _ _ _ q q'];rfl
 rw [s1,s2,s3];rfl
theorem t0 (o:STO r) {ps:List (V×V)} {xs:List α} (h:F2 (KJ K J) ps xs) (nd:xs.Nodup) (len:xs.length < 60) (kind:((ps.map (·.1)).all (fun k=>kindV k == 1)||(ps.map (·.1)).all (fun k=>kindV k == 2))=true):∃ res,sortPairs σ ps=some res∧F2 J res (isort r xs):=by
 have hk:F2 K (ps.map (·.1)) xs:=by
  clear nd len kind
  induction h with
  | nil=>exact .nil
  | cons h _ ih=>exact .cons h.1 ih
 have hJ:∀ {qs:List (V×V)} {ys:List α},F2 (KJ K J) qs ys→F2 J (qs.map (·.2)) ys:=fun h=>by
  induction h with
  | nil=>exact .nil
  | cons h _ ih=>exact .cons h.2 ih
 exact⟨_,if_pos ⟨by rw [h.len];exact len,kind,uV hl o hk,yN hl o hk nd⟩,hJ (vC hl h)⟩
theorem pV {st:St} {Q:V→St→Prop} {X:St→Prop} (o:STO r) {n:Nat} {vs:List V} {xs:List α} (g:st.hp[n]?=some vs) (h:F2 K vs xs) (nd:xs.Nodup) (len:xs.length < 60) (kind:(vs.all (fun k=>kindV k == 1)||vs.all (fun k=>kindV k == 2))=true)
  (hs:σ=st.hp) (k:∀ m σ' res,Ext st.hp σ'→σ'[m]?=some res→F2 K res (isort r xs)→Q (.loc m) { st with hp:=σ' }):W (b1V .sorted (.loc n) st) Q X:=by
 have hp:F2 (KJ K K) (vs.map fun v=>(v,v)) xs:=by
  clear nd len kind g k
  induction h with
  | nil=>exact .nil
  | cons h _ ih=>exact .cons ⟨h,h⟩ ih
 have e:(vs.map fun v=>(v,v)).map (·.1)=vs:=by rw [c6];exact ut _
 obtain⟨res,h1,h2⟩:=t0 hl o hp nd len (by rw [e];exact kind)
 refine d5 g (de (by rw [←hs];exact h1) (bG ?_ fun m σ' x _ g'=>k m σ' res x g' h2))
 rw [h2.len,dG];exact aQ (by grind)
end
theorem vd {P:List Txt} {c:Txt} (h:∀ c∈P,Part c):(if [47].isSuffixOf (text P)=true then text P++c else text P++([47]++c))=text (P++[c]):=by
 rw [jX]
 cases P with
 | nil=>rfl
 | cons x P=>
  rw [eH]
  have n:¬[47].isSuffixOf (body (x::P))=true:=fun q=>by
   obtain⟨u,hu⟩:=ow.mp q
   rcases jk h with z | ⟨v,y,z,hy⟩
   ·cases z
   ·rw [z] at hu
    exact hy (List.cons.inj (y8 hu rfl).2).1.symm
  rw [if_neg n];rfl
theorem xA {c:Txt} (h:Part c):[47].isPrefixOf c=false:=by
 cases c with
 | nil=>rfl
 | cons x c=>
  show ((47 == x)&&true)=false
  rw [gj]
  exact beq_eq_false_iff_ne.mpr fun q=>h.sep (by rw [q];exact .head _)
theorem zK (P:List Txt):text P≠[]:=by cases P<;>exact fun q=>nomatch q
noncomputable def fq (v:V):List V:=match v with
 | .str s=>s.map fun c=>.str (quoted c)
 | _=>[]
theorem Ct {α β:Type} (f:α→List β) (g:α→β) (h:∀ a,f a=[g a]) (l:List α):l.flatMap f=l.map g:=by
 induction l with
 | nil=>rfl
 | cons a l ih=>rw [dN,h,ih];rfl
theorem vy (n:Name):joinL [] (n.map quoted)=n.flatMap quoted:=by
 induction n with
 | nil=>rfl
 | cons c n ih=>
  cases n with
  | nil=>exact (al (quoted c)).symm
  | cons d n=>show quoted c++[]++joinL [] ((d::n).map quoted)=_;rw [ih,al];rfl
theorem vL (n:Name):enc false n=n.flatMap quoted:=List.flatMap_map ..
theorem Ak (n:Name):(n.map fun c=>V.str [c]).flatMap fq=(n.map quoted).map V.str:=by
 induction n with
 | nil=>rfl
 | cons c n ih=>rw [aZ,dN,ih];rfl
section
variable {d:Nat} {b:Bool} {e:Entry} {σ:Hp} {v:V}
theorem yI (he:EntOk e) (hv:EntAt σ v e):Cal (d+3) 12 [v,.bool b] σ fun w σ'=>w = .str (txtE b e)∧Ext σ σ':=by
 obtain⟨a,rfl,g⟩:=hv
 refine cW [some (.loc a),some (.bool b),none,none] rfl rfl fun R hR=>?_
 refine d4 (st':=⟨[some (.loc a),some (.bool b),some (.str [47]),none],σ⟩) rfl ?_
 refine ai (eQ (ah rfl ?_))
 refine kq (I:=fun i=>FI (fun v3=>[some (.loc a),some (.bool b),some (.str (txtE b (e.take i))),v3]) fun _=>Ext σ) (e.map .str)
  (fun i st h=>by cases h with | mk v3 σ' x=>exact fM (x.get g)) (fun i y st hy h=>?_) (fun st h=>?_) _ _ _ (aD _) (by rw [ae];show _ - 0 < 100000;have:=he.len;grind) ⟨_,σ,Ext.refl _⟩
 ·obtain⟨v3,σ',x⟩:=h
  rw [aN] at hy
  obtain⟨n,hn1,rfl⟩:=aF.mp hy
  obtain⟨hi,rfl⟩:=ag.mp hn1
  have hok:=he.nm _ (cy hi)
  obtain⟨p1,p2⟩:=hV (b:=b) (he.take i)
  obtain⟨c1,c2⟩:=ik (b:=b) hok
  have ht:(e.take i).length≤3:=(he.take i).len
  have hs:txtE b (e.take (i+1))=text (parts b (e.take i)++[enc b e[i]]):=by
   unfold txtE parts
   rw [av hi,bh];rfl
  have hl:(txtE b (e.take i)).length≤100:=aj jC (by grind)
  have hl1:(txtE b (e.take i)).length+(enc b e[i]).length+1≤1000000:=by grind
  have key:CalP (d+2) 6 [.str (txtE b (e.take i)),.str (enc b e[i])] (.str (txtE b (e.take (i+1)))):=by
   have:=yJ (d:=d) (a:=txtE b (e.take i)) (zK _) (xA c1) hl1
   unfold txtE at this hs ⊢
   rw [vd p1,←hs] at this
   exact this
  refine ai (ch (dn (ah rfl ⟨b,rfl,?_⟩)))
  cases b with
  | true=>
   refine ifT<|ai<|aM<|bN<|aB<|ah rfl<|aB<|AR rfl<|bN<|aB<|ah rfl<|bc<|dE (yo hok) fun w σ2 ⟨t,e1,x2,e2⟩=>?_
   rw [e1]
   have e3:(t.flatMap fun y=>if y=47 then [61,50,70] else [y])=enc true e[i]:=e2
   show W (mkStr (t.flatMap fun y=>if y=47 then [61,50,70] else [y]) _) _ _
   rw [e3]
   exact ju (aQ (by grind))<|bc<|cM key<|aJ<|aJ ⟨_,σ2,x.trans x2⟩
  | false=>
   refine ifF<|ai<|aM<|bN<|aB<|ah rfl<|aB<|jw<|bb<|lC<|ah rfl<|fC<|lA (l:=e[i].map fun c=>V.str [c]) (f:=fq) (fun j=>?_) (fun y hy=>?_) ?_ ?_
   ·show some ((e[i][j]?).map fun c=>V.str [c])=_
    rw [aN]
   ·obtain⟨c,hc,rfl⟩:=bE.mp hy
    exact iO<|bN<|aB<|iM<|bc<|cM (od (hok.lt c hc)) ⟨rfl,rfl⟩
   ·rw [Ak]
    have e3:joinL [] (e[i].map quoted)=enc false e[i]:=(vy _).trans (vL _).symm
    refine bG (by rw [ae,ae];exact aQ (by have:=hok.len;grind)) fun m σ2 x2 _ g2=>rR g2 (eX _) (by rw [e3];exact aQ (by grind)) ?_
    rw [e3]
    exact bc<|cM key<|aJ<|aJ ⟨_,σ2,x.trans x2⟩
   ·rw [ae];have:=hok.len;show _ < 100000;grind
 ·obtain⟨v3,σ',x⟩:=h
  rw [ae,bj]
  exact ai (dd (ah rfl (hR _ _ ⟨rfl,x⟩)))
theorem yG (he:EntOk e):Cal (d+3) 13 [.str (txtE b e)] σ fun w σ'=>EntAt σ' w e∧Ext σ σ':=by
 refine cW [some (.str (txtE b e)),none,none] rfl rfl fun R hR=>?_
 refine ai (aM (eu (bc (bG (aQ (aD _)) fun a σ1 x1 ha1 g1=>?_))))
 refine ai (gW (jr (I:=fun k=>FI (fun v2=>[some (.str (txtE b (e.take k))),some (.loc a),v2]) fun _ σ'=>k≤e.length∧Ext σ σ'∧σ'[a]?=some ((e.drop k).map .str)) (fun k st h=>?_) _ e.length _ (by show _ < 100000;have:=he.len;omega) (by rw [bj,y0];exact⟨_,σ1,am _,x1,g1⟩)))
 obtain⟨v2,σ',hk,x,g⟩:=h
 cases k with
 | zero=>
  refine bu (ah rfl (bb ⟨false,il,ifF ?_⟩))
  exact ai (dd (ah rfl (hR _ _ ⟨⟨a,rfl,g⟩,x⟩)))
 | succ k=>
  have hlt:k < e.length:=hk
  have hok:=he.nm _ (cy hlt)
  obtain⟨p1,p2⟩:=hV (b:=b) (he.take k)
  obtain⟨c1,c2⟩:=ik (b:=b) hok
  have ht:(e.take k).length≤3:=(he.take k).len
  have hs:txtE b (e.take (k+1))=body (parts b (e.take k))++47::enc b e[k]:=by
   rw [←jX]
   unfold txtE parts
   rw [av hlt,bh];rfl
  have hne:txtE b (e.take (k+1))≠[47]:=fun q=>by
   have:=congrArg eE (hs.symm.trans q)
   rw [aa] at this
   have h3:(enc b e[k]).length≠0:=fun z=>c1.ne (aG z)
   change (body (parts b (e.take k))).length+((enc b e[k]).length+1)=1 at this
   grind
  refine bu (ah rfl (bb ⟨true,jO hne,ifT ?_⟩))
  have key:=vT (d:=d) c1.sep (jk p1) (xM p2 ht c2)
  rw [←hs] at key
  refine ai<|eL<|bN<|aB<|ah rfl<|bc<|cM key ⟨rfl,?_⟩
  refine ai<|dT<|uG<|ah rfl<|bN<|aB<|ah rfl<|bc<|dE (yt hok) fun w σ2 ⟨e1,x2⟩=>?_
  rw [e1]
  refine eN (σ:=σ) (x.trans x2) ha1 (x2.get g) ?_ fun σ3 x3 g3 _=>aJ ⟨k,aL _,_,σ3,aW hlt,x3,?_⟩
  ·rw [cR,ae,bU];have:=he.len;exact aQ (by grind)
  ·rw [g3,bz hlt];rfl
end
theorem uF {d:Nat}:∀ (vs:List V) (L:List Entry) (st:St) (Q:List V→St→Prop) (X:St→Prop),F2 (EntAt st.hp) vs L→(∀ e∈L,EntOk e)→(∀ ks σ',Ext st.hp σ'→F2 (RankAt σ') ks L→Q ks { st with hp:=σ' })→W (mapR (fun y st=>callR (CN (d+2)) 15 [y] st) vs st) Q X:=by
 intro vs
 induction vs with
 | nil=>
  intro L st Q X h _ k
  cases h
  exact js (k [] st.hp (Ext.refl _) .nil)
 | cons v vs ih=>
  intro L st Q X h ok k
  cases h with
  | cons hv t=>
  rename_i e L
  obtain⟨a,rfl,g⟩:=hv
  have he:=ok e (.head _)
  refine aK (dE (yH g (by have:=he.len;grind) fun n hn=>by have:=(he.nm n hn).len;grind) fun w σ1 ⟨c,e1,x1,_,g1⟩=>?_)
  rw [e1]
  refine aK (ih L _ _ _ (t.mono fun _ _ q=>q.ext x1) (fun f hf=>ok f (.tail _ hf)) fun ks σ2 x2 h2=>js ?_)
  exact k _ σ2 (x1.trans x2) (.cons ⟨c,rfl,x2.get g1⟩ h2)
theorem rP {d n:Nat} {vs:List V} {L:List Entry} {st:St} {Q:V→St→Prop} {X:St→Prop} (g:st.hp[n]?=some vs) (h:F2 (EntAt st.hp) vs L) (ok:∀ e∈L,EntOk e) (nd:L.Nodup) (len:L.length < 60)
  (k:∀ m σ' res,Ext st.hp σ'→σ'[m]?=some res→F2 (EntAt σ') res (isort (er sg1) L)→Q (.loc m) { st with hp:=σ' }):W (sortKV (CN (d+2)) 15 (.loc n) st) Q X:=by
 refine d5 g (aK (uF vs L st _ _ h ok fun ks σ1 x1 hk=>?_))
 have hp:F2 (KJ (RankAt σ1) (EntAt σ1)) (ks.zip vs) L:=by
  have h':=h.mono fun _ _ q=>q.ext x1
  clear h g k nd len ok
  induction hk generalizing vs with
  | nil=>exact .nil
  | cons hx _ ih=>cases h' with | cons hy t=>exact .cons ⟨hx,hy⟩ (ih t)
 have e:(ks.zip vs).map (·.1)=ks:=eo (by rw [hk.len,h.len];exact am _)
 have kind:(ks.all fun k=>kindV k == 2)=true:=ax.mpr fun v hv=>by
  obtain⟨f,_,c,rfl,_⟩:=hk.mem hv
  rfl
 obtain⟨res,h1,h2⟩:=t0 (σ:=σ1) (K:=RankAt σ1) (fun _ _ _ _=>Ch) (ii xr) hp nd len (by rw [e,kind,kH])
 refine de h1 (bG ?_ fun m σ' x _ g'=>k m σ' res (x1.trans x) g' (h2.mono fun _ _ q=>q.ext x))
 rw [h2.len,dG];exact aQ (by grind)
section
variable {b:Bool} {e r:Entry}
theorem EntOk.lcp (h:EntOk r):EntOk (lcp r e):=by
 obtain⟨t,ht⟩:=ph r e
 refine⟨fun n hn=>h.nm n (by rw [ht];exact cm _ hn),?_⟩
 have:=congrArg eE ht
 rw [aa] at this
 have:=h.len
 omega
theorem vq:∀ {r e:Entry},(∀ n∈r,NameOk n)→(∀ n∈e,NameOk n)→lcp (parts b r) (parts b e)=parts b (lcp r e):=by
 intro r
 induction r with
 | nil=>intro e _ _;cases e<;>rfl
 | cons n r ih=>
  intro e hr he
  cases e with
  | nil=>rfl
  | cons m e=>
   show (if enc b n=enc b m then _ else _)=parts b (if n=m then _ else _)
   by_cases h:n=m
   ·rw [if_pos (by rw [h]),if_pos h]
    exact congrArg (enc b n::·) (ih (fun n hn=>hr n (.tail _ hn)) fun n hn=>he n (.tail _ hn))
   ·rw [if_neg fun q=>h (Am (hr n (.head _)) (he m (.head _)) q),if_neg h];rfl
theorem uI (P:Entry) (n:Name):txtE b (P++[n])=body (parts b P)++47::enc b n:=by
 unfold txtE
 rw [show parts b (P++[n])=parts b P++[enc b n] from bh,jX]
end
theorem BZ {s t:Txt} {σ:Hp}:cmpop .ne (.str s) (.str t) σ=some (!decide (s=t)):=rfl
abbrev Ill (L S:List Entry) (k:Nat) (e:Entry):Prop:=decide (e.dropLast∈S)=false∧(k=0∨∃ r,L[k - 1]?=some r∧lcp r e≠e.dropLast)
inductive WlI (a c:Nat) (L S:List Entry) (σ:Hp) (i:Nat):St→Prop
 | mk (v2 v3:Option V) (σ':Hp) (x:Ext σ σ') (hb:∀ k e,k < i→L[k]?=some e→¬Ill L S k e):WlI a c L S σ i ⟨[some (.loc a),some (.loc c),v2,v3],σ'⟩
theorem vR {d a c:Nat} {b:Bool} {L S:List Entry} {ts:List Txt} {σ:Hp} (ga:σ[a]?=some ((L.map (txtE b)).map .str)) (gc:σ[c]?=some (ts.map .str)) (hm:∀ e,EntOk e→(txtE b e∈ts↔e∈S)) (ok:∀ e∈L,EntOk e) (ne:∀ e∈L,e≠[]) (hL:L.length < 100) :
  Cal (d+3) 17 [.loc a,.loc c] σ fun v σ'=>∃ w,v = .bool w∧Ext σ σ'∧(w=true↔¬Bad L fun e=>decide (e∈S)):=by
 refine cW [some (.loc a),some (.loc c),none,none] rfl rfl fun R hR=>?_
 have at':∀ {σ':Hp} {k:Nat} {e:Entry},Ext σ σ'→L[k]?=some e→σ'[a]?=some ((L.map (txtE b)).map .str)∧((L.map (txtE b)).map V.str)[k]?=some (.str (txtE b e)):=fun x h=>⟨x.get ga,by rw [aN,aN,h];rfl⟩
 have hz:((L.length:Int) - 0).toNat=L.length:=by omega
 refine ai (wI (eT (ah rfl (i7 ga ⟨rfl,bg _,?_,?_⟩))))
 ·rw [ae,ae];exact c7.mpr (aQ (by omega))
 rw [ae,ae,hz]
 refine oC (I:=WlI a c L S σ) 0 L.length (fun i st hi h=>?_) (fun st h=>?_) _ _ _ (cJ _) ⟨_,_,σ,Ext.refl _,fun k e h=>absurd h (cF _)⟩
 ·obtain⟨v2,v3,σ',x,hb⟩:=h
  rw [cJ]
  obtain⟨e,he⟩:∃ e,L[i]?=some e:=⟨_,ak hi⟩
  have hin:=ac he
  have eok:=ok e hin
  obtain⟨n,hn⟩:=eJ (ne e hin)
  have nok:NameOk n:=eok.nm n (by rw [hn];exact bm _ (.head _))
  have dok:=eok.drop1
  obtain⟨p1,p2⟩:=hV (b:=b) dok
  obtain⟨c1,c2⟩:=ik (b:=b) nok
  have:=dok.len
  obtain⟨g1,g2⟩:=at' x he
  have ht:txtE b e=body (parts b e.dropLast)++47::enc b n:=by rw [←uI,←hn]
  have key:=rA (d:=d) c1.sep (jk p1) (xM p2 dok.len c2)
  rw [←ht] at key
  change CalP (d+2) 8 [.str (txtE b e)] (.str (txtE b e.dropLast)) at key
  have fin:∀ (v2 v3:Option V) (σ2:Hp),Ext σ σ2→¬Ill L S i e→WlI a c L S σ (i+1) ⟨[some (.loc a),some (.loc c),v2,v3],σ2⟩:=fun v2 v3 σ2 x2 hb2=>⟨v2,v3,σ2,x2,fun k f hk hf=>by
   rcases dW k i with q | q
   ·exact hb k f q hf
   ·obtain rfl:k=i:=by omega
    cases he.symm.trans hf
    exact hb2⟩
  have bad:∀ (st:St),Ext σ st.hp→decide (e.dropLast∈S)=false→(i=0∨∃ r,L[i - 1]?=some r∧lcp r e≠e.dropLast)→R (.ret (.bool false)) st:=fun st x2 h1 h2=>hR _ _ ⟨false,rfl,x2,⟨fun z=>(nomatch z),fun z=>absurd ⟨i,e,he,h1,h2⟩ z⟩⟩
  refine ai<|aM<|bN<|aB<|cY<|ah rfl<|ah rfl<|eP g1 (bM g2)<|bc<|cM key ?_
  refine ai<|ch<|fL<|cD<|bu<|ah rfl<|ah rfl ⟨_,in_S (x.get gc),?_⟩
  cases hk:decide (e.dropLast∈S) with
  | true=>
   have h1:decide (txtE b e.dropLast∈ts)=true:=decide_eq_true ((hm _ dok).mpr (of_decide_eq_true hk))
   rw [h1]
   exact ifF (ifF (aJ (aJ (fin _ _ σ' x fun z=>by cases hk.symm.trans z.1))))
  | false=>
   have h1:decide (txtE b e.dropLast∈ts)=false:=decide_eq_false fun q=>of_decide_eq_false hk ((hm _ dok).mp q)
   rw [h1]
   refine ifT<|cD<|wQ<|nl<|bu<|ah rfl<|bb ⟨_,ym (b:=0),?_⟩
   by_cases hi0:i=0
   ·rw [decide_eq_true hi0]
    exact ifT (ifT (eV (ifT (ai (dd (bb (bad _ x hk (.inl hi0))))))))
   ·rw [decide_eq_false hi0]
    obtain⟨r,hr⟩:∃ r,L[i - 1]?=some r:=⟨_,ak (by omega)⟩
    have rok:=ok r (ac hr)
    obtain⟨g3,g4⟩:=at' x hr
    have hi1:((i:Nat):Int) - 1=((i - 1:Nat):Int):=by omega
    refine ifF<|nl<|bu<|bN<|aB<|eu<|aB<|cY<|ah rfl<|df<|ah rfl<|bb<|lj ?_
    rw [hi1]
    obtain⟨q1,q2⟩:=hV (b:=b) rok
    obtain⟨q3,q4⟩:=hV (b:=b) eok
    have:=rok.len
    have:=eok.len
    refine eP g3 (bM g4)<|aB<|cY<|ah rfl<|ah rfl<|eP g1 (bM g2)<|bc<|bG (aQ (aq rfl)) fun m σ2 x2 _ g5=>bc<|dE (mD (P:=parts b r) (R:=parts b e) q1 q3 (aC (pg q2 rok.len) (by decide)) (aC (pg q4 eok.len) (by decide)) ?_ ?_ g5) fun v σ3 ⟨ev,x3⟩=>?_
    ·show (r.map _).length < 100;rw [ae];exact aC rok.len (by decide)
    ·show (e.map _).length < 100;rw [ae];exact aC eok.len (by decide)
    rw [ev,vq rok.nm eok.nm]
    have x4:=x.trans (x2.trans x3)
    refine ah rfl ⟨_,BZ,?_⟩
    change if (!decide (txtE b (lcp r e)=txtE b e.dropLast))=true then _ else _
    by_cases hl:lcp r e=e.dropLast
    ·rw [decide_eq_true (by rw [hl])]
     exact ifF (wz (ifF (ifF (aJ (aJ (fin _ _ σ3 x4 fun z=>z.2.elim hi0 fun⟨r',hr',hl'⟩=>by cases hr.symm.trans hr';exact hl' hl))))))
    ·rw [decide_eq_false fun q=>hl (jz rok.lcp dok q)]
     exact ifT (ifT (eV (ifT (ai (dd (bb (bad _ x4 hk (.inr ⟨r,hr,hl⟩))))))))
 ·obtain⟨v2,v3,σ',x,hb⟩:=h
  refine ai (dd (bb (hR _ _ ⟨true,rfl,x,⟨fun _ ⟨k,e,he,h1,h2⟩=>hb k e (ag.mp he).1 he ⟨h1,h2⟩,fun _=>rfl⟩⟩)))
section
variable {st:St} {Q:V→St→Prop} {X:St→Prop} {v:V} {e:Entry}
theorem kN {n:Nat} (hv:EntAt st.hp v e) (hn:n < 1000) (hl:e.length≤3) (k:∀ w σ',Ext st.hp σ'→st.hp.length≤σ'.length→EntAt σ' w (e.take n)→Q w { st with hp:=σ' }):W (sliceV v none (some (n:Int)) st) Q X:=by
 obtain⟨a,rfl,g⟩:=hv
 refine fW g (by rw [okN (by grind)];rfl) ?_ (k _ _ (Ext.snoc _ _) (Ext.snoc _ _).len ⟨_,rfl,?_⟩)
 ·rw [gM,bC,ae];exact aQ (aj (eA _ _) (aj hl (by decide)))
 ·rw [gM,←pQ];exact dj _ _
theorem nu (hv:EntAt st.hp v e) (hl:e.length≤3) (k:∀ w σ',Ext st.hp σ'→EntAt σ' w e.dropLast→Q w { st with hp:=σ' }):W (sliceV v none (some (-1)) st) Q X:=by
 obtain⟨a,rfl,g⟩:=hv
 refine fW g rfl ?_ (k _ _ (Ext.snoc _ _) ⟨_,rfl,?_⟩)
 ·rw [jN,iZ,ae];exact aQ (aj (dJ _ _) (aj hl (by decide)))
 ·rw [jN,List.map_dropLast];exact dj _ _
theorem rQ (hv:EntAt st.hp v e) (h:Q (.int e.length) st):W (b1V .len v st) Q X:=by
 obtain⟨a,rfl,g⟩:=hv
 refine i7 g ?_
 rw [ae];exact h
theorem AX {j:Nat} {n:Name} (hv:EntAt st.hp v e) (hj:e[j]?=some n) (h:Q (.str n) st):W (idxV v (.int (j:Int)) st) Q X:=by
 obtain⟨a,rfl,g⟩:=hv
 exact eP g (bM (um hj)) h
end
theorem Cu {σ:Hp} {v w:V} {e f:Entry} (hv:EntAt σ v e) (hw:EntAt σ w f):cmpop .eq v w σ=some (decide (e=f)):=(wV hv hw).trans (congrArg some (pB _ _))
inductive TornAt (one o:Entry):Prop
 | mk (p:Entry) (m m':Name) (r:Entry) (s:Sign) (v:List Sign) (h1:one=p++[m]) (h2:o=p++m'::r) (h3:sg1 m'=sg1 m++s::v) (h4:sl s SEP=true)
theorem qf (L:List Entry):Torn sg1 L↔∃ one∈L,(∃ c∈L,c.dropLast=one)∧∃ o∈L,TornAt one o:=
 ⟨fun⟨p,m,c,o,m',r,s,v,h1,h2,h3,h4,h5,h6,h7⟩=>⟨_,h1,⟨c,h2,h3⟩,o,h4,p,m,m',r,s,v,rfl,h5,h6,h7⟩,fun⟨one,h1,⟨c,h2,h3⟩,o,h4,t⟩=>by
   obtain⟨p,m,m',r,s,v,rfl,h5,h6,h7⟩:=t
   exact⟨p,m,c,o,m',r,s,v,h1,h2,h3,h4,h5,h6,h7⟩⟩
inductive TornS (p:Entry) (m:Name) (o:Entry):Prop
 | mk (m':Name) (r:Entry) (s:Sign) (v:List Sign) (h2:o=p++m'::r) (h3:sg1 m'=sg1 m++s::v) (h4:sl s SEP=true)
theorem gZ {p:Entry} {m:Name} {o:Entry}:TornAt (p++[m]) o↔TornS p m o:=
 ⟨fun⟨p',m0,m',r,s,v,h1,h2,h3,h4⟩=>by
  obtain⟨rfl,h5⟩:=y8 h1 rfl
  obtain rfl:=(List.cons.inj h5).1
  exact⟨m',r,s,v,h2,h3,h4⟩,fun⟨m',r,s,v,h2,h3,h4⟩=>⟨p,m,m',r,s,v,rfl,h2,h3,h4⟩⟩
theorem ge_int {a b:Nat} {σ:Hp}:cmpop .ge (.int (a:Int)) (.int (b:Int)) σ=some (decide (b≤a)):=congrArg some (cg c7)
theorem gt_int {a b:Nat} {σ:Hp}:cmpop .gt (.int (a:Int)) (.int (b:Int)) σ=some (decide (b < a)):=congrArg some (cg ds)
theorem BX {σ:Hp} {a b:Nat} {ws:List V} (ga:σ[a]?=some ws) (gb:σ[b]?=some []):∃ w,cmpop .eq (.loc a) (.loc b) σ=some w∧(w=true↔ws=[]):=by
 have e:cmpop .eq (.loc a) (.loc b) σ=(σ[a]?).bind fun l=>(σ[b]?).bind fun l'=>if l.length=l'.length then leq (veq σ 3) l l' else if false then .none else some false:=rfl
 rw [e,ga,gb]
 cases ws with
 | nil=>exact⟨true,rfl,fun _=>rfl,fun _=>rfl⟩
 | cons x ws=>exact⟨false,rfl,fun h=>(nomatch h),fun h=>(nomatch h)⟩
inductive ToI (a:Nat) (L:List Entry) (σ:Hp) (i:Nat):St→Prop
 | mk (v1 v2 v3 v4 v5:Option V) (σ':Hp) (x:Ext σ σ') (hb:∀ one∈L.take i,¬((∃ c∈L,c.dropLast=one)∧∃ o∈L,TornAt one o)):ToI a L σ i ⟨[some (.loc a),v1,v2,v3,v4,v5],σ'⟩
inductive ToJ (a ya u l:Nat) (L:List Entry) (one:Entry) (σ:Hp) (j:Nat):St→Prop
 | mk (v2 v5:Option V) (σ':Hp) (x:Ext σ σ') (h6:∀ o∈L.take j,¬TornAt one o):ToJ a ya u l L one σ j ⟨[some (.loc a),some (.loc ya),v2,some (.int l),some (.loc u),v5],σ'⟩
inductive ToK (fv:List (Option V)) (L:List Entry) (one:Entry) (σ:Hp) (j:Nat) (o:List V):St→Prop
 | mk (σ2:Hp) (x:Ext σ σ2) (h2:o=[]↔∀ c∈L.take j,c.dropLast≠one) (l2:o.length≤j):ToK fv L one σ j o ⟨fv,σ2⟩
theorem yF {d a:Nat} {L:List Entry} {vs:List V} {σ:Hp} (ga:σ[a]?=some vs) (hv:F2 (EntAt σ) vs L) (ok:∀ e∈L,EntOk e) (ne:∀ e∈L,e≠[]) (hL:L.length < 100) :
  Cal (d+2) 16 [.loc a] σ fun v σ'=>∃ w,v = .bool w∧Ext σ σ'∧(w=true↔Torn sg1 L):=by
 refine cW [some (.loc a),none,none,none,none,none] rfl rfl fun R hR=>?_
 refine ai (eQ (ah rfl ?_))
 refine kq (I:=ToI a L σ) vs
  (fun i st h=>by cases h with | mk _ _ _ _ _ σ' x _=>exact fM (x.get ga)) (fun i y st hy h=>?_) (fun st h=>?_) _ _ _ (aD _) (by rw [hv.len];show _ - 0 < 100000;grind) ⟨_,_,_,_,_,σ,Ext.refl _,fun k h=>(nomatch h)⟩
 ·obtain⟨v1,v2,v3,v4,v5,σ',x,hb⟩:=h
  obtain⟨one,h1,hy1⟩:=hv.get hy
  obtain⟨hi,h1'⟩:=ag.mp h1
  have hin:=ac h1
  have ook:=ok one hin
  obtain⟨m,hm⟩:=eJ (ne one hin)
  have step:¬((∃ c∈L,c.dropLast=one)∧∃ o∈L,TornAt one o)→∀ f∈L.take (i+1),¬((∃ c∈L,c.dropLast=f)∧∃ o∈L,TornAt f o):=fun h f hf=>by
   rw [av hi,h1'] at hf
   rcases aU.mp hf with q | q
   ·exact hb f q
   ·rw [ay.mp q];exact h
  refine ai<|ch<|bu<|lB<|ah rfl<|fC <| ?_
  refine fX (src:=.loc a) (I:=ToK [some (.loc a),some y,v2,v3,v4,v5] L one σ) vs (fun j o st h=>by cases h with | mk σ2 x2 _ _=>exact fM (x2.get ga)) (fun j z o st hz h=>?_) (fun o st h=>?_) (by rw [hv.len];show _ < 100000;grind) ⟨σ',x,⟨fun _ c h=>(nomatch h),fun _=>rfl⟩,am _⟩
  ·obtain⟨σ2,x2,h2,l2⟩:=h
   obtain⟨c,hc,hz1⟩:=hv.get hz
   obtain⟨hj,hc'⟩:=ag.mp hc
   have cok:=ok c (ac hc)
   refine kO<|bu<|cA<|iM<|jt<|bb<|nu (hz1.ext x2) cok.len fun w σ3 x3 hw=>ah rfl ⟨_,Cu hw (hy1.ext (x2.trans x3)),?_⟩
   by_cases q:c.dropLast=one
   ·rw [decide_eq_true q]
    refine ifT (iM ⟨σ3,x2.trans x3,⟨fun z=>?_,fun z=>?_⟩,?_⟩)
    ·cases o<;>cases z
    ·exact absurd q (z c (by rw [av hj,hc'];exact bm _ (.head _)))
    ·rw [aa];exact ez l2
   ·rw [decide_eq_false q]
    refine ifF ⟨σ3,x2.trans x3,⟨fun z f hf=>?_,fun z=>?_⟩,?_⟩
    ·rw [al] at z
     rw [av hj,hc'] at hf
     rcases aU.mp hf with y | y
     ·exact h2.mp z f y
     ·rw [ay.mp y];exact q
    ·rw [al]
     exact h2.mpr fun f hf=>z f (by rw [av hj];exact cm _ hf)
    ·rw [al];exact cq l2
  obtain⟨σ2,x2,h2,l2⟩:=h
  have lim:o.length≤LIM:=aQ (by rw [hv.len] at l2;grind)
  refine bG lim fun n3 σ3 x3 _ g3=>eu<|bc<|bG (aQ (aD _)) fun n4 σ4 x4 _ g4=>?_
  obtain⟨w,hw,hw'⟩:=BX (x4.get g3) g4
  refine⟨w,hw,?_⟩
  have X4:Ext σ σ4:=x2.trans (x3.trans x4)
  cases w with
  | true=>
   refine ifT<|ai<|rV ⟨_,_,_,_,_,σ4,X4,step fun⟨⟨c,hc,hd⟩,_⟩=>?_⟩
   have:=h2.mp (hw'.mp rfl) c
   rw [hv.len,bj] at this
   exact this hc hd
  | false=>
  have kid:∃ c∈L,c.dropLast=one:=Classical.byContradiction fun z=>by
   have:=hw'.mpr (h2.mpr fun c hc q=>z ⟨c,iY hc,q⟩)
   cases this
  have mok:NameOk m:=ook.nm m (by rw [hm];exact bm _ (.head _))
  have ml:=mok.len
  have o1:=hy1.ext X4
  have hlast:(one.map V.str).getLast?=some (.str m):=by rw [hm,bh];exact List.getLast?_concat ..
  generalize one.dropLast=p at hm
  have hlen:one.length=p.length+1:=by rw [hm,aa];rfl
  have ol:=ook.len
  refine ifF<|aJ<|ai<|aM<|eT<|ah rfl<|rQ o1 ?_
  obtain⟨ya,rfl,yg⟩:=o1
  refine ai<|aM<|bN<|aB<|cY<|ah rfl<|jt<|bb<|eP yg (ic hlast)<|bc<|dE (kf (by grind)) fun v σ5 ⟨u,ev,x5,_,g5⟩=>?_
  rw [ev]
  have X5:=X4.trans x5
  refine ai (eQ (ah rfl ?_))
  refine kq (I:=ToJ a ya u one.length L one σ5) vs
   (fun j st h=>by cases h with | mk _ _ σ' x _=>exact fM (x.get (X5.get ga))) (fun j z st hz h=>?_) (fun st h=>?_) _ _ _ (aD _) (by rw [hv.len];show _ - 0 < 100000;grind) ⟨_,_,σ5,Ext.refl _,fun k h=>(nomatch h)⟩
  ·obtain⟨w2,w5,σ6,x6,h6⟩:=h
   obtain⟨o,ho,hz1⟩:=hv.get hz
   obtain⟨hj,ho'⟩:=ag.mp ho
   have hoin:=ac ho
   have oo:=ok o hoin
   have ool:=oo.len
   have no:∀ (σ7:Hp) (v5:Option V),Ext σ6 σ7→¬TornAt one o→ToJ a ya u one.length L one σ5 (j+1) ⟨[some (.loc a),some (.loc ya),some z,some (.int one.length),some (.loc u),v5],σ7⟩:=fun σ7 v5 x7 hn=>⟨_,v5,σ7,x6.trans x7,fun f hf=>by
    rw [av hj,ho'] at hf
    rcases aU.mp hf with q | q
    ·exact h6 f q
    ·rw [ay.mp q];exact hn⟩
   have z6:=hz1.ext (X5.trans x6)
   have y6:EntAt σ6 (.loc ya) one:=⟨ya,rfl,x6.get (x5.get yg)⟩
   refine ai<|ch<|fL<|cD<|bu<|eT<|ah rfl<|rQ z6<|ah rfl ⟨_,ge_int,?_⟩
   by_cases q1:one.length≤o.length
   rotate_left
   ·rw [decide_eq_false q1]
    refine ifF (ifF (aJ (aJ (no σ6 _ (Ext.refl _) fun t=>q1 ?_))))
    rw [hm] at t
    obtain⟨m',r,_,_,t1,_⟩:=gZ.mp t
    rw [hlen,t1,aa,cR];grind
   rw [decide_eq_true q1]
   have hs1:((one.length:Nat):Int) - 1=((p.length:Nat):Int):=by grind
   refine ifT<|cD<|bu<|cA<|ah rfl<|df<|ah rfl<|bb<|lj ?_
   rw [hs1]
   refine kN z6 (by grind) ool fun w7 σ7 x7 _ hw7=>cA<|ah rfl<|jt<|bb<|nu (y6.ext x7) ol fun w8 σ8 x8 hw8=>⟨_,Cu (hw7.ext x8) hw8,?_⟩
   have hdp:one.dropLast=p:=by rw [hm];exact eF
   rw [hdp]
   by_cases q2:o.take p.length=p
   rotate_left
   ·rw [decide_eq_false q2]
    refine ifF (ifF (aJ (aJ (no σ8 _ (x7.trans x8) fun t=>q2 ?_))))
    rw [hm] at t
    obtain⟨m',r,_,_,t1,_⟩:=gZ.mp t
    rw [t1,List.take_left]
   rw [decide_eq_true q2]
   obtain⟨m',hm'⟩:∃ m',o[p.length]?=some m':=⟨_,ak (by grind)⟩
   obtain⟨hm1,hm2⟩:=ag.mp hm'
   have hos:o=p++m'::o.drop (p.length+1):=by
    conv=>lhs;rw [←cc p.length o,q2,bz hm1,hm2]
   have m'l:=(oo.nm m' (by rw [hos];exact bm _ (.head _))).len
   have tiff:TornAt one o↔∃ s v,sg1 m'=sg1 m++s::v∧sl s SEP=true:=by
    rw [hm,gZ]
    constructor
    ·rintro⟨m0,r,s,v,t1,t2,t3⟩
     rw [hos] at t1
     obtain rfl:=(List.cons.inj (tE t1 rfl)).1
     exact⟨s,v,t2,t3⟩
    ·rintro⟨s,v,t2,t3⟩
     exact⟨m',_,s,v,hos,t2,t3⟩
   have X8:=x7.trans x8
   refine ifT<|eV<|ifT<|ai<|aM<|bN<|aB<|cY<|ah rfl<|df<|ah rfl<|bb<|lj ?_
   rw [hs1]
   refine AX (z6.ext X8) hm'<|bc<|dE (kf (by grind)) fun v σ9 ⟨t,ev,x9,_,g9⟩=>?_
   rw [ev]
   have X9:=X8.trans x9
   have u9:=X9.get (x6.get g5)
   refine ai<|ch<|fL<|cD<|bu<|eT<|ah rfl<|i7 g9<|eT<|ah rfl<|i7 u9 ⟨_,gt_int,?_⟩
   rw [ae,ae]
   by_cases q3:(sg1 m).length < (sg1 m').length
   rotate_left
   ·rw [decide_eq_false q3]
    refine ifF (ifF (aJ (aJ (aJ (no σ9 _ X9 fun t=>q3 ?_)))))
    obtain⟨s,v,t1,_⟩:=tiff.mp t
    rw [t1,aa,cR];grind
   rw [decide_eq_true q3]
   have sl1:=oL m'
   refine ifT<|cD<|bu<|cA<|ah rfl<|eT<|ah rfl<|i7 u9 ?_
   rw [ae]
   refine fW g9 (by rw [okN (by grind)];rfl) ?_<|ah rfl ⟨_,oG (k:=3) (dj _ _) ((Ext.snoc _ _).get u9) (R:=IsG) (L:=(sg1 m').take (sg1 m).length) (M:=sg1 m) ?_ (F2.signs _) (fun _ _ _ _=>AB),?_⟩
   ·rw [gM,bC,ae];exact aQ (by grind)
   ·rw [gM,←pQ];exact F2.signs _
   have hcat:=cc (sg1 m).length (sg1 m')
   by_cases q4:(sg1 m').take (sg1 m).length=sg1 m
   rotate_left
   ·rw [decide_eq_false q4]
    refine ifF (ifF (aJ (aJ (aJ (no _ _ (X9.trans (Ext.snoc _ _)) fun t=>q4 ?_)))))
    obtain⟨s,v,t1,_⟩:=tiff.mp t
    rw [t1,List.take_left]
   rw [decide_eq_true q4]
   obtain⟨s,hs⟩:∃ s,(sg1 m')[(sg1 m).length]?=some s:=⟨_,ak q3⟩
   obtain⟨hs1',hs2⟩:=ag.mp hs
   have hss:sg1 m'=sg1 m++s::(sg1 m').drop ((sg1 m).length+1):=by
    conv=>lhs;rw [←hcat,q4,bz hs1',hs2]
   have gs:((sg1 m').map sgV)[(sg1 m).length]?=some (sgV s):=by rw [aN,hs];rfl
   refine ifT<|cD<|bu<|cY<|ah rfl<|eT<|ah rfl<|i7 ((Ext.snoc _ _).get u9) ?_
   rw [ae]
   refine eP ((Ext.snoc _ _).get g9) (bM gs)<|dZ<|aB<|bb<|aB<|bb<|bc<|cw (aQ (aq rfl)) ⟨_,AA (k:=2) (y:=SEP) rfl rfl,?_⟩
   cases q5:sl s SEP with
   | false=>
    refine ifF (ifF (aJ (aJ (aJ (no _ _ (X9.trans (Ext.snoc _ _)) fun t=>?_)))))
    obtain⟨s',v,t1,t2⟩:=tiff.mp t
    rw [hss] at t1
    rw [(List.cons.inj (tE t1 rfl)).1,t2] at q5
    cases q5
   | true=>
    refine ifT<|eV<|ifT<|ai<|dd<|bb<|hR _ _ ⟨true,rfl,X5.trans (x6.trans (X9.trans (Ext.snoc _ _))),⟨fun _=>?_,fun _=>rfl⟩⟩
    exact (qf L).mpr ⟨one,hin,kid,o,hoin,tiff.mpr ⟨s,_,hss,q5⟩⟩
  ·obtain⟨w2,w5,σ6,x6,h6⟩:=h
   refine aJ ⟨_,_,_,_,_,σ6,X5.trans x6,step fun⟨_,o,ho,t⟩=>?_⟩
   rw [hv.len,bj] at h6
   exact h6 o ho t
 ·obtain⟨v1,v2,v3,v4,v5,σ',x,hb⟩:=h
  refine ai (dd (bb (hR _ _ ⟨false,rfl,x,⟨fun z=>(nomatch z),fun z=>?_⟩⟩)))
  obtain⟨one,h1,h2⟩:=(qf L).mp z
  rw [hv.len,bj] at hb
  exact absurd h2 (hb one h1)
def LAt (σ:Hp) (n:Nat) (L:List Entry):Prop:=∃ vs,σ[n]?=some vs∧F2 (EntAt σ) vs L
structure Pres (n:Nat) (σ σ':Hp):Prop where
 at':∀ m l,m≠n→σ[m]?=some l→σ'[m]?=some l
 ent:∀ w f,EntAt σ w f→EntAt σ' w f
section
variable {n m:Nat} {σ σ' σ'':Hp} {L M:List Entry}
theorem Pres.ext (x:Ext σ σ'):Pres n σ σ':=⟨fun _ _ _ h=>x.get h,fun _ _ h=>h.ext x⟩
theorem Pres.trans (a:Pres n σ σ') (b:Pres n σ' σ''):Pres n σ σ'':=⟨fun m l h g=>b.at' m l h (a.at' m l h g),fun w f h=>b.ent w f (a.ent w f h)⟩
theorem LAt.ext (h:LAt σ n L) (x:Ext σ σ'):LAt σ' n L:=by
 obtain⟨vs,g,f⟩:=h
 exact⟨vs,x.get g,f.mono fun _ _ q=>q.ext x⟩
theorem LAt.pres (h:LAt σ m L) (p:Pres n σ σ') (hm:m≠n):LAt σ' m L:=by
 obtain⟨vs,g,f⟩:=h
 exact⟨vs,p.at' _ _ hm g,f.mono p.ent⟩
end
section
variable {st:St} {Q:V→St→Prop} {X:St→Prop}
theorem wP {n:Nat} {L:List Entry} {v:V} {e:Entry} (h:LAt st.hp n L) (hL:L≠[]) (hl:L.length < 1000) (hv:EntAt st.hp v e) (k:∀ σ',LAt σ' n (L++[e])→Pres n st.hp σ'→Q .none { st with hp:=σ' }):W (setList n (·++[v]) st) Q X:=by
 obtain⟨vs,g,f⟩:=h
 have key:Pres n st.hp (st.hp.set n (vs++[v])):=by
  refine⟨fun m l hm q=>jf (Ne.symm hm) q,fun w e ⟨a,ew,q⟩=>⟨a,ew,jf (fun z=>?_) q⟩⟩
  rw [←z,g] at q
  cases f with
  | nil=>exact hL rfl
  | cons h0 _=>
   obtain⟨c,rfl,_⟩:=h0
   cases e<;>cases q
 exact nj g (by rw [aa,f.len];show _+1≤1000000;grind) (k _ ⟨_,ul g,(f.mono key.ent).app (.one (key.ent _ _ hv))⟩ key)
theorem zo {call:CallT} {G:Nat→Option V} {st:St} {Q:Fl→St→Prop} {X:St→Prop} {i:Nat} {lo hi:E} {b:Ss} (h:W (ev call G .none lo st) (fun x st=>W (ev call G .none hi st) (fun y st=>W (rangeV (fun y st=>exs call G b (setVar st i y)) x y st) Q X) X) X):W (ex call G (.forR2 i lo hi b) st) Q X:=
 aK (bi h (fun _ _ h=>aK h) fun _ h=>h)
end
structure Tree (T:List Entry) (n:Nat):Prop where
 nd:T.Nodup
 root:[]∈T
 ok:∀ e∈T,EntOk e
 up:∀ e∈T,e.dropLast∈T
 len:T.length≤n
theorem Tree.ne {T:List Entry} {n:Nat} (t:Tree T n):T≠[]:=fun q=>by have:=t.root;rw [q] at this;cases this
theorem Tree.more {T:List Entry} {n m:Nat} (t:Tree T n) (h:n≤m):Tree T m:=⟨t.nd,t.root,t.ok,t.up,aj t.len h⟩
theorem Tree.add {T:List Entry} {n:Nat} {e:Entry} (t:Tree T n) (h:e∉T) (ok:EntOk e) (up:e.dropLast∈T):Tree (T++[e]) (n+1) where
 nd:=yS.mpr ⟨t.nd,b0.mpr ⟨(fun h=>nomatch h),List.nodup_nil⟩,fun a ha b hb q=>h (by rw [←ay.mp hb,←q];exact ha)⟩
 root:=cm _ t.root
 ok:=fun f hf=>(aU.mp hf).elim (t.ok f) fun q=>by rw [ay.mp q];exact ok
 up:=fun f hf=>(aU.mp hf).elim (fun q=>cm _ (t.up f q)) fun q=>by rw [ay.mp q];exact cm _ up
 len:=by rw [aa];exact ez t.len
inductive GrI (fv:List (Option V)) (n b:Nat) (e:Entry) (σ:Hp) (i:Nat):St→Prop
 | mk (v14:Option V) (T:List Entry) (σ':Hp) (l:LAt σ' n T) (t:Tree T (b+i)) (h:e.take i∈T) (p:Pres n σ σ'):GrI fv n b e σ i ⟨fv++[v14],σ'⟩
theorem AY {d n b:Nat} {fv:List (Option V)} {v:V} {e:Entry} {T:List Entry} {σ:Hp} {Q:Fl→St→Prop} {X:St→Prop} {v14:Option V} (h12:∀ x,(fv++[x])[12]?=some (some v)) (h13:∀ x,(fv++[x])[13]?=some (some (.loc n))) (h14:fv.length=14)
  (hv:EntAt σ v e) (ok:EntOk e) (hT:LAt σ n T) (t:Tree T b) (hb:b < 900)
  (k:∀ v14 T' σ',LAt σ' n T'→Tree T' (b+3)→Pres n σ σ'→Q .next ⟨fv++[v14],σ'⟩) :
  W (ex (CN d) GT (.forR2 14 (.lit (.int 1)) (.bin .add (.b1 .len (.var 12)) (.lit (.int 1))) (.cons (.ifS (.cmp .notin (.sliceHi (.var 12) (.var 14)) (.var 13)) (.cons (.expr (.append (.var 13) (.sliceHi (.var 12) (.var 14)))) .nil) .nil) .nil)) ⟨fv++[v14],σ⟩) Q X:=by
 have lim:=ok.len
 have hz:(((e.length:Nat):Int)+1 - 1).toNat=e.length:=by grind
 refine zo<|bb<|df<|eT<|ah (h12 _)<|rQ hv<|bb<|eW<|pW (by decide) (by decide) (by grind) (by show _≤(1000000:Int);grind) ?_
 rw [hz]
 have set14:∀ (x:Option V) (σ:Hp) (y:V),setVar ⟨fv++[x],σ⟩ 14 y=⟨fv++[some y],σ⟩:=fun x σ y=>by
  unfold setVar
  show St.mk ((fv++[x]).set 14 (some y)) σ=_
  rw [List.set_append_right _ _ (by grind),h14];rfl
 have h14':∀ x,(fv++[x])[14]?=some x:=fun x=>by rw [aV (by grind),h14];rfl
 refine oC (I:=GrI fv n b e σ) 1 e.length (fun i st hi h=>?_) (fun st h=>?_) _ 0 _ (cJ _) ⟨_,T,σ,hT,t,t.root,.ext (Ext.refl _)⟩
 ·obtain⟨v14,T',σ',hT',t',hin,p⟩:=h
  rw [set14]
  have h1:1+i=i+1:=Nat.add_comm _ _
  rw [h1]
  have hv':=p.ent _ _ hv
  refine ai<|ch<|bu<|cA<|ah (h12 _)<|ah (h14' _)<|kN hv' (by grind) lim fun w σ2 x2 _ hw=>ah (h13 _) ?_
  obtain⟨vs,g,f⟩:=hT'.ext x2
  refine⟨_,BS hw g f,?_⟩
  have p2:Pres n σ σ2:=p.trans (.ext x2)
  by_cases q:e.take (i+1)∈T'
  ·rw [decide_eq_true q]
   exact ifF (aJ (aJ ⟨_,T',σ2,⟨vs,g,f⟩,t'.more (bv _),q,p2⟩))
  ·rw [decide_eq_false q]
   have hup:(e.take (i+1)).dropLast∈T':=by rw [av hi,eF];exact hin
   have tl:=t'.len
   refine ifT<|ai<|dT<|fY<|ah (h13 _)<|cA<|ah (h12 _)<|ah (h14' _)<|kN (p2.ent _ _ hv) (by grind) lim fun w' σ3 x3 _ hw'=>wP (LAt.ext ⟨vs,g,f⟩ x3) t'.ne (by grind) hw' fun σ4 l4 p4=>aJ<|aJ ⟨_,_,σ4,l4,t'.add q (ok.take _) hup,bm _ (.head _),(p2.trans (.ext x3)).trans p4⟩
 ·obtain⟨v14,T',σ',hT',t',hin,p⟩:=h
  exact k _ T' σ' hT' (t'.more (by grind)) p
noncomputable def OCTV:List V:=OCT.map fun (c:Nat)=>V.int (c:Int)
theorem t8 {k:Nat} (hk:k < 16):∃ c,OCT[k]?=some c∧c∈OCT∧c < 256∧OCTV[k]?=some (.int (c:Int)):=by
 obtain⟨c,hc⟩:∃ c,OCT[k]?=some c:=⟨_,ak (show k < OCT.length from hk)⟩
 have hin:=ac hc
 exact⟨c,hc,hin,(by decide:∀ c∈OCT,c < 256) c hin,by unfold OCTV;rw [aN,hc];rfl⟩
theorem wy {d k:Nat} {fv:List (Option V)} {σ:Hp} {name:Name} {Q:Fl→St→Prop} {X:St→Prop} (h1:fv[1]?=some (some (.loc 0))) (h10:fv[10]?=some (some (.str name))) (h11:fv[11]?=some (some (.int (k:Int)))) (g:σ[0]?=some OCTV) (hk:k < 17) (hn:name.length < 100)
  (h:∀ b∈PRE,Q .next ⟨fv.set 10 (some (.str (name++b))),σ⟩) :
  W (exs (CN d) GT (.cons (.ifS (.cmp .gt (.var 11) (.lit (.int 0))) (.cons (.aug 10 .add (.b1 .chr (.idx (.var 1) (.bin .sub (.var 11) (.lit (.int 1)))))) .nil) .nil) .nil) ⟨fv,σ⟩) Q X:=by
 refine ai<|ch<|bu<|ah h11<|bb ⟨_,gt_int (b:=0),?_⟩
 by_cases q:0 < k
 ·rw [decide_eq_true q]
  obtain⟨c,hc,hin,hlt,hg⟩:=t8 (k:=k - 1) (by grind)
  have e1:((k:Nat):Int) - 1=((k - 1:Nat):Int):=by grind
  refine ifT<|ai<|pZ h10<|eT<|cY<|ah h1<|df<|ah h11<|bb<|lj ?_
  rw [e1]
  refine eP g (bM hg)<|wN (by grind)<|oF (by rw [aa];show _+1≤1000000;grind)<|aJ<|aJ (h [c] (List.mem_cons_of_mem _ (bE.mpr ⟨c,hin,rfl⟩)))
 ·rw [decide_eq_false q]
  refine ifF<|aJ<|aJ ?_
  have:=h [] (.head _)
  rw [al] at this
  have e2:fv.set 10 (some (.str name))=fv:=by
   obtain⟨hi,e3⟩:=ag.mp h10
   rw [←e3];exact List.set_getElem_self hi
  rw [e2] at this
  exact this
noncomputable def K0:List Entry:=[[],[[97]],[[97],[98]],[[98]],[[98],[97]]]
noncomputable def F0:List Entry:=[[],[[97]],[[97],[98]]]
noncomputable def S0:List Entry:=[[],[[98]],[[98],[97]]]
noncomputable def entV (e:Entry):List V:=e.map .str
noncomputable def HT:Hp:=[OCTV]++K0.map entV++[[.loc 1,.loc 2,.loc 3,.loc 4,.loc 5]]++F0.map entV++[[.loc 7,.loc 8,.loc 9]]++S0.map entV++[[.loc 11,.loc 12,.loc 13]]
theorem z5:∀ n:Name,n=[97]∨n=[98]→NameOk n:=fun n h=>h.elim (fun q=>⟨97,by decide,[],by decide,[],by decide,q⟩) fun q=>⟨98,by decide,[],by decide,[],by decide,q⟩
theorem pJ:∀ e∈K0++S0,EntOk e:=fun e he=>by
 have k:∀ e∈K0++S0,(∀ n∈e,n=[97]∨n=[98])∧e.length≤3:=by decide
 exact⟨fun n hn=>z5 n ((k e he).1 n hn),(k e he).2⟩
theorem Bn:Tree F0 3:=⟨by decide,by decide,fun e he=>pJ e ((by decide:∀ e∈F0,e∈K0++S0) e he),by decide,by decide⟩
theorem Bm:Tree S0 3:=⟨by decide,by decide,fun e he=>pJ e ((by decide:∀ e∈S0,e∈K0++S0) e he),by decide,by decide⟩
structure TreS (xs:List V) (i:Nat) (K F S:List Entry) (σ:Hp):Prop where
 g0:σ[0]?=some OCTV
 gx:σ[15]?=some xs
 k:LAt σ 6 K
 f:LAt σ 10 F
 s:LAt σ 14 S
 kok:∀ e∈K,EntOk e
 kne:0 < K.length
 kl:K.length≤5+i
 tf:Tree F (3+3 * i)
 ts:Tree S (3+3 * i)
theorem TreS.ext {xs:List V} {i:Nat} {K F S:List Entry} {σ σ':Hp} (t:TreS xs i K F S σ) (x:Ext σ σ'):TreS xs i K F S σ':=⟨x.get t.g0,x.get t.gx,t.k.ext x,t.f.ext x,t.s.ext x,t.kok,t.kne,t.kl,t.tf,t.ts⟩
inductive TI (fl:V) (xs:List V) (i:Nat):St→Prop
 | mk (v5 v6 v7 v8 v9 v10 v11 v12 v13 v14:Option V) (σ:Hp) (K F S:List Entry) (t:TreS xs i K F S σ):TI fl xs i ⟨[some fl,some (.loc 0),some (.loc 6),some (.loc 10),some (.loc 14),v5,v6,v7,v8,v9,v10,v11,v12,v13,v14],σ⟩
inductive TrOut (v:V) (σ':Hp):Prop
 | mk (F S:List Entry) (a b:Nat) (ev:v = .tup [.loc a,.loc b]) (lf:LAt σ' a F) (ls:LAt σ' b S) (t:Tree F 18) (u:Tree S 18)
theorem three {n:Nat} (h:n < 3):n=0∨n=1∨n=2:=by
 cases n with
 | zero=>exact .inl rfl
 | succ n=>cases n with
  | zero=>exact .inr (.inl rfl)
  | succ n=>cases n with
   | zero=>exact .inr (.inr rfl)
   | succ n=>exact absurd h (bf.mpr (cG 3 n))
theorem iL {call:CallT} {G:Nat→Option V} {ss:Ss} {st:St} (st':St) {Q:Fl→St→Prop} {X:St→Prop} (h:st=st') (k:W (exs call G ss st') Q X):W (exs call G ss st) Q X:=by rw [h];exact k
theorem vS {d:Nat} {ns:List Int}:Cal (d+1) 11 [.flist (ns.map .int)] [] TrOut:=by
 refine cW [some (.flist (ns.map .int)),none,none,none,none,none,none,none,none,none,none,none,none,none,none] rfl rfl fun R hR=>?_
 refine d4 (st':=⟨[some (.flist (ns.map .int)),some (.loc 0),none,none,none,none,none,none,none,none,none,none,none,none,none],HT.take 1⟩) rfl ?_
 refine d4 (st':=⟨[some (.flist (ns.map .int)),some (.loc 0),some (.loc 6),none,none,none,none,none,none,none,none,none,none,none,none],HT.take 7⟩) rfl ?_
 refine d4 (st':=⟨[some (.flist (ns.map .int)),some (.loc 0),some (.loc 6),some (.loc 10),none,none,none,none,none,none,none,none,none,none,none],HT.take 11⟩) rfl ?_
 refine d4 (st':=⟨[some (.flist (ns.map .int)),some (.loc 0),some (.loc 6),some (.loc 10),some (.loc 14),none,none,none,none,none,none,none,none,none,none],HT⟩) rfl ?_
 have ecut:cut (ns.map V.int) none (some 5)=(ns.take 5).map V.int:=(gM _ 5).trans List.map_take.symm
 have l5:(ns.take 5).length≤5:=by rw [bC];exact Nat.min_le_left _ _
 refine ai<|eQ<|cA<|ah rfl<|bb<|wx rfl (by rw [ecut,ae];exact aQ (by grind)) ?_
 rw [ecut]
 generalize hxs:(ns.take 5).map V.int=xs
 have lx:xs.length≤5:=by rw [←hxs,ae];exact l5
 have init:TreS xs 0 K0 F0 S0 (HT++[xs]):=by
  have e:∀ {v:V} {e:Entry} (a:Nat),v = .loc a→HT[a]?=some (e.map .str)→EntAt (HT++[xs]) v e:=fun a h g=>⟨a,h,(Ext.snoc _ _).get g⟩
  exact⟨rfl,rfl,⟨_,rfl,.cons (e 1 rfl rfl) (.cons (e 2 rfl rfl) (.cons (e 3 rfl rfl) (.cons (e 4 rfl rfl) (.cons (e 5 rfl rfl) .nil))))⟩,⟨_,rfl,.cons (e 7 rfl rfl) (.cons (e 8 rfl rfl) (.cons (e 9 rfl rfl) .nil))⟩,⟨_,rfl,.cons (e 11 rfl rfl) (.cons (e 12 rfl rfl) (.cons (e 13 rfl rfl) .nil))⟩,fun e he=>pJ e (cm _ he),by decide,by decide,Bn,Bm⟩
 refine kq (I:=TI (.flist (ns.map .int)) xs) xs (fun i st h=>by cases h with | mk _ _ _ _ _ _ _ _ _ _ _ _ _ _ t=>exact fM t.gx) (fun i y st hy h=>?_) (fun st h=>?_) _ _ _ (aD _) (by show _ - 0 < 100000;grind) ⟨_,_,_,_,_,_,_,_,_,_,_,K0,F0,S0,init⟩
 ·cases h with
  | mk v5 v6 v7 v8 v9 v10 v11 v12 v13 v14 σ K F S t=>
  have hi5:i < 5:=aE (ag.mp hy).1 lx
  obtain⟨x,_,rfl⟩:∃ x,x∈ns.take 5∧V.int x=y:=bE.mp (by rw [hxs];exact ac hy)
  obtain⟨m,hm⟩:∃ m:Nat,x % 1000003=(m:Int):=dK (Int.emod_nonneg x (by decide))
  have hm1:m < 1000003:=ds.mp (by rw [←hm];exact Int.emod_lt_of_pos x (by decide))
  refine ai<|eL<|jx<|df<|ah rfl<|bb<|wF (by decide) ?_
  rw [hm]
  refine bb ⟨by decide,by decide,bg _,by grind,rfl,?_⟩
  have hw3:m % 3 < 3:=ki _ (by decide)
  have em:((m:Int) % 3)=((m % 3:Nat):Int):=rfl
  have ed:((m:Int) / 3)=((m / 3:Nat):Int):=rfl
  rw [em,ed]
  generalize m % 3=which at hw3
  generalize hq1:m / 3=q1
  have hq1':q1 < 1000003:=by grind
  obtain⟨ks,gk,fk⟩:=t.k
  have hkl:=t.kl
  refine iL ⟨[some (.flist (ns.map .int)),some (.loc 0),some (.loc 6),some (.loc 10),some (.loc 14),some (.int (q1:Int)),some (.int (which:Int)),v7,v8,v9,v10,v11,v12,v13,v14],σ⟩ rfl ?_
  refine ai<|eL<|jx<|ah rfl<|eT<|ah rfl<|i7 gk ?_
  rw [fk.len]
  refine⟨ds.mpr t.kne,by grind,bg _,by grind,rfl,?_⟩
  have hp:q1 % K.length < K.length:=ki _ t.kne
  have em2:((q1:Int) % (K.length:Int))=((q1 % K.length:Nat):Int):=rfl
  have ed2:((q1:Int) / (K.length:Int))=((q1 / K.length:Nat):Int):=rfl
  have hq2':q1 / K.length≤q1:=Nat.div_le_self _ _
  rw [em2,ed2]
  generalize q1 % K.length=place at hp
  generalize q1 / K.length=q2 at hq2'
  refine iL ⟨[some (.flist (ns.map .int)),some (.loc 0),some (.loc 6),some (.loc 10),some (.loc 14),some (.int (q2:Int)),some (.int (which:Int)),some (.int (place:Int)),v8,v9,v10,v11,v12,v13,v14],σ⟩ rfl ?_
  refine ai<|eL<|jx<|ah rfl<|bb ⟨by decide,by decide,bg _,by grind,rfl,?_⟩
  have ho:q2 % 15 < 15:=ki _ (by decide)
  have em3:((q2:Int) % 15)=((q2 % 15:Nat):Int):=rfl
  have ed3:((q2:Int) / 15)=((q2 / 15:Nat):Int):=rfl
  have hq3':q2 / 15≤q2:=Nat.div_le_self _ _
  rw [em3,ed3]
  generalize q2 % 15=one at ho
  generalize q2 / 15=q3 at hq3'
  refine iL ⟨[some (.flist (ns.map .int)),some (.loc 0),some (.loc 6),some (.loc 10),some (.loc 14),some (.int (q3:Int)),some (.int (which:Int)),some (.int (place:Int)),some (.int (one:Int)),v9,v10,v11,v12,v13,v14],σ⟩ rfl ?_
  refine ai<|eL<|jx<|ah rfl<|bb ⟨by decide,by decide,bg _,by grind,rfl,?_⟩
  have ht:q3 % 17 < 17:=ki _ (by decide)
  have em4:((q3:Int) % 17)=((q3 % 17:Nat):Int):=rfl
  have ed4:((q3:Int) / 17)=((q3 / 17:Nat):Int):=rfl
  rw [em4,ed4]
  generalize q3 % 17=two at ht
  generalize q3 / 17=q4
  refine iL ⟨[some (.flist (ns.map .int)),some (.loc 0),some (.loc 6),some (.loc 10),some (.loc 14),some (.int (q4:Int)),some (.int (which:Int)),some (.int (place:Int)),some (.int (one:Int)),some (.int (two:Int)),v10,v11,v12,v13,v14],σ⟩ rfl ?_
  obtain⟨a,ha,hain,halt,hag⟩:=t8 (k:=1+one) (by grind)
  have ha1:a∈OCT.drop 1:=ac (i:=one) (by rw [wj];exact ha)
  refine ai<|aM<|eT<|cY<|ah rfl<|df<|bb<|ah rfl<|eW<|eP t.g0 (bM (j:=1+one) hag)<|wN (by grind) ?_
  refine iL ⟨[some (.flist (ns.map .int)),some (.loc 0),some (.loc 6),some (.loc 10),some (.loc 14),some (.int (q4:Int)),some (.int (which:Int)),some (.int (place:Int)),some (.int (one:Int)),some (.int (two:Int)),some (.str [a]),v11,v12,v13,v14],σ⟩ rfl ?_
  refine ai<|eQ<|dZ<|aB<|ah rfl<|aB<|df<|ah rfl<|bb<|wF (by decide)<|bc<|cw (aQ (aq rfl)) ?_
  have ht2:q4 % 17 < 17:=ki _ (by decide)
  have em5:((q4:Int) % 17)=((q4 % 17:Nat):Int):=rfl
  rw [em5]
  generalize q4 % 17=two' at ht2
  refine eR (x:=.int (two:Int)) (by decide) rfl<|wy rfl rfl rfl t.g0 ht (aq rfl) fun b hb=>?_
  have hb1:=(lX b hb).1
  refine eR (x:=.int (two':Int)) (by decide) rfl<|wy (name:=[a]++b) rfl rfl rfl t.g0 ht2 (by rw [aa];show 1+_ < 100;grind) fun c hc=>?_
  refine gX (by decide) rfl ?_
  have nok:NameOk ([a]++b++c):=⟨a,ha1,b,hb,c,hc,by rw [aw];rfl⟩
  generalize [a]++b++c=name at nok
  obtain⟨e0,he0⟩:∃ e0,K[place]?=some e0:=⟨_,ak hp⟩
  obtain⟨ve,hve,hent⟩:=fk.get' he0
  have e0ok:=t.kok e0 (ac he0)
  refine ai<|aM<|df<|cA<|cY<|ah rfl<|ah rfl<|eP gk (bM hve)<|bb<|kN (n:=2) hent (by decide) e0ok.len fun w σ1 x1 _ hw=>eu<|aB<|ah rfl<|bc<|bG (aQ (aq rfl)) fun n1 σ2 x2 _ g2=>?_
  obtain⟨wa,rfl,wg⟩:=hw
  have l2:(e0.take 2).length≤2:=by rw [bC];exact Nat.min_le_left _ _
  refine Bc (x2.get wg) g2 (by rw [aa,ae];show _+1≤1000000;grind) ?_
  have eok:EntOk (e0.take 2++[name]):=⟨fun n hn=>(aU.mp hn).elim (fun q=>e0ok.nm n (iY q)) fun q=>by rw [ay.mp q];exact nok,by rw [aa];exact ez l2⟩
  have x3:Ext σ (σ2++[(e0.take 2).map V.str++[V.str name]]):=x1.trans (x2.trans (Ext.snoc _ _))
  have hE:EntAt (σ2++[(e0.take 2).map V.str++[V.str name]]) (.loc σ2.length) (e0.take 2++[name]):=⟨_,rfl,by rw [bh];exact dj _ _⟩
  generalize σ2++[(e0.take 2).map V.str++[V.str name]]=σ3 at x3 hE
  generalize V.loc σ2.length=vE at hE
  generalize e0.take 2++[name]=ent at hE eok
  have t3:=t.ext x3
  obtain⟨ks3,gk3,fk3⟩:=t3.k
  have fin:∀ (σ4:Hp) (K4:List Entry) (fv:List (Option V)) (R':Fl→St→Prop),EntAt σ4 vE ent→σ4[0]?=some OCTV→σ4[15]?=some xs→LAt σ4 6 K4→LAt σ4 10 F→LAt σ4 14 S→(∀ e∈K4,EntOk e)→0 < K4.length→K4.length≤5+(i+1) →
    (∀ st,TI (.flist (ns.map .int)) xs (i+1) st→R' .next st) →
    W (exs (CN d) GT (.cons (.forL 13 (.idx (.tup (.cons (.list (.cons (.var 3) .nil)) (.cons (.list (.cons (.var 4) .nil)) (.cons (.list (.cons (.var 3) (.cons (.var 4) .nil))) .nil)))) (.var 6))
      (.cons (.forR2 14 (.lit (.int 1)) (.bin .add (.b1 .len (.var 12)) (.lit (.int 1)))
        (.cons (.ifS (.cmp .notin (.sliceHi (.var 12) (.var 14)) (.var 13))
          (.cons (.expr (.append (.var 13) (.sliceHi (.var 12) (.var 14)))) .nil) .nil) .nil)) .nil)) .nil)
     ⟨[some (.flist (ns.map .int)),some (.loc 0),some (.loc 6),some (.loc 10),some (.loc 14),some (.int (q4:Int)),some (.int (which:Int)),some (.int (place:Int)),some (.int (one:Int)),some (.int (two:Int)),some (.str name),some (.int (two':Int)),some vE,v13,v14],σ4⟩) R' NX:=by
   intro σ4 K4 fv R' hE g0 gx k4 f4 s4 kok kne kl hR
   have grow:∀ (n:Nat) (T:List Entry) (b:Nat) (σ:Hp) (a13 a14:Option V) (Q':Fl→St→Prop),EntAt σ vE ent→LAt σ n T→Tree T b→b < 900→(∀ v14 T' σ',LAt σ' n T'→Tree T' (b+3)→Pres n σ σ'→Q' .next ⟨[some (.flist (ns.map .int)),some (.loc 0),some (.loc 6),some (.loc 10),some (.loc 14),some (.int (q4:Int)),some (.int (which:Int)),some (.int (place:Int)),some (.int (one:Int)),some (.int (two:Int)),some (.str name),some (.int (two':Int)),some vE,some (.loc n),v14],σ'⟩) →
     W (exs (CN d) GT (.cons (.forR2 14 (.lit (.int 1)) (.bin .add (.b1 .len (.var 12)) (.lit (.int 1))) (.cons (.ifS (.cmp .notin (.sliceHi (.var 12) (.var 14)) (.var 13)) (.cons (.expr (.append (.var 13) (.sliceHi (.var 12) (.var 14)))) .nil) .nil) .nil)) .nil)
      (setVar ⟨[some (.flist (ns.map .int)),some (.loc 0),some (.loc 6),some (.loc 10),some (.loc 14),some (.int (q4:Int)),some (.int (which:Int)),some (.int (place:Int)),some (.int (one:Int)),some (.int (two:Int)),some (.str name),some (.int (two':Int)),some vE,a13,a14],σ⟩ 13 (.loc n))) Q' NX:=fun n T b σ a13 a14 Q' hE lT tT hb k=>
    iL ⟨[some (.flist (ns.map .int)),some (.loc 0),some (.loc 6),some (.loc 10),some (.loc 14),some (.int (q4:Int)),some (.int (which:Int)),some (.int (place:Int)),some (.int (one:Int)),some (.int (two:Int)),some (.str name),some (.int (two':Int)),some vE,some (.loc n)]++[a14],σ⟩ rfl<|ai<|AY (fun _=>rfl) (fun _=>rfl) rfl hE eok lT tT hb fun v14 T' σ' l' t' p'=>aJ (k v14 T' σ' l' t' p')
   have lt10:10 < σ4.length:=by obtain⟨_,g,_⟩:=f4;exact dA g
   have lt14:14 < σ4.length:=by obtain⟨_,g,_⟩:=s4;exact dA g
   have hb9:3+3 * i < 900:=by grind
   refine ai<|eQ<|cY<|dZ<|aB<|eu<|aB<|ah rfl<|bc<|bG (aQ (aq rfl)) fun u1 σ5 x5 hu1 g5=>aB<|eu<|aB<|ah rfl<|bc<|bG (aQ (aq rfl)) fun u2 σ6 x6 hu2 g6=>aB<|eu<|aB<|ah rfl<|aB<|ah rfl<|bc<|bG (aQ (aq rfl)) fun u3 σ7 x7 hu3 g7=>bc<|cw (aQ (aq rfl))<|ah rfl ?_
   have X7:Ext σ4 σ7:=x5.trans (x6.trans x7)
   have hu1':σ4.length≤u1:=hu1
   have hu2':σ4.length≤u2:=aj x5.len hu2
   have hu3':σ4.length≤u3:=aj (x5.trans x6).len hu3
   have E7:=hE.ext X7
   have k7:=k4.ext X7
   have f7:=f4.ext X7
   have s7:=s4.ext X7
   have G7:=X7.get g0
   have H7:=X7.get gx
   have nx:∀ {u j:Nat} {l:List V} {σ:Hp},σ[u]?=some l→nextOf σ j (.loc u)=some l[j]?:=fun h=>by show cX _ _=_;rw [h];rfl
   obtain rfl | rfl | rfl:=three hw3
   ·
    refine oD (v:=.loc u1) rfl<|eR (by decide) (nx (x7.get (x6.get g5)))<|grow 10 F _ σ7 _ _ _ E7 f7 t.tf hb9 fun v14' F' σ8 lF tF p=>?_
    exact gX (by decide) (nx (p.at' u1 _ (by grind) (x7.get (x6.get g5))))<|aJ<|hR _ ⟨_,_,_,_,_,_,_,_,_,_,σ8,K4,F',S,p.at' _ _ (by decide) G7,p.at' _ _ (by decide) H7,k7.pres p (by decide),lF,s7.pres p (by decide),kok,kne,kl,tF.more (by grind),t.ts.more (by grind)⟩
   ·
    refine oD (v:=.loc u2) rfl<|eR (by decide) (nx (x7.get g6))<|grow 14 S _ σ7 _ _ _ E7 s7 t.ts hb9 fun v14' S' σ8 lS tS p=>?_
    exact gX (by decide) (nx (p.at' u2 _ (by grind) (x7.get g6)))<|aJ<|hR _ ⟨_,_,_,_,_,_,_,_,_,_,σ8,K4,F,S',p.at' _ _ (by decide) G7,p.at' _ _ (by decide) H7,k7.pres p (by decide),f7.pres p (by decide),lS,kok,kne,kl,t.tf.more (by grind),tS.more (by grind)⟩
   ·
    refine oD (v:=.loc u3) rfl<|eR (by decide) (nx g7)<|grow 10 F _ σ7 _ _ _ E7 f7 t.tf hb9 fun v14' F' σ8 lF tF p=>?_
    refine eR (by decide) (nx (p.at' u3 _ (by grind) g7))<|grow 14 S _ σ8 _ _ _ (p.ent _ _ E7) (s7.pres p (by decide)) t.ts hb9 fun v14'' S' σ9 lS tS p'=>?_
    exact gX (by decide) (nx (p'.at' u3 _ (by grind) (p.at' u3 _ (by grind) g7)))<|aJ<|hR _ ⟨_,_,_,_,_,_,_,_,_,_,σ9,K4,F',S',p'.at' _ _ (by decide) (p.at' _ _ (by decide) G7),p'.at' _ _ (by decide) (p.at' _ _ (by decide) H7),(k7.pres p (by decide)).pres p' (by decide),lF.pres p' (by decide),lS,kok,kne,kl,tF.more (by grind),tS.more (by grind)⟩
  refine ai<|ch<|bu<|ah rfl<|ah rfl ⟨_,BS hE gk3 fk3,?_⟩
  by_cases q:ent∈K
  ·rw [decide_eq_true q]
   exact ifF (aJ (fin σ3 K [] _ hE t3.g0 t3.gx t3.k t3.f t3.s t3.kok t3.kne (by grind) fun _ h=>h))
  ·rw [decide_eq_false q]
   have kne3:K≠[]:=fun z=>by have:=t.kne;rw [z] at this;exact bx _ this
   refine ifT<|ai<|dT<|fY<|ah rfl<|ah rfl<|wP t3.k kne3 (by grind) hE fun σ4 l4 p4=>aJ<|fin σ4 (K++[ent]) [] _ (p4.ent _ _ hE) (p4.at' 0 _ (by decide) t3.g0) (p4.at' 15 _ (by decide) t3.gx) l4 (t3.f.pres p4 (by decide)) (t3.s.pres p4 (by decide)) (fun e he=>(aU.mp he).elim (t3.kok e) fun z=>by rw [ay.mp z];exact eok) (by rw [aa];exact bo _) (by rw [aa];show _+1≤_;grind) fun _ h=>h
 ·cases h with
  | mk _ _ _ _ _ _ _ _ _ _ σ' K F S t=>
  have hb:3+3 * xs.length≤18:=by grind
  exact ai (dd (dZ (aB (ah rfl (aB (ah rfl (bc (cw (aQ (aq rfl)) (hR _ _ ⟨F,S,_,_,rfl,t.f,t.s,t.tf.more hb,t.ts.more hb⟩)))))))))
noncomputable def dueOf (F S:List Entry):List Entry:=F.filter fun e=>!decide (e∈S)
noncomputable def lst' (b:Bool) (T:List Entry):List Txt:=(isort (er (sgB b)) T).map (txtE b)
theorem oW {F S:List Entry} {e:Entry}:e∈dueOf F S↔e∈F∧e∉S:=by
 unfold dueOf
 rw [List.mem_filter]
 exact and_congr_right fun _=>⟨fun h q=>(by rw [decide_eq_true q] at h;cases h),fun h=>(by rw [decide_eq_false h];rfl)⟩
theorem F2.strs_eq {vs:List V} {L:List Txt} (h:F2 IsS vs L):vs=L.map .str:=by
 induction h with
 | nil=>rfl
 | cons h _ ih=>rw [h,ih];rfl
section
variable {F S T:List Entry} {n m k:Nat} {b:Bool}
theorem Tree.nodup_txt (t:Tree T n):(T.map (txtE b)).Nodup:=kF.mpr (t.nd.imp_of_mem fun ha hb h q=>h (jz (t.ok _ ha) (t.ok _ hb) q))
theorem Tree.sort_txt (t:Tree T n):isort ltN (T.map (txtE b))=lst' b T:=vz fun x hx y hy=>kQ (t.ok x hx) (t.ok y hy)
theorem Tree.srt_txt (t:Tree T n):Srt ltN (lst' b T):=kF.mpr ((j6 (ii (oK b)) t.nd).imp_of_mem fun ha hb h=>by rw [kQ (t.ok _ (bO.mp ha)) (t.ok _ (bO.mp hb))];exact h)
theorem Tree.mem_txt (t:Tree T n) {e:Entry} (he:EntOk e):txtE b e∈lst' b T↔e∈T:=by
 constructor
 ·intro h
  obtain⟨f,hf,q⟩:=bE.mp h
  have hf':=bO.mp hf
  rw [jz he (t.ok f hf') q.symm];exact hf'
 ·intro h
  exact bE.mpr ⟨e,bO.mpr h,rfl⟩
theorem kZ:(lst' b T).length=T.length:=by unfold lst';rw [ae,dG]
theorem q9 (t:Tree F n) (u:Tree S m):(lst' b F).filter (off (lst' b S))=lst' b (dueOf F S):=by
 have e:∀ l:List Entry,(∀ e∈l,EntOk e)→(l.map (txtE b)).filter (off (lst' b S))=(l.filter fun e=>!decide (e∈S)).map (txtE b):=by
  intro l
  induction l with
  | nil=>intro _;rfl
  | cons e l ih=>
   intro h
   have ih:=ih fun f hf=>h f (.tail _ hf)
   have iff:=u.mem_txt (b:=b) (h e (.head _))
   rw [aZ,yZ,yZ]
   unfold off
   by_cases q:e∈S
   ·rw [decide_eq_true (iff.mpr q),decide_eq_true q];exact ih
   ·rw [decide_eq_false fun z=>q (iff.mp z),decide_eq_false q]
    show _::_=_::_
    rw [←ih];rfl
 unfold lst' dueOf
 rw [←pj (ii (oK b)) _ t.nd]
 exact e _ fun e he=>t.ok e (bO.mp he)
theorem Bd (t:Tree S m):∀ (y x:Entry),x++y∈S→x∈S:=by
 intro y
 induction h:y.length generalizing y with
 | zero=>intro x q;rw [aG h,al] at q;exact q
 | succ k ih=>
  intro x q
  have hy:y≠[]:=fun z=>by rw [z] at h;cases h
  have:=t.up _ q
  rw [lh hy] at this
  exact ih y.dropLast (by rw [iZ,h];rfl) x this
theorem uB (t:Tree F n) (u:Tree S m):Bad (isort (er (sgB b)) (dueOf F S)) (fun e=>decide (e∈S))↔Torn (sgB b) (isort (er (sgB b)) (dueOf F S)):=by
 have hin:∀ {e},e∈isort (er (sgB b)) (dueOf F S)↔e∈F∧e∉S:=bO.trans oW
 have hs:=oK b
 have hL:=j6 (ii hs) (t.nd.filter fun e=>!decide (e∈S))
 have ne:∀ e∈isort (er (sgB b)) (dueOf F S),e≠[]:=fun e he q=>(hin.mp he).2 (by rw [q];exact u.root)
 have k3:∀ e∈isort (er (sgB b)) (dueOf F S),decide (e.dropLast∈S)=false→e.dropLast∈isort (er (sgB b)) (dueOf F S):=fun e he h=>hin.mpr ⟨t.up e (hin.mp he).1,of_decide_eq_false h⟩
 exact⟨qe hs hL ne k3,rG hs hL ne (fun x y h=>decide_eq_true (Bd u y x (of_decide_eq_true h))) (fun e he=>decide_eq_false (hin.mp he).2) k3⟩
theorem vj {L:List Entry}:¬Torn (sgB false) L:=fun t=>by
 obtain⟨p,m,c,o,m',r,s,v,_,_,_,_,_,h,hl⟩:=t
 have:s∈sg0 m':=by rw [show sg0 m'=sg0 m++s::v from h];exact bm _ (.head _)
 unfold sl at hl
 rw [(kW this).1] at hl
 cases hl
theorem nA {r:Entry→Entry→Bool} {sg:Name→List Sign} {L:List Entry}:Torn sg (isort r L)↔Torn sg L:=
 ⟨fun⟨p,m,c,o,m',r,s,v,h1,h2,h3,h4,h5,h6,h7⟩=>⟨p,m,c,o,m',r,s,v,bO.mp h1,bO.mp h2,h3,bO.mp h4,h5,h6,h7⟩,fun⟨p,m,c,o,m',r,s,v,h1,h2,h3,h4,h5,h6,h7⟩=>⟨p,m,c,o,m',r,s,v,bO.mpr h1,bO.mpr h2,h3,bO.mpr h4,h5,h6,h7⟩⟩
end
section
variable {d:Nat} {fv:List (Option V)} {σ:Hp} {Q:V→St→Prop} {X:St→Prop} {b:Bool} {iv jv n m:Nat} {F S T:List Entry}
inductive PaI {α:Type} (fv:List (Option V)) (σ:Hp) (f:Hp→List V→α→Prop) (o:List V) (a:α):St→Prop
 | mk (σ':Hp) (x:Ext σ σ') (h:f σ' o a):PaI fv σ f o a ⟨fv,σ'⟩
theorem tJ {q:Nat} (t:Tree T q) (hq:q≤18) (h3:fv[3]?=some (some (.bool b))) (hi:fv[iv]?=some (some (.loc n))) (l:LAt σ n T) (k:∀ a σ',Ext σ σ'→σ'[a]?=some ((lst' b T).map .str)→Q (.loc a) ⟨fv,σ'⟩) :
  W (ev (CN (d+3)) GT .none (.b1 .sorted (.comp (.call 12 (.cons .cv (.cons (.var 3) .nil))) (.var iv))) ⟨fv,σ⟩) Q X:=by
 obtain⟨vs,g,f⟩:=l
 have tl:=t.len
 refine eT<|lC<|ah hi<|fC<|fX (I:=fun i o=>PaI fv σ (fun _ o L=>o=(L.map (txtE b)).map .str) o (T.take i)) vs (fun i o st h=>by cases h with | mk σ' x _=>exact fM (x.get g)) (fun i y o st hy h=>?_) (fun o st h=>?_) (by rw [f.len];show _ < 100000;omega) ⟨σ,Ext.refl _,rfl⟩
 ·obtain⟨σ',x,ho⟩:=h
  obtain⟨c,hc,hv⟩:=f.get hy
  obtain⟨hi',hc'⟩:=ag.mp hc
  refine iO<|bN<|aB<|iM<|aB<|ah h3<|bc<|dE (yI (t.ok c (ac hc)) (hv.ext x)) fun w σ2 ⟨e1,x2⟩=>⟨σ2,x.trans x2,?_⟩
  rw [e1,ho,av hi',hc',bh,bh];rfl
 ·obtain⟨σ',x,ho⟩:=h
  rw [ho,f.len,bj]
  refine bG (by rw [ae,ae];exact aQ (by omega)) fun a σ2 x2 _ g2=>pV (σ:=σ2) (K:=IsS) (fun _ _ _ _=>Az) dF g2 (F2.strs _) t.nodup_txt (by rw [ae];omega) ?_ rfl fun a' σ3 res x3 g3 h3=>k a' σ3 (x.trans (x2.trans x3)) ?_
  ·have:((T.map (txtE b)).map V.str).all (fun k=>kindV k == 1)=true:=ax.mpr fun v hv=>by obtain⟨s,_,rfl⟩:=bE.mp hv;rfl
   rw [this];rfl
  ·rw [g3,h3.strs_eq,t.sort_txt]
theorem tM {q:Nat} (hF:F.length≤18) (hi:fv[iv]?=some (some (.loc n))) (hj:fv[jv]?=some (some (.loc m))) (l:LAt σ n F) (l':LAt σ m S) (k:∀ a σ',Ext σ σ'→LAt σ' a (dueOf F S)→Q (.loc a) ⟨fv,σ'⟩) :
  W (ev (CN (d+3)) GT .none (.compIf .cv (.var iv) (.cmp .notin .cv (.var jv))) ⟨fv,σ⟩) Q X:=by
 obtain⟨vs,g,f⟩:=l
 obtain⟨ws,g',f'⟩:=l'
 refine lB<|ah hi<|fC<|fX (I:=fun i o st=>st=⟨fv,σ⟩∧F2 (EntAt σ) o (dueOf (F.take i) S)) vs (fun i o st ⟨e,_⟩=>by rw [e];exact fM g) (fun i y o st hy ⟨e,ho⟩=>?_) (fun o st ⟨e,ho⟩=>?_) (by rw [f.len];show _ < 100000;omega) ⟨rfl,.nil⟩
 ·rw [e]
  obtain⟨c,hc,hv⟩:=f.get hy
  obtain⟨hi',hc'⟩:=ag.mp hc
  have step:dueOf (F.take (i+1)) S=dueOf (F.take i) S++dueOf [c] S:=by unfold dueOf;rw [av hi',hc',fJ]
  refine kO<|bu<|iM<|ah hj ⟨_,BS hv g' f',?_⟩
  unfold dueOf at step
  by_cases q:c∈S
  ·rw [decide_eq_true q]
   refine ifF ⟨rfl,?_⟩
   unfold dueOf
   rw [step,bV (by rw [decide_eq_true q];exact aA)]
   exact ho.app .nil
  ·rw [decide_eq_false q]
   refine ifT<|iM ⟨rfl,?_⟩
   unfold dueOf
   rw [step,bH (by rw [decide_eq_false q];rfl)]
   exact ho.app (.one hv)
 ·rw [e]
  rw [f.len,bj] at ho
  refine bG ?_ fun a σ2 x2 _ g2=>k a σ2 x2 ⟨o,g2,ho.mono fun _ _ q=>q.ext x2⟩
  rw [ho.len]
  exact aQ (aj (cz _ _) (by omega))
end
theorem wK {call:CallT} {G:Nat→Option V} {st:St} {Q:Fl→St→Prop} {X:St→Prop} {is:List Nat} {l:List V} {b:Ss} (h:l.length=is.length) (k:W (exs call G b (setVars st is l)) Q X):W ((unpackV is (.tup l) st).bind fun _ st=>exs call G b st) Q X:=
 aK (c9 (decide_eq_true h) (js k))
theorem tN {d r c e m n:Nat} {b:Bool} {F S:List Entry} {σ:Hp} {R':Fl→St→Prop} {x0 x1 x2 x4 x5 x6 x7 x8 x9 x13:Option V} (t:Tree F m) (u:Tree S n) (hm:m≤18) (hn:n≤18) (gr:σ[r]?=some ((lst' b (dueOf F S)).map .str)) (gc:σ[c]?=some ((lst' b S).map .str)) (le:LAt σ e (dueOf F S))
  (k:∀ v13 σ',Ext σ σ'→R' .next ⟨[x0,x1,x2,some (.bool b),x4,x5,x6,x7,x8,x9,some (.loc r),some (.loc c),some (.loc e),v13],σ'⟩) :
  W (exs (CN (d+3)) GT (.cons (.assign 13 (.ife (.val (.var 3)) (.sortK 15 (.var 12)) (.b1 .sorted (.var 12))))
      (.cons (.ifS (.cmp .ne (.comp (.call 13 (.cons .cv .nil)) (.var 10)) (.var 13))
        (.cons (.ret (.lit (.bool false))) .nil) .nil)
      (.cons (.ifS (.cmp .eq (.call 17 (.cons (.var 10) (.cons (.var 11) .nil))) (.and (.var 3) (.call 16 (.cons (.var 12) .nil))))
        (.cons (.ret (.lit (.bool false))) .nil) .nil) .nil)))
   ⟨[x0,x1,x2,some (.bool b),x4,x5,x6,x7,x8,x9,some (.loc r),some (.loc c),some (.loc e),x13],σ⟩) R' NX:=by
 have ok:∀ f∈dueOf F S,EntOk f:=fun f hf=>t.ok f (oW.mp hf).1
 have nd:(dueOf F S).Nodup:=t.nd.filter _
 have ln:(dueOf F S).length≤18:=aj (cz _ _) (aj t.len hm)
 have hne:∀ f∈dueOf F S,f≠[]:=fun f hf q=>(oW.mp hf).2 (by rw [q];exact u.root)
 obtain⟨vs,g,f⟩:=le
 have go:∀ (a:Nat) (σ1:Hp) (res:List V),Ext σ σ1→σ1[a]?=some res→F2 (EntAt σ1) res (isort (er (sgB b)) (dueOf F S)) →
   W (exs (CN (d+3)) GT (.cons (.ifS (.cmp .ne (.comp (.call 13 (.cons .cv .nil)) (.var 10)) (.var 13))
        (.cons (.ret (.lit (.bool false))) .nil) .nil)
      (.cons (.ifS (.cmp .eq (.call 17 (.cons (.var 10) (.cons (.var 11) .nil))) (.and (.var 3) (.call 16 (.cons (.var 12) .nil))))
        (.cons (.ret (.lit (.bool false))) .nil) .nil) .nil))
   ⟨[x0,x1,x2,some (.bool b),x4,x5,x6,x7,x8,x9,some (.loc r),some (.loc c),some (.loc e),some (.loc a)],σ1⟩) R' NX:=by
  intro a σ1 res x1' g1 f1
  have lI:(isort (er (sgB b)) (dueOf F S)).length≤18:=by rw [dG];exact ln
  refine ai<|ch<|bu<|lC<|ah rfl<|fC<|fX (I:=fun i o=>PaI [x0,x1,x2,some (.bool b),x4,x5,x6,x7,x8,x9,some (.loc r),some (.loc c),some (.loc e),some (.loc a)] σ1 (fun σ' o L=>F2 (EntAt σ') o L) o ((isort (er (sgB b)) (dueOf F S)).take i)) ((lst' b (dueOf F S)).map .str) (fun i o st h=>by cases h with | mk σ' x _=>exact fM (x.get (x1'.get gr))) (fun i y o st hy h=>?_) (fun o st h=>?_) (by rw [ae,kZ];show _ < 100000;omega) ⟨σ1,Ext.refl _,.nil⟩
  ·obtain⟨σ',x,ho⟩:=h
   rw [aN] at hy
   obtain⟨s,hs,rfl⟩:=aF.mp hy
   unfold lst' at hs
   rw [aN] at hs
   obtain⟨w,hw,rfl⟩:=aF.mp hs
   obtain⟨hi,hw'⟩:=ag.mp hw
   refine iO<|bN<|aB<|iM<|bc<|dE (yG (ok w (bO.mp (ac hw)))) fun v σ2 ⟨e1,x2⟩=>⟨σ2,x.trans x2,?_⟩
   rw [av hi,hw']
   exact (ho.mono fun _ _ q=>q.ext x2).app (.one e1)
  ·obtain⟨σ',x,ho⟩:=h
   rw [ae,kZ,←dG (r:=er (sgB b)),bj] at ho
   refine bG (by rw [ho.len];exact aQ (by omega)) fun a2 σ2 x2 _ g2=>ah rfl ⟨false,?_,ifF ?_⟩
   ·have X2:=x.trans x2
    show cX _ (veq σ2 4 (.loc a2) (.loc a))=_
    rw [oG (k:=3) g2 (X2.get g1) (ho.mono fun _ _ q=>q.ext x2) (f1.mono fun _ _ q=>q.ext X2) fun _ _ _ _=>wV,decide_eq_true rfl];rfl
   have X2:=x1'.trans (x.trans x2)
   refine aJ<|ai<|ch<|bu<|bN<|aB<|ah rfl<|aB<|ah rfl<|bc<|dE (vR (b:=b) (L:=isort (er (sgB b)) (dueOf F S)) (S:=S) (X2.get gr) (X2.get gc) (fun _ he=>u.mem_txt he) (fun f hf=>ok f (bO.mp hf)) (fun f hf=>hne f (bO.mp hf)) (by omega)) fun v σ3 ⟨w,ev,x3,hw⟩=>?_
   rw [ev]
   rw [uB t u] at hw
   have X3:=X2.trans x3
   refine Ay<|ah rfl ⟨b,rfl,?_⟩
   cases b with
   | false=>
    have:w=true:=hw.mpr vj
    rw [this]
    exact ifF ⟨false,rfl,ifF (aJ (aJ (k _ σ3 X3)))⟩
   | true=>
    refine ifT<|bN<|aB<|ah rfl<|bc<|dE (yF (X3.get g) (f.mono fun _ _ q=>q.ext X3) ok hne (by omega)) fun v σ4 ⟨w',ev,x4,hw'⟩=>?_
    rw [ev]
    have key:w=!w':=by
     have e:w'=true↔¬w=true:=by
      rw [hw']
      exact⟨fun h q=>hw.mp q (nA.mpr h),fun h=>Classical.byContradiction fun q=>h (hw.mpr fun z=>q (nA.mp z))⟩
     clear ev hw hw'
     cases w with
     | true=>cases w' with
      | true=>exact absurd rfl (e.mp rfl)
      | false=>rfl
     | false=>cases w' with
      | true=>rfl
      | false=>exact absurd (e.mpr fun h=>(nomatch h)) fun h=>(nomatch h)
    refine⟨false,?_,ifF (aJ (aJ (k _ σ4 (X3.trans x4))))⟩
    rw [key]
    cases w'<;>rfl
 refine ai<|aM<|wH<|dn<|ah rfl ⟨b,rfl,?_⟩
 cases b with
 | true=>exact ifT<|zm<|ah rfl<|rP g f ok nd (by omega) fun a σ1 res x1 g1 f1=>go a σ1 res x1 g1 f1
 | false=>
  have kind:(vs.all fun k=>kindV k == 2)=true:=ax.mpr fun v hv=>by
   obtain⟨f,_,c,rfl,_⟩:=f.mem hv
   rfl
  exact ifF<|eT<|ah rfl<|pV (σ:=σ) (K:=EntAt σ) (fun _ _ _ _=>Ci) (ii xt) g f nd (by omega) (by rw [kind,kH]) rfl fun a σ1 res x1 g1 f1=>go a σ1 res x1 g1 (f1.mono fun _ _ q=>q.ext x1)
theorem wE {d n m k l:Nat} {b:Bool} {F S:List Entry} {σ:Hp} {R':Fl→St→Prop} {x0 x4 x5 x6 x7 x8 x9 x10 x11 x12 x13:Option V} (t:Tree F k) (u:Tree S l) (hk:k≤18) (hl':l≤18) (lf:LAt σ n F) (ls:LAt σ m S)
  (h:∀ v4 v5 v6 v7 v8 v9 v10 v11 v12 v13 σ',Ext σ σ'→R' .next ⟨[x0,some (.loc n),some (.loc m),some (.bool b),v4,v5,v6,v7,v8,v9,v10,v11,v12,v13],σ'⟩) :
  W (exs (CN (d+3)) GT
    (.cons (.assign 4 (.b1 .sorted (.comp (.call 12 (.cons .cv (.cons (.var 3) .nil))) (.var 1))))
    (.cons (.assign 5 (.b1 .sorted (.comp (.call 12 (.cons .cv (.cons (.var 3) .nil))) (.var 2))))
    (.cons (.unpack [6,7] (.call 10 (.cons (.var 4) (.cons (.var 5) .nil))))
    (.cons (.asgCI 8 .cv (.var 1) (.cmp .notin .cv (.var 2)))
    (.cons (.asgCI 9 .cv (.var 2) (.cmp .notin .cv (.var 1)))
    (.cons (.forT [10,11,12] (.tup (.cons (.tup (.cons (.var 6) (.cons (.var 5) (.cons (.var 8) .nil)))) (.cons (.tup (.cons (.var 7) (.cons (.var 4) (.cons (.var 9) .nil)))) .nil)))
      (.cons (.assign 13 (.ife (.val (.var 3)) (.sortK 15 (.var 12)) (.b1 .sorted (.var 12))))
      (.cons (.ifS (.cmp .ne (.comp (.call 13 (.cons .cv .nil)) (.var 10)) (.var 13))
        (.cons (.ret (.lit (.bool false))) .nil) .nil)
      (.cons (.ifS (.cmp .eq (.call 17 (.cons (.var 10) (.cons (.var 11) .nil))) (.and (.var 3) (.call 16 (.cons (.var 12) .nil))))
        (.cons (.ret (.lit (.bool false))) .nil) .nil) .nil)))) .nil))))))
   ⟨[x0,some (.loc n),some (.loc m),some (.bool b),x4,x5,x6,x7,x8,x9,x10,x11,x12,x13],σ⟩) R' NX:=by
 have lt:=aj t.len hk
 have lu:=aj u.len hl'
 refine ai<|aM<|tJ t hk rfl rfl lf fun a4 σ1 y1 g1=>?_
 refine iL ⟨[x0,some (.loc n),some (.loc m),some (.bool b),some (.loc a4),x5,x6,x7,x8,x9,x10,x11,x12,x13],σ1⟩ rfl ?_
 refine ai<|aM<|tJ u hl' rfl rfl (ls.ext y1) fun a5 σ2 y2 g2=>?_
 have Y2:=y1.trans y2
 refine iL ⟨[x0,some (.loc n),some (.loc m),some (.bool b),some (.loc a4),some (.loc a5),x6,x7,x8,x9,x10,x11,x12,x13],σ2⟩ rfl ?_
 refine ai<|eL<|bN<|aB<|ah rfl<|aB<|ah rfl<|bc<|dE (yK (y2.get g1) g2 t.srt_txt u.srt_txt (by rw [kZ];omega) (by rw [kZ];omega)) fun v σ3 ⟨a6,a7,ev,y3,g6,g7⟩=>?_
 rw [ev]
 rw [q9 t u] at g6
 rw [q9 u t] at g7
 have Y3:=Y2.trans y3
 refine⟨rfl,iL ⟨[x0,some (.loc n),some (.loc m),some (.bool b),some (.loc a4),some (.loc a5),some (.loc a6),some (.loc a7),x8,x9,x10,x11,x12,x13],σ3⟩ rfl ?_⟩
 refine ai<|tO<|tM (q:=0) lt rfl rfl (lf.ext Y3) (ls.ext Y3) fun a8 σ4 y4 l8=>?_
 have Y4:=Y3.trans y4
 refine iL ⟨[x0,some (.loc n),some (.loc m),some (.bool b),some (.loc a4),some (.loc a5),some (.loc a6),some (.loc a7),some (.loc a8),x9,x10,x11,x12,x13],σ4⟩ rfl ?_
 refine ai<|tO<|tM (q:=0) lu rfl rfl (ls.ext Y4) (lf.ext Y4) fun a9 σ5 y5 l9=>?_
 have Y5:=Y4.trans y5
 refine iL ⟨[x0,some (.loc n),some (.loc m),some (.bool b),some (.loc a4),some (.loc a5),some (.loc a6),some (.loc a7),some (.loc a8),some (.loc a9),x10,x11,x12,x13],σ5⟩ rfl ?_
 refine ai<|AZ<|dZ<|aB<|dZ<|aB<|ah rfl<|aB<|ah rfl<|aB<|ah rfl<|bc<|cw (aQ (aq rfl))<|aB<|dZ<|aB<|ah rfl<|aB<|ah rfl<|aB<|ah rfl<|bc<|cw (aQ (aq rfl))<|bc<|cw (aQ (aq rfl)) ?_
 have y35:=y4.trans y5
 refine eR (by decide) rfl<|wK rfl<|iL ⟨[x0,some (.loc n),some (.loc m),some (.bool b),some (.loc a4),some (.loc a5),some (.loc a6),some (.loc a7),some (.loc a8),some (.loc a9),some (.loc a6),some (.loc a5),some (.loc a8),x13],σ5⟩ rfl<|tN t u hk hl' (y35.get g6) ((y3.trans y35).get g2) (l8.ext y5) fun v13 σ6 y6=>?_
 refine eR (by decide) rfl<|wK rfl<|iL ⟨[x0,some (.loc n),some (.loc m),some (.bool b),some (.loc a4),some (.loc a5),some (.loc a6),some (.loc a7),some (.loc a8),some (.loc a9),some (.loc a7),some (.loc a4),some (.loc a9),v13],σ6⟩ rfl<|tN u t hl' hk ((y35.trans y6).get g7) ((y2.trans (y3.trans (y35.trans y6))).get g1) (l9.ext y6) fun v13 σ7 y7=>?_
 exact gX (by decide) rfl<|aJ<|h _ _ _ _ _ _ _ _ _ _ σ7 (Y5.trans (y6.trans y7))
theorem xO (ns:List Int):∃ σ,callN FT GT 4 18 [.flist (ns.map .int)] []=some (.bool true,σ):=by
 have key:Cal 4 18 [.flist (ns.map .int)] [] fun v _=>v = .bool true:=by
  refine cW [some (.flist (ns.map .int)),none,none,none,none,none,none,none,none,none,none,none,none,none] rfl rfl fun R hR=>?_
  refine ai<|eL<|bN<|aB<|ah rfl<|bc<|dE (vS (d:=2)) fun v σ1 ⟨F,S,n,m,ev,lf,ls,t,u⟩=>?_
  rw [ev]
  refine⟨rfl,iL ⟨[some (.flist (ns.map .int)),some (.loc n),some (.loc m),none,none,none,none,none,none,none,none,none,none,none],σ1⟩ rfl ?_⟩
  refine ai<|eQ<|dZ<|aB<|bb<|aB<|bb<|bc<|cw (aQ (aq rfl)) ?_
  refine eR (by decide) rfl<|iL ⟨[some (.flist (ns.map .int)),some (.loc n),some (.loc m),some (.bool false),none,none,none,none,none,none,none,none,none,none],σ1⟩ rfl<|wE (d:=0) t u (am _) (am _) lf ls fun v4 v5 v6 v7 v8 v9 v10 v11 v12 v13 σ2 y2=>?_
  refine eR (by decide) rfl<|iL ⟨[some (.flist (ns.map .int)),some (.loc n),some (.loc m),some (.bool true),v4,v5,v6,v7,v8,v9,v10,v11,v12,v13],σ2⟩ rfl<|wE (d:=0) t u (am _) (am _) (lf.ext y2) (ls.ext y2) fun v4 v5 v6 v7 v8 v9 v10 v11 v12 v13 σ3 y3=>?_
  exact gX (by decide) rfl<|ai<|dd<|bb<|hR _ _ rfl
 obtain⟨v,σ,e,rfl⟩:=key
 exact⟨σ,e⟩
theorem final:PySem.Challenge.rw_il0085_01.Holds:=xU 3 (by decide) fun ns _=>xO ns
end Mine
end
theorem PySem.Challenge.cw_il0085_01_holds : PySem.Challenge.rw_il0085_01.Holds := by
  exact Mine.final
