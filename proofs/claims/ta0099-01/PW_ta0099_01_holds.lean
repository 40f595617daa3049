import PyProof.Rows.All
import PyProof.AutoSeq1
import PyProof.CallFns
import PyProof.PlainList
import PyProof.SumWalk
import PyProof.StrWalks
import PyProof.CollectIter
import PyProof.MeetsSeq
import PyProof.MeetsDict
import PyProof.DictRoads
import PyProof.DictTruth
import PyProof.DictIter
import PyProof.DictWalks
import PyProof.EqAt
import PyProof.StrOps
import PyProof.StrLawsChain
import PyProof.WalksMore
import PyProof.ListNew
import PyProof.ListCopy
import PyProof.ListMulRoad
import PyProof.ListRange
import PyProof.WalkInts
import PyProof.StrLawsRepr
import PyProof.StrBlockH
import PyProof.Rows.StrNews2
import PyProof.Rows.StrBin
import PyProof.Rows.BitMore
import PyProof.Rows.RuleB_lshift
import PyProof.Rows.RuleB_pow
import PyProof.WalksEnum
import PyProof.Rows.RuleB_floordiv
import PyProof.Rows.RuleB_mod
import PyProof.Rows.RuleB_and
import PyProof.Rows.RuleB_or
import PyProof.Rows.RuleB_xor
import PyProof.Rows.RuleIs
import PyProof.Rows.RuleN_abs
import PyProof.Rows.SortShellK
import PyProof.SetRoads
import KE.KLam
import KE.KDictIter
import KE.KSortAsk
import KE.KSortTup
import KE.KTupTruth
import Wide.FinOn
import OpenK.AllK
import Wide.All
import Lean
import PySem.Challenge.RW_ta0099_01
open PySem PySem.W PyProof.Rows
set_option Elab.async false
set_option maxRecDepth 100000
set_option linter.unusedVariables false
set_option linter.unusedSimpArgs false
set_option exponentiation.threshold 10000
set_option maxHeartbeats 1000000
set_option genSizeOf false
set_option genInjectivity false
set_option tactic.hygienic false
set_option bootstrap.genMatcherCode false
namespace Mine
open Nat (lt_trans le_trans lt_of_le_of_lt le_of_lt le_refl le_of_eq succ_le_succ ne_of_lt lt_of_lt_of_le not_lt_zero le_add_right zero_add mod_lt zero_le lt_of_succ_lt lt_of_succ_lt_succ add_le_add_left le_succ succ_lt_succ succ_add le_of_lt_succ add_assoc ble le_add_left add_le_add sub_le pow_pos add_le_add_right succ_pos lt_succ_self add_comm mul_le_mul_left sub_self ne_of_gt lt_succ_of_lt le_of_ble_eq_true add_right_comm min_le_right lt_succ_of_le min_eq_left le_succ_of_le toDigits add_lt_add mul_add succ_mul pow_le_pow_right)
open Bool (and_eq_true_iff or_eq_true_iff not_eq_true' false_eq_true)
open List (length_map length_append mem_cons_self all_eq_true mem_cons_of_mem mem_map getElem?_map append_assoc map_append map_map mem_cons getElem?_eq_getElem nodup_append length_cons mem_singleton mem_append_left length_range range' mem_of_getElem? map_cons mem_append mem_append_right replicate lookup_cons length_set mem_range contains_iff_mem getD_eq_getElem?_getD nil_append length length_nil set_set flatMap_cons isEmpty_iff mem_filter append_nil prefix_rfl mem_flatMap length_take sum_cons mem_map_of_mem nodup_cons getElem?_set_ne getElem?_append_left length_drop forIn_cons take_of_length_le filterMap_cons getElem?_append_right Sublist map_drop nodup_nil take_length getElem_mem flatten_cons take_left mapM_cons take_append_drop cons_append toArray getElem?_concat_length length_filter_le getElem?_eq_none map_nil map_take length_range' any_cons replicate_succ forIn_nil flatMap_append drop_zero drop_drop foldl_cons drop_eq_nil_iff not_mem_nil getElem?_set_self all_cons take_zero map_congr_left range_succ find?_cons)
open Str (ofString)
open Int (ofNat_lt ofNat_le natCast_nonneg not_lt toNat toNat_of_nonneg not_le add_nonneg)
open Option (map isSome_iff_exists isNone_iff_eq_none)
open Array (getElem?_toList toList_inj toList_append)
open Heap (get?_push_size SameBut get?_push_of_some lt_size get?_update_self Ns)
theorem Cn:(sreFenced PySem.Challenge.rw_ta0099_01.row.prog.main)=true:=by kernel_rfl!
theorem Cm:(((moduleNames PySem.Challenge.rw_ta0099_01.row.prog.main.body).isEmpty||lookedIntoSs (moduleNames PySem.Challenge.rw_ta0099_01.row.prog.main.body) PySem.Challenge.rw_ta0099_01.row.prog.main.body))=true:=by kernel_rfl!
theorem Cl:(namesResolve PySem.Challenge.rw_ta0099_01.row.prog)=true:=by kernel_rfl!
theorem Ck:(PySem.Challenge.rw_ta0099_01.row.prog.boundNames.all (fun n=> !worldNames.contains n))=true:=by kernel_rfl!
theorem Cj:(noRoadLSs { strict:= !(importedModules PySem.Challenge.rw_ta0099_01.row.prog.main.body).all cThrough.contains,foot:=none,bare:=(["vars","dir","locals"]:List Str).filter (readsOut PySem.Challenge.rw_ta0099_01.row.prog PySem.Challenge.rw_ta0099_01.row.prog.main.body) } PySem.Challenge.rw_ta0099_01.row.prog.main.body)=true:=by kernel_rfl!
theorem Ci:(namesMeet PySem.Challenge.rw_ta0099_01.row.prog PySem.Challenge.rw_ta0099_01.row.prog.main.body fun _ n=>attrL n)=true:=by kernel_rfl!
theorem uU:looksOpen PySem.Challenge.rw_ta0099_01.row.prog=true:=look_both (look_both (look_both (look_both (look_both Cn Cm) Cl) Ck) Cj) Ci
theorem xr:PySem.Challenge.rw_ta0099_01.row.partSaid=true:=look_both (look_both (look_both (look_both (look_both (look_both (look_both (look_both (look_both (look_both (look_both (look_both (look_both (uU) (by kernel_rfl!)) (by kernel_rfl!)) (by kernel_rfl!)) (by kernel_rfl!)) (by kernel_rfl!)) (by kernel_rfl!)) (by kernel_rfl!)) (by kernel_rfl!)) (by kernel_rfl!)) (by kernel_rfl!)) (by kernel_rfl!)) (by kernel_rfl!)) (by kernel_rfl!)
theorem zW:PySem.Challenge.rw_ta0099_01.row.wellSaid=true:=look_both (look_both (xr) (by kernel_rfl!)) (by kernel_rfl!)
theorem Ch:(noRoadLSs { strict:=true,foot:=some PySem.Challenge.rw_ta0099_01.bound',writes:=PySem.Challenge.rw_ta0099_01.writes,may:=PySem.Challenge.rw_ta0099_01.may } PySem.Challenge.rw_ta0099_01.footing)=true:=by kernel_rfl!
theorem Cg:(namesMeet PySem.Challenge.rw_ta0099_01.prog PySem.Challenge.rw_ta0099_01.above (fun _ n=> !PySem.Challenge.rw_ta0099_01.own.contains n))=true:=by kernel_rfl!
theorem Cf:(namesMeet PySem.Challenge.rw_ta0099_01.prog PySem.Challenge.rw_ta0099_01.footing (fun sc n=>(!(["type","isinstance","issubclass","getattr","hasattr"]:List Str).contains n||sc.names.lookup n==some .globalImplicit)&&
 (PySem.Challenge.rw_ta0099_01.may != some n||sc.kind== .module||sc.names.lookup n==some .globalImplicit)))=true:=by kernel_rfl!
theorem Ce:(namesMeet PySem.Challenge.rw_ta0099_01.prog PySem.Challenge.rw_ta0099_01.footing fun sc n=>sc.kind== .module||sc.names.lookup n != some .globalExplicit)=true:=by kernel_rfl!
theorem said_law:PySem.Challenge.rw_ta0099_01.wellSaid=true:=look_both (look_both (look_both (look_both (look_both (look_both (look_both (look_both (look_both (look_both (look_both (look_both (look_both (look_both (look_both (look_both (look_both (look_both (zW) (by kernel_rfl!)) (by kernel_rfl!)) (by kernel_rfl!)) (by kernel_rfl!)) (by kernel_rfl!)) Ch) (by kernel_rfl!)) (by kernel_rfl!)) (by kernel_rfl!)) (by kernel_rfl!)) (by kernel_rfl!)) (by kernel_rfl!)) Cf) (by kernel_rfl!)) (by kernel_rfl!)) (by kernel_rfl!)) Cg) Ce
theorem hG{G:Prop}(h:∀p:Prop,(G→p)→p):G:=h G id
theorem sI{α:Type}{a b:α}(h:some a=some b):a=b:=Option.some.inj h
theorem sP{α β:Type}{a c:α}{b d:β}(h:some (a,b)=some (c,d)):a=c∧b=d:=Prod.mk.inj (Option.some.inj h)
theorem IZ{b m k:Nat}(h:b≤k∧k<b+(m-b)):k<m:=(Nat.sub_lt_sub_iff_right h.1).mp (Nat.sub_lt_left_of_lt_add h.1 h.2)
theorem nA{a:Int}(h:a.natAbs<2^60): -(2^60)<a∧a<2^60:=by
 rw[show(2^60:Int)=((2^60:Nat):Int)by decide +kernel]
 cases a with
 |ofNat n=>exact⟨Int.lt_of_lt_of_le (by decide +kernel) (natCast_nonneg n),ofNat_lt.mpr h⟩
 |negSucc n=>exact⟨(Int.neg_lt_neg (ofNat_lt.mpr h): -((2^60:Nat):Int)< -((n+1:Nat):Int)),Int.lt_of_lt_of_le (Int.negSucc_lt_zero n) (by decide +kernel)⟩
section
variable {N N':Nat} {vs:List Value} {o:Obj} {ad:Addr} {part:Option Value}
noncomputable def HL(L:List Obj)(life:Life):Heap:=⟨L.toArray,life⟩
theorem xZ(L:List Obj)(life:Life)(o:Obj):(HL L life).push o=HL (L++[o]) life:=by
 simp[HL,Heap.push]
theorem xY(L:List Obj)(life:Life):(HL L life).objs.size=L.length:=by simp[HL]
theorem HF(L R:List Obj)(o:Obj)(f:Obj→Obj)(life:Life):
 (HL (L++o::R) life).update L.length f=HL (L++f o::R) life:=by
 simp only[HL,Heap.update]
 have e:∀L:List Obj,(L++o::R).modify L.length f=L++f o::R:=by
  intro L
  induction L with
  |nil=>rfl
  |cons a L ih=>rw[cons_append,length_cons,List.modify_succ_cons,ih];rfl
 rw[List.modify_toArray,e]
theorem HG(L R:List Obj)(o:Obj)(life:Life):(HL (L++o::R) life).get? L.length=alive o:=by
 unfold Heap.get? HL
 simp only[List.getElem?_toArray,getElem?_append_right (le_refl _),sub_self,List.getElem?_cons_zero]
 obtain⟨c,d,dt,sl⟩:=o
 cases dt<;>rfl
section
variable (p:Program) (w:World) (n₀:Nat) (ann:Option Value)
noncomputable abbrev TR:=topRun treeTable p w n₀ ann
noncomputable def aD{α:Type}(x:Sem α)(s:Shared)(N:Nat)(a:α)(s':Shared):Prop:=
 ∀(K:α→Sem Fin) (H:Value→Sem Fin) (gd:Bool→Bool) (lv:List Value→List Value) (c:Code) (q:Pos) (f:Frame) (B:List Frame),
  ∃q' n,n≤N∧∀M r,TR p w n₀ ann M s' ⟨K a,c,q',f::B⟩=some r→TR p w n₀ ann (M+n) s ⟨x.wrap K H gd lv,c,q,f::B⟩=some r
variable {p w n₀ ann}
theorem iM{s s' r:Shared}{t t':Thread}{M:Nat}(ht:through t=false)(hk:stepOk n₀ ann t=true)(hs:step (denote treeTable) p w s t=.go s' t')
 (h:TR p w n₀ ann M s' t'=some r):TR p w n₀ ann (M+1) s t=some r:=by
 show topRun treeTable p w n₀ ann (M+1) s t=some r
 unfold topRun
 refine Eq.symm (ht)▸Eq.symm (hk)▸Eq.symm (hs)▸?_
 exact h
variable {α β:Type} {s s' s'':Shared} {a:α} {b:β}
theorem aD.pure:aD p w n₀ ann (pure a:Sem α) s 0 a s:=fun K H gd lv c q f B=>⟨q,0,le_refl _,fun M r h=>h⟩
theorem aD.bind{x:Sem α}{g:α→Sem β}(h:aD p w n₀ ann x s N a s')(h':aD p w n₀ ann (g a) s' N' b s''):aD p w n₀ ann (x>>=g) s (N'+N) b s'':=by
 intro K H gd lv c q f B
 refine hG fun _ kk=>?_
 obtain⟨q1,n1,l1,k1⟩:=h (fun a=>(g a).wrap K H gd lv) (fun e=>(Sem.raise e:Sem β).wrap K H gd lv) gd lv c q f B
 obtain⟨q2,n2,l2,k2⟩:=h' K H gd lv c q1 f B
 refine kk ?_
 refine⟨q2,n2+n1,add_le_add l2 l1,fun M r hM=>?_⟩
 rw[Sem.bind_eq_wrap',Sem.wrap_wrap, ←add_assoc]
 exact k1 _ _ (k2 _ _ hM)
theorem aD.mono{x:Sem α}(h:aD p w n₀ ann x s N a s')(l:N≤N'):aD p w n₀ ann x s N' a s':=fun K H gd lv c q f B=>by
 obtain⟨q',n,l',k⟩:=h K H gd lv c q f B
 exact⟨q',n,le_trans l' l,k⟩
theorem aD.keep{x:Sem α}(h:aD p w n₀ ann x s N a s'):aD p w n₀ ann (x.keep vs) s N a s':=by
 intro K H gd lv c q f B
 obtain⟨q1,n1,l1,k1⟩:=h K H gd (fun l=>lv (vs++l)) c q f B
 refine⟨q1,n1,l1,fun M r hM=>?_⟩
 rw[Sem.keep_eq_wrap,Sem.wrap_wrap]
 exact k1 _ _ hM
theorem aD.holding{x:Sem α}(h:aD p w n₀ ann x s N a s'):aD p w n₀ ann (holding vs x) s N a s':=by
 delta PySem.holding
 generalize List.filter _ vs=refs
 cases refs with
 |nil=>exact h
 |cons v l=>exact h.keep
theorem aD.onRaise{x:Sem α}{k:Value→Sem Unit}(h:aD p w n₀ ann x s N a s'):aD p w n₀ ann (x.onRaise k) s N a s':=by
 intro K H gd lv c q f B
 obtain⟨q1,n1,l1,k1⟩:=h K (fun e=>((k e).bind fun _=>(Sem.raise e:Sem α)).wrap K H gd lv) gd lv c q f B
 refine⟨q1,n1,l1,fun M r hM=>?_⟩
 rw[Sem.onRaise_eq_wrap,Sem.wrap_wrap]
 exact k1 _ _ hM
theorem aD.rule{t:String}:aD p w n₀ ann (rule t) s 1 () s:=fun K H gd lv c q f B=>⟨q,1,le_refl _,fun M r h=>iM rfl rfl rfl h⟩
theorem aD.standAt{q':Pos}:aD p w n₀ ann (standAt q') s 1 () s:=fun K H gd lv c q f B=>⟨q',1,le_refl _,fun M r h=>iM rfl rfl rfl h⟩
theorem aD.fresh:aD p w n₀ ann fresh s 1 s.toks { s with toks:=s.toks+1 }:=fun K H gd lv c q f B=>⟨q,1,le_refl _,fun M r h=>iM rfl rfl rfl h⟩
theorem aD.alloc:aD p w n₀ ann (alloc o) s 1 s.heap.objs.size { s with heap:=s.heap.push o }:=fun K H gd lv c q f B=>⟨q,1,le_refl _,fun M r h=>iM rfl rfl rfl h⟩
theorem aD.loadPart(ho:s.heap.get? ad=some o):aD p w n₀ ann (loadPart ad part) s 1 o s:=fun K H gd lv c q f B=>⟨q,1,le_refl _,fun M r h=>iM rfl rfl (by
 obtain⟨heap,gens,drawn,toks,os⟩:=s
 show step (denote treeTable) p w ⟨heap,gens,drawn,toks,os⟩ ⟨.load ad part _,c,q,f::B⟩=_
 simp only[step,ho];rfl) h⟩
theorem aD.updatePart{g:Obj→Obj}(ho:s.heap.get? ad=some o)(hn:ble n₀ ad=true):
 aD p w n₀ ann (updatePart ad part g) s 1 () { s with heap:=s.heap.update ad g }:=fun K H gd lv c q f B=>⟨q,1,le_refl _,fun M r h=>iM rfl (by
 show(_&&(ble n₀ ad||_||_||_))=true
 rw[hn];rfl) (by
 obtain⟨heap,gens,drawn,toks,os⟩:=s
 show step (denote treeTable) p w ⟨heap,gens,drawn,toks,os⟩ ⟨.update ad part g _,c,q,f::B⟩=_
 have ho':heap.get? ad=some o:=ho
 simp only[step,ho',Option.isSome_some,if_true];rfl) h⟩
end
end
section
variable {i:Int} {t:Tok}
noncomputable def hv(i:Int):Int:=if((if i<0 then -((i.natAbs%(2^61-1:Nat):Nat):Int)else((i.natAbs%(2^61-1:Nat):Nat):Int))== -1)then -2 else(if i<0 then -((i.natAbs%(2^61-1:Nat):Nat):Int)else((i.natAbs%(2^61-1:Nat):Nat):Int))
section
variable {p:Program} {n₀:Nat} {ann:Option Value}
theorem Az(b:Bool)(w:World)(i:Int)(t:Tok)(heap:Heap)(gens:Array GenState)(drawn:Drawn)(toks:Nat)(os:OsState)
 (K:Int→Sem Fin) (H:Value→Sem Fin) (gd:Bool→Bool) (lv:List Value→List Value) (c:Code) (q:Pos) (f:Frame) (B:List Frame) (M:Nat):
  topRun treeTable p (w.withFollow "special-get-raises" b) n₀ ann (M+5) ⟨heap,gens,drawn,toks,os⟩ ⟨(pyHash (.int i t)).wrap K H gd lv,c,q,f::B⟩ =
  topRun treeTable p (w.withFollow "special-get-raises" b) n₀ ann M ⟨heap,gens,drawn,toks+1,os⟩ ⟨(pyHashByItsType.reduced (hv i)).wrap K H gd lv,c,q,f::B⟩:=by
 cases b
 ·kernel_rfl!
 ·kernel_rfl!
theorem Ax(h0:0≤i)(h1:i<2^60):pyHashByItsType.reduced (hv i)=pure i:=by
 have e:hv i=i:=by
  unfold hv
  have h2:¬i<0:=not_lt.mpr h0
  have h3:((i.natAbs%(2^61-1:Nat):Nat):Int)=i:=(congrArg Int.ofNat (Nat.mod_eq_of_lt (lt_trans (show i.natAbs<2^60 from ofNat_lt.mp ((Int.natAbs_of_nonneg h0).symm▸h1)) (by decide)))).trans (Int.natAbs_of_nonneg h0)
  simp only[h2,if_false,h3]
  have h4:(i== -1)=false:=beq_eq_false_iff_ne.mpr fun e=>absurd (e▸h0) (by decide)
  simp[h4]
 refine Eq.symm (e)▸?_
 unfold pyHashByItsType.reduced
 have h5:(decide (-(2^63:Int)≤i)&&decide (i<2^63))=true:=and_eq_true_iff.mpr ⟨decide_eq_true (Int.le_trans (by decide) h0),decide_eq_true (Int.lt_trans h1 (by decide))⟩
 have h6:(i== -1)=false:=beq_eq_false_iff_ne.mpr fun e=>absurd (e▸h0) (by decide)
 simp[h6]
 exact fun z=>absurd (z (Int.le_trans (by decide) h0)) (not_le.mpr (Int.lt_trans h1 (by decide)))
variable {w:World} {s:Shared}
theorem xt(h0:0≤i)(h1:i<2^60):aD p w n₀ ann (pyHash (.int i t)) s 5 i { s with toks:=s.toks+1 }:=by
 refine byRow2 "special-get-raises" (P:=fun w=>aD p w n₀ ann (pyHash (.int i t)) s 5 i { s with toks:=s.toks+1 }) (fun w=>?_) (fun w=>?_) w
 all_goals
  intro K H gd lv c q f B
  refine⟨q,5,le_refl _,fun M r h=>?_⟩
  obtain⟨heap,gens,drawn,toks,os⟩:=s
  refine(Az _ w i t heap gens drawn toks os K H gd lv c q f B M).trans ?_
  refine Eq.symm (Ax h0 h1)▸?_
  exact h
theorem oG{d:Addr}{o:Obj}{es:Array DictEntry}{ep:Nat}(ho:s.heap.get? d=some o)(hd:o.data=.dict es ep)
 (hno:∀e∈es.toList,e.hash≠i):aD p w n₀ ann (dictFind d (.int i t) i) s 1 none s:=by
 have hp:placesWithHash es.size (fun k=>es[k]?.map (·.hash)) i=[]:=by
  unfold placesWithHash
  rw[List.filter_eq_nil_iff]
  intro k hk
  have hk':k<es.size:=mem_range.mp hk
  simp only[beq_iff_eq,Array.getElem?_eq_getElem hk',Option.map_some,Option.some.injEq]
  exact fun e=>hno _ (by simp) e
 unfold dictFind
 refine aD.holding ?_
 refine(aD.bind (N:=1) (N':=0) (a:=es) (s':=s) ?_ ?_)
 ·unfold dictEntries
  refine(aD.bind (N:=1) (N':=0) (aD.loadPart ho) ?_)
  rw[hd];exact aD.pure
 ·dsimp only
  refine Eq.symm (hp)▸?_
  exact aD.pure
end
end
section
variable {d:Addr} {L R:List Obj} {es:List DictEntry} {n:Nat} {i:Int} {t:Tok} {v:Value} {l:List (bc×Pos)}
noncomputable def dO(es:List DictEntry)(n:Nat):Obj:={ cls:=.type "dict",data:=.dict es.toArray n }
theorem Du(es:List DictEntry)(n:Nat)(e:DictEntry):Obj.mapDictKeys (·.push e) (dO es n)=dO (es++[e]) (n+1):=by
 exact congrArg (fun a=>({ cls:=.type "dict",data:=.dict a (n+1) }:Obj)) (List.push_toArray es e)
section
variable {p:Program} {n₀:Nat} {ann:Option Value} {w:World} (life:Life) (gens:Array GenState) (drawn:Drawn) (os:OsState)
noncomputable def st(L:List Obj)(toks:Nat):Shared:=⟨HL L life,gens,drawn,toks,os⟩
variable {life gens drawn os}
theorem jf(L R:List Obj)(o:Obj)(tk:Nat):(st life gens drawn os (L++o::R) tk).heap.get? L.length=alive o:=HG L R o life
theorem fy{γ β:Type}(f:γ→β→Sem (ForInStep β))(S:List γ→Shared)(bt:List γ→β)(N:Nat):
 ∀(post pre:List γ),(∀a x b,pre++post=a++x::b→aD p w n₀ ann (f x (bt a)) (S a) N (.yield (bt (a++[x]))) (S (a++[x])))→
  aD p w n₀ ann (forIn post (bt pre) f) (S pre) (post.length*N) (bt (pre++post)) (S (pre++post))
 |[],pre,_=>by
  rw[append_nil]
  exact(aD.pure (a:=bt pre)).mono (zero_le _)
 |x::post,pre,h=>by
  rw[forIn_cons]
  refine(aD.bind (h pre x post rfl) (N':=post.length*N) ?_).mono (by rw[length_cons,succ_mul];exact le_refl _)
  have:=fy f S bt N post (pre++[x]) (fun a y b e=>h a y b (by rw[←e,append_assoc];rfl))
  rw[append_assoc]at this
  exact this
theorem gO{tk:Nat}{e:DictEntry}{part:Option Value}(hd:d=L.length)(hn:ble n₀ d=true)(hz:es.length≤1000000):
 aD p w n₀ ann (updateDictKeys d (·.push e) part) (st life gens drawn os (L++dO es n::R) tk) 3 () (st life gens drawn os (L++dO (es++[e]) (n+1)::R) tk):=by
 subst hd
 have g1:=jf (life:=life) (gens:=gens) (drawn:=drawn) (os:=os) L R (dO es n) tk
 have g2:=jf (life:=life) (gens:=gens) (drawn:=drawn) (os:=os) L R (dO (es++[e]) (n+1)) tk
 unfold updateDictKeys
 refine aD.bind (N:=1) (N':=2) (aD.loadPart g1) ?_
 show aD p w n₀ ann (updatePart L.length part (Obj.mapDictKeys (·.push e))>>=fun _=>lookBehind L.length part) _ _ _ _
 refine aD.bind (N:=1) (N':=1) (aD.updatePart g1 hn) ?_
 have hu:({ st life gens drawn os (L++dO es n::R) tk with heap:=(st life gens drawn os (L++dO es n::R) tk).heap.update L.length (Obj.mapDictKeys (·.push e)) }:Shared)=st life gens drawn os (L++dO (es++[e]) (n+1)::R) tk:=by
  show Shared.mk ((HL (L++dO es n::R) life).update L.length _) gens drawn tk os=_
  rw[HF,Du];rfl
 refine Eq.symm (hu)▸?_
 unfold lookBehind
 refine aD.bind (N:=1) (N':=0) (aD.loadPart g2) ?_
 have:(dO (es++[e]) (n+1)).data.pastItsLine=none:=pastItsLine_dict (by
  have:sizeLine=16777216:=rfl
  simp;exact le_trans (by with_reducible assumption) (by decide))
 rw[show({ cls:=.type "dict",data:=.dict (es++[e]).toArray (n+1) }:Obj).data.pastItsLine=none from this]
 exact aD.pure
theorem pS{tk:Nat}(hd:d=L.length)(hn:ble n₀ d=true)(hz:es.length≤1000000)
 (hno:∀e∈es,e.hash≠i):
 aD p w n₀ ann (dictPut d i (.int i t) v) (st life gens drawn os (L++dO es n::R) tk) 4 () (st life gens drawn os (L++dO (es++[⟨i,.int i t,v⟩]) (n+1)::R) tk):=by
 have g1:=jf (life:=life) (gens:=gens) (drawn:=drawn) (os:=os) L R (dO es n) tk
 unfold dictPut
 refine aD.bind (N:=1) (N':=3) (oG (o:=dO es n) (es:=es.toArray) (ep:=n) (by rw[hd];exact g1) rfl (by simpa using hno)) ?_
 exact gO hd hn hz
theorem jF{tk:Nat}(hd:d=L.length)(hn:ble n₀ d=true)(hz:es.length≤1000000)
 (hno:∀e∈es,e.hash≠i) (h0:0≤i) (h1:i<2^60):
 aD p w n₀ ann (dictSet d (.int i t) v) (st life gens drawn os (L++dO es n::R) tk) 10 () (st life gens drawn os (L++dO (es++[⟨i,.int i t,v⟩]) (n+1)::R) (tk+1)):=by
 have g1:=jf (life:=life) (gens:=gens) (drawn:=drawn) (os:=os) L R (dO es n) (tk+1)
 unfold dictSet
 refine aD.holding (aD.bind (N:=5) (N':=5) (xt h0 h1) ?_)
 show aD p w n₀ ann _ (st life gens drawn os (L++dO es n::R) (tk+1)) _ _ _
 unfold dictSetHashed
 refine aD.holding (aD.bind (N:=1) (N':=4) (oG (o:=dO es n) (es:=es.toArray) (ep:=n) (by rw[hd];exact g1) rfl (by simpa using hno)) ?_)
 exact aD.bind (N:=1) (N':=3) aD.rule (gO hd hn hz)
noncomputable abbrev bc:=Int×Str
noncomputable def bH(k:Nat):List bc→Nat→List DictEntry
 |[],_=>[]
 |(i,x)::r,tk=>⟨i,.int i tk,.str x (tk+1)⟩::bH k r (tk+k)
theorem jw(k:Nat):∀(l:List bc) (tk:Nat) (i:Int) (x:Str),bH k (l++[(i,x)]) tk=bH k l tk++[⟨i,.int i (tk+k*l.length),.str x (tk+k*l.length+1)⟩]
 |[],tk,i,x=>rfl
 |(j,y)::r,tk,i,x=>by
  have:tk+k+k*r.length=tk+k*(r.length+1):=by rw[Nat.mul_succ];exact(add_right_comm _ _ _).trans (add_assoc _ _ _)
  rw[length_cons, ←this]
  exact congrArg (List.cons _) (jw k r (tk+k) i x)
theorem bC(k:Nat):∀(l:List bc) (tk:Nat),(bH k l tk).length=l.length
 |[],_=>rfl
 |(_,_)::r,tk=>congrArg Nat.succ (bC k r (tk+k))
theorem eJ(k:Nat):∀(l:List bc) (tk:Nat),(bH k l tk).map (·.hash)=l.map (·.1)
 |[],_=>rfl
 |(i,_)::r,tk=>congrArg (List.cons i) (eJ k r (tk+k))
noncomputable def ez(ks:List Int):Prop:=ks.Nodup∧∀k∈ks,0≤k∧k<2^60
noncomputable def key(i:Int):Sem Value:=mkInt i
noncomputable def val(x:Str)(q:Pos):Sem Value:=do let v ←mkText x;standAt q;pure v
noncomputable def a9(l:List (bc×Pos)):List (Sem Value×Sem Value):=l.map fun it=>(key it.1.1,val it.1.2 it.2)
theorem jO{k:Nat}{l:List bc}{tk:Nat}(h:i∉l.map (·.1)):∀e∈bH k l tk,e.hash≠i:=by
 intro e he q
 exact h (by rw[←eJ k l tk];exact mem_map.mpr ⟨e,he,q⟩)
theorem jE{tk:Nat}(hk:ez (l.map (·.1.1)))(hl:15<l.length)(hz:l.length≤1000000)(hn:ble n₀ L.length=true):
 aD p w n₀ ann (subDict (a9 l)) (st life gens drawn os L tk) (l.length*13+2) L.length
  (st life gens drawn os (L++[dO (bH 3 (l.map (·.1)) tk) l.length]) (tk+3*l.length)):=by
 unfold subDict
 have ha:aD p w n₀ ann (alloc { cls:=Value.type "dict",data:=Data.dict #[] }) (st life gens drawn os L tk) 1 L.length (st life gens drawn os (L++[dO [] 0]) tk):=by
  have:=aD.alloc (p:=p) (w:=w) (n₀:=n₀) (ann:=ann) (s:=st life gens drawn os L tk) (o:=dO [] 0)
  have e:(st life gens drawn os L tk).heap.objs.size=L.length:=xY L life
  rw[e]at this
  have e2:({ st life gens drawn os L tk with heap:=(st life gens drawn os L tk).heap.push (dO [] 0) }:Shared)=st life gens drawn os (L++[dO [] 0]) tk:=by
   show Shared.mk ((HL L life).push _) gens drawn tk os=_
   rw[xZ];rfl
  rw[e2]at this
  exact this
 refine aD.bind (N:=1) (N':=l.length*13+1) ha ?_
 refine aD.mono (N:=0+(l.length*13+1)) (aD.bind (N:=l.length*13+1) (N':=0) (a:=()) (aD.holding ?_) aD.pure) (le_of_eq (zero_add _))
 have hlen:¬(a9 l).length≤15:=by simp[a9];with_reducible assumption
 rw[if_neg hlen]
 refine aD.bind (N:=1) (N':=l.length*13) aD.rule ?_
 have key:=fy (p:=p) (w:=w) (n₀:=n₀) (ann:=ann) (β:=PUnit)
  (fun(x:Sem Value×Sem Value) (__s:PUnit)=>match x with
          |(k,v)=>do
           let kv ←k
           let vv ←holding [kv] v
           holding [kv,vv] (dictSet L.length kv vv)
           pure (ForInStep.yield PUnit.unit))
  (fun done=>st life gens drawn os (L++[dO (bH 3 ((l.take done.length).map (·.1)) tk) done.length]) (tk+3*done.length)) (fun _=>PUnit.unit) 13 (a9 l) [] ?_
 ·have e1:([]++a9 l).length=l.length:=by simp[a9]
  have e2:(a9 l).length=l.length:=by simp[a9]
  simp only[length_nil,take_zero,map_nil,e1,e2,take_length]at key
  exact aD.mono (N:=0+l.length*13) (aD.bind (N:=l.length*13) (N':=0) key aD.pure) (le_of_eq (zero_add _))
 ·intro a x b hab
  rw[nil_append]at hab
  have hlt:a.length<l.length:=by
   have:=congrArg length hab
   simp[a9]at this;exact Nat.lt_of_lt_of_eq (Nat.lt_add_of_pos_right (succ_pos _)) this.symm
  have hx:x=(Mine.key l[a.length].1.1,val l[a.length].1.2 l[a.length].2):=by
   have h1:(a9 l)[a.length]? =some x:=by rw[hab];simp
   simp[a9,getElem?_map,getElem?_eq_getElem hlt]at h1
   exact h1.symm
  have htake:l.take (a.length+1)=l.take a.length++[l[a.length]]:=List.take_succ_eq_append_getElem hlt
  clear hab
  subst hx
  dsimp only
  have hmem:l[a.length].1.1∉(l.take a.length).map (·.1.1):=by
   have hnd:=hk.1
   have:l.map (·.1.1)=(l.take a.length).map (·.1.1)++l[a.length].1.1::(l.drop (a.length+1)).map (·.1.1):=by
    rw[←map_cons (f:=fun x:bc×Pos=>x.1.1), ←map_append, ←List.drop_eq_getElem_cons hlt,take_append_drop]
   rw[this]at hnd
   exact fun hm=>(nodup_append.mp hnd).2.2 _ hm _ mem_cons_self rfl
  have hrange:=hk.2 l[a.length].1.1 (mem_map.mpr ⟨l[a.length],getElem_mem hlt,rfl⟩)
  refine(aD.bind (N:=1) (N':=12) (a:=Value.int l[a.length].1.1 (tk+3*a.length)) (s':=st life gens drawn os (L++[dO (bH 3 ((l.take a.length).map (·.1)) tk) a.length]) (tk+3*a.length+1)) ?_ ?_)
  ·exact(aD.bind (N:=1) (N':=0) aD.fresh aD.pure)
  refine(aD.bind (N:=2) (N':=10) (a:=Value.str l[a.length].1.2 (tk+3*a.length+1)) (s':=st life gens drawn os (L++[dO (bH 3 ((l.take a.length).map (·.1)) tk) a.length]) (tk+3*a.length+2)) (aD.holding ?_) ?_)
  ·refine(aD.bind (N:=1) (N':=1) (s':=st life gens drawn os (L++[dO (bH 3 ((l.take a.length).map (·.1)) tk) a.length]) (tk+3*a.length+2)) (a:=Value.str l[a.length].1.2 (tk+3*a.length+1)) ?_ ?_)
   ·exact(aD.bind (N:=1) (N':=0) aD.fresh aD.pure)
   ·exact(aD.bind (N:=1) (N':=0) aD.standAt aD.pure)
  refine(aD.bind (N:=10) (N':=0) (a:=()) (aD.holding ?_) aD.pure)
  have:=jF (p:=p) (w:=w) (n₀:=n₀) (ann:=ann) (life:=life) (gens:=gens) (drawn:=drawn) (os:=os) (d:=L.length) (L:=L) (R:=[])
   (es:=bH 3 ((l.take a.length).map (·.1)) tk) (n:=a.length) (tk:=tk+3*a.length+2) (i:=l[a.length].1.1) (t:=tk+3*a.length) (v:=.str l[a.length].1.2 (tk+3*a.length+1)) rfl hn
   (by rw[bC,length_map,length_take];exact le_trans (min_le_right _ _) hz) (jO (by rw[map_map];exact hmem)) hrange.1 hrange.2
  simp only[length_append,length_cons,length_nil,zero_add]
  refine Eq.symm (htake)▸Eq.symm (map_append)▸Eq.symm (map_cons)▸Eq.symm (map_nil)▸?_
  have hs:=jw 3 ((l.take a.length).map (·.1)) tk l[a.length].1.1 l[a.length].1.2
  have hlen2:((l.take a.length).map (·.1)).length=a.length:=by rw[length_map,length_take];exact min_eq_left (le_of_lt hlt)
  rw[hlen2]at hs
  rw[show l[a.length].1=(l[a.length].1.1,l[a.length].1.2)from rfl,hs]
  rw[show tk+3*(a.length+1)=tk+3*a.length+2+1 by rfl]
  exact this
theorem qu{L:List Obj}{tk:Nat}:aD p w n₀ ann (alloc { cls:=Value.type "dict",data:=Data.dict #[] }) (st life gens drawn os L tk) 1 L.length (st life gens drawn os (L++[dO [] 0]) tk):=by
 have:=aD.alloc (p:=p) (w:=w) (n₀:=n₀) (ann:=ann) (s:=st life gens drawn os L tk) (o:=dO [] 0)
 have e:(st life gens drawn os L tk).heap.objs.size=L.length:=xY L life
 rw[e]at this
 have e2:({ st life gens drawn os L tk with heap:=(st life gens drawn os L tk).heap.push (dO [] 0) }:Shared)=st life gens drawn os (L++[dO [] 0]) tk:=by
  show Shared.mk ((HL L life).push _) gens drawn tk os=_
  rw[xZ];rfl
 rw[e2]at this
 exact this
noncomputable def aA:List (bc×Pos)→Nat→List (Value×Value)
 |[],_=>[]
 |it::r,tk=>(.int it.1.1 tk,.str it.1.2 (tk+1))::aA r (tk+2)
theorem vo:∀(l:List (bc×Pos)) (tk k:Nat) (h:k<l.length),(aA l tk)[k]? =some (.int l[k].1.1 (tk+2*k),.str l[k].1.2 (tk+2*k+1))
 |it::r,tk,0,h=>rfl
 |it::r,tk,k+1,h=>by
  refine(vo r (tk+2) k (lt_of_succ_lt_succ h)).trans ?_
  rw[show tk+2+2*k=tk+2*(k+1)by exact add_right_comm _ 2 _]
  rfl
theorem eg:∀(l:List (bc×Pos)) (tk:Nat),(aA l tk).length=l.length
 |[],_=>rfl
 |_::r,tk=>congrArg Nat.succ (eg r (tk+2))
theorem gf:∀(l:List (bc×Pos)) {L:List Obj} {tk:Nat},
 aD p w n₀ ann (evalPairs (a9 l)) (st life gens drawn os L tk) (l.length*3) (aA l tk) (st life gens drawn os L (tk+2*l.length))
 |[],L,tk=>aD.pure
 |it::r,L,tk=>by
  refine aD.mono (N:=(r.length*3+2)+1) (aD.bind (N:=1) (N':=r.length*3+2) (a:=Value.int it.1.1 tk) (s':=st life gens drawn os L (tk+1)) ?_ ?_) (by simp;exact le_of_eq (succ_mul _ 3).symm)
  ·exact(aD.bind (N:=1) (N':=0) aD.fresh aD.pure)
  refine aD.bind (N:=2) (N':=r.length*3) (a:=Value.str it.1.2 (tk+1)) (s':=st life gens drawn os L (tk+2)) (aD.holding ?_) ?_
  ·refine(aD.bind (N:=1) (N':=1) (s':=st life gens drawn os L (tk+2)) (a:=Value.str it.1.2 (tk+1)) ?_ ?_)
   ·exact(aD.bind (N:=1) (N':=0) aD.fresh aD.pure)
   ·exact(aD.bind (N:=1) (N':=0) aD.standAt aD.pure)
  refine aD.mono (N:=0+r.length*3) (aD.bind (N:=r.length*3) (N':=0) (a:=aA r (tk+2)) (aD.holding (gf r)) ?_) (le_of_eq (zero_add _))
  rw[length_cons,show tk+2+2*r.length=tk+2*(r.length+1)by exact add_right_comm _ 2 _]
  exact aD.pure
theorem uN(hk:ez (l.map (·.1.1)))(hlt:n<l.length):
 l.take (n+1)=l.take n++[l[n]]∧l[n].1.1∉(l.take n).map (·.1.1)∧0≤l[n].1.1∧l[n].1.1<2^60:=by
 refine⟨List.take_succ_eq_append_getElem hlt,?_,hk.2 l[n].1.1 (mem_map.mpr ⟨l[n],getElem_mem hlt,rfl⟩)⟩
 have hnd:=hk.1
 have:l.map (·.1.1)=(l.take n).map (·.1.1)++l[n].1.1::(l.drop (n+1)).map (·.1.1):=by
  rw[←map_cons (f:=fun x:bc×Pos=>x.1.1), ←map_append, ←List.drop_eq_getElem_cons hlt,take_append_drop]
 rw[this]at hnd
 exact fun hm=>(nodup_append.mp hnd).2.2 _ hm _ mem_cons_self rfl
theorem nc{tk:Nat}(hk:ez (l.map (·.1.1)))(hl:l.length≤15)(hn:ble n₀ L.length=true):
 aD p w n₀ ann (subDict (a9 l)) (st life gens drawn os L tk) (l.length*13+1) L.length
  (st life gens drawn os (L++[dO (bH 2 (l.map (·.1)) tk) l.length]) (tk+3*l.length)):=by
 unfold subDict
 refine aD.bind (N:=1) (N':=l.length*13) qu ?_
 refine aD.mono (N:=0+(l.length*10+l.length*3)) (aD.bind (N:=l.length*10+l.length*3) (N':=0) (a:=()) (aD.holding ?_) aD.pure) (le_of_eq ((zero_add _).trans (mul_add _ 10 3).symm))
 have hlen:(a9 l).length≤15:=by simp[a9];with_reducible assumption
 rw[if_pos hlen]
 refine aD.bind (N:=l.length*3) (N':=l.length*10) (gf l) (aD.holding ?_)
 have key:=fy (p:=p) (w:=w) (n₀:=n₀) (ann:=ann) (β:=PUnit)
  (fun(x:Value×Value) (__s:PUnit)=>match x with
          |(k,v)=>do
           dictSet L.length k v
           pure (ForInStep.yield PUnit.unit))
  (fun done=>st life gens drawn os (L++[dO (bH 2 ((l.take done.length).map (·.1)) tk) done.length]) (tk+2*l.length+done.length)) (fun _=>PUnit.unit) 10 (aA l tk) [] ?_
 ·have e1:([]++aA l tk).length=l.length:=by rw[nil_append,eg]
  have e2:(aA l tk).length=l.length:=eg l tk
  simp only[length_nil,take_zero,map_nil,e1,e2,take_length]at key
  refine Eq.symm (show tk+3*l.length=tk+2*l.length+l.length by exact(congrArg (tk+ ·) (succ_mul 2 _)).trans (add_assoc _ _ _).symm)▸?_
  exact aD.mono (N:=0+l.length*10) (aD.bind (N:=l.length*10) (N':=0) key aD.pure) (le_of_eq (zero_add _))
 ·intro a x b hab
  rw[nil_append]at hab
  have hlt:a.length<l.length:=by
   have:=congrArg length hab
   rw[eg]at this
   simp at this;exact Nat.lt_of_lt_of_eq (Nat.lt_add_of_pos_right (succ_pos _)) this.symm
  have hx:x=(.int l[a.length].1.1 (tk+2*a.length),.str l[a.length].1.2 (tk+2*a.length+1)):=by
   have h1:(aA l tk)[a.length]? =some x:=by rw[hab];simp
   rw[vo l tk _ hlt]at h1
   exact(Option.some.inj h1).symm
  obtain⟨htake,hmem,hrange⟩:=uN hk hlt
  clear hab
  subst hx
  dsimp only
  refine(aD.bind (N:=10) (N':=0) (a:=()) ?_ aD.pure)
  have:=jF (p:=p) (w:=w) (n₀:=n₀) (ann:=ann) (life:=life) (gens:=gens) (drawn:=drawn) (os:=os) (d:=L.length) (L:=L) (R:=[])
   (es:=bH 2 ((l.take a.length).map (·.1)) tk) (n:=a.length) (tk:=tk+2*l.length+a.length) (i:=l[a.length].1.1) (t:=tk+2*a.length) (v:=.str l[a.length].1.2 (tk+2*a.length+1)) rfl hn
   (by rw[bC,length_map,length_take];exact le_trans (min_le_right _ _) (le_trans hl (by decide))) (jO (by rw[map_map];exact hmem)) hrange.1 hrange.2
  simp only[length_append,length_cons,length_nil,zero_add]
  refine Eq.symm (htake)▸Eq.symm (map_append)▸Eq.symm (map_cons)▸Eq.symm (map_nil)▸?_
  have hs:=jw 2 ((l.take a.length).map (·.1)) tk l[a.length].1.1 l[a.length].1.2
  have hlen2:((l.take a.length).map (·.1)).length=a.length:=by rw[length_map,length_take];exact min_eq_left (le_of_lt hlt)
  rw[hlen2]at hs
  refine Eq.symm (show l[a.length].1=(l[a.length].1.1,l[a.length].1.2)from rfl)▸Eq.symm (hs)▸?_
  exact this
end
end
section
variable {s:Shared} {a:Addr} {es:List DictEntry} {n:Nat} {part:Option Value}
theorem zP:isSubtype (.type "dict") (.type "dict")=pure true:=by rw[isSubtype_type];kernel_rfl
theorem yR:typeLookup (.type "dict") "__iter__"=pure (some (.builtin "dict.__iter__")):=by kernel_rfl!
section
variable {p:Program} {n₀:Nat} {ann:Option Value} {w:World} {life:Life} {gens:Array GenState} {drawn:Drawn} {os:OsState}
theorem kJ{o:Obj}(h:s.heap.get? a=some o):aD p w n₀ ann (typeOf (.ref a)) s 1 o.cls s:=by
 show aD p w n₀ ann (loadPart a (some headPart)>>=fun o=>pure o.cls) s 1 o.cls s
 exact aD.bind (N:=1) (N':=0) (aD.loadPart h) aD.pure
theorem fz(h:s.heap.get? a=some (dO es n)):aD p w n₀ ann (dictEntries a part) s 1 es.toArray s:=by
 unfold dictEntries
 exact aD.bind (N:=1) (N':=0) (aD.loadPart h) aD.pure
theorem ly(h:s.heap.get? a=some (dO es n)):aD p w n₀ ann (dictEpoch a part) s 1 n s:=by
 unfold dictEpoch
 exact aD.bind (N:=1) (N':=0) (aD.loadPart h) aD.pure
theorem CY(L R:List Obj)(o x:Obj)(tk:Nat):(st life gens drawn os (L++o::(R++[x])) tk).heap.get? (L.length+1+R.length)=alive x:=by
 have:=jf (life:=life) (gens:=gens) (drawn:=drawn) (os:=os) (L++o::R) [] x tk
 rw[length_append,length_cons]at this
 rw[show L++o::(R++[x])=L++o::R++x::[]by simp,show L.length+1+R.length=L.length+(R.length+1)by exact succ_add _ _]
 exact this
noncomputable def w7(e:DictEntry):Prop:=∃t,e.key=.int e.hash t
theorem uV{L R:List Obj}{bM:List DictEntry}{m tk:Nat}(hne:es≠[])(hk:∀e∈bM,w7 e)(hnd:((es++bM).map (·.hash)).Nodup)
 (hz:es.length+bM.length≤1000000) (hn:ble n₀ L.length=true) (hs:(L.length+1+R.length==sysModules)=false):
 aD p w n₀ ann (mergeMapping L.length (.ref (L.length+1+R.length)) false) (st life gens drawn os (L++dO es n::(R++[dO bM m])) tk) (bM.length*6+5) ()
  (st life gens drawn os (L++dO (es++bM) (n+bM.length)::(R++[dO bM m])) tk):=by
 have g1:∀es n,(st life gens drawn os (L++dO es n::(R++[dO bM m])) tk).heap.get? L.length=some (dO es n):=fun es n=>jf L _ (dO es n) tk
 have g2:∀es n,(st life gens drawn os (L++dO es n::(R++[dO bM m])) tk).heap.get? (L.length+1+R.length)=some (dO bM m):=fun es n=>CY L R (dO es n) (dO bM m) tk
 unfold mergeMapping
 refine aD.bind (N:=1) (N':=bM.length*6+4) (a:=true) (s':=st life gens drawn os (L++dO es n::(R++[dO bM m])) tk) ?_ ?_
 ·unfold isInstance
  refine aD.bind (N:=1) (N':=0) (kJ (g2 es n)) ?_
  show aD p w n₀ ann (isSubtype (.type "dict") (.type "dict")) _ _ _ _
  rw[zP];exact aD.pure
 dsimp only
 rw[if_pos rfl]
 refine aD.bind (N:=1) (N':=bM.length*6+3) (a:=some (Value.builtin "dict.__iter__")) (s':=st life gens drawn os (L++dO es n::(R++[dO bM m])) tk) ?_ ?_
 ·unfold specialOf
  refine aD.bind (N:=1) (N':=0) (kJ (g2 es n)) ?_
  show aD p w n₀ ann (typeLookup (.type "dict") _) _ _ _ _
  rw[yR];exact aD.pure
 refine aD.bind (N:=0) (N':=bM.length*6+3) (a:=true) (s':=st life gens drawn os (L++dO es n::(R++[dO bM m])) tk) ?_ ?_
 ·exact aD.pure
 dsimp only
 rw[if_neg (by rw[hs];exact Bool.false_ne_true)]
 refine aD.bind (N:=1) (N':=bM.length*6+2) (fz (g1 es n)) ?_
 have hemp:es.toArray.isEmpty=false:=by cases es with|nil=>exact absurd rfl hne|cons a b=>rfl
 rw[hemp,if_neg Bool.false_ne_true]
 refine aD.bind (N:=1) (N':=bM.length*6+1) (fz (g2 es n)) ?_
 refine aD.bind (N:=1) (N':=bM.length*6) (ly (g2 es n)) ?_
 have key:=fy (p:=p) (w:=w) (n₀:=n₀) (ann:=ann) (β:=PUnit)
  (fun(i:Nat) (__s:PUnit)=>(do
            let __do_lift ←dictEntries (L.length+1+R.length)
            match __do_lift[i]? with
             |some e=>do
              holding [e.key,e.val] (dictPut L.length e.hash e.key e.val)
              let __do_lift ←dictEpoch (L.length+1+R.length)
              if(__do_lift != m)=true then do
               unsupported "dict.changed-during-merge"
               pure (ForInStep.yield PUnit.unit)
               else pure (ForInStep.yield PUnit.unit)
             |x=>do
              unsupported "dict.changed-during-merge"
              pure (ForInStep.yield PUnit.unit):Sem (ForInStep PUnit)))
  (fun done=>st life gens drawn os (L++dO (es++bM.take done.length) (n+done.length)::(R++[dO bM m])) tk) (fun _=>PUnit.unit) 6 (List.range bM.length) [] ?_
 ·simp only[length_nil,take_zero,append_nil,nil_append,length_range,take_length,Nat.add_zero]at key
  have e:es.toArray.size=es.length:=by simp
  have e':bM.toArray.size=bM.length:=by simp
  refine Eq.symm (e')▸?_
  exact aD.mono (N:=0+bM.length*6) (aD.bind (N:=bM.length*6) (N':=0) key aD.pure) (le_of_eq (zero_add _))
 ·intro a x b hab
  rw[nil_append]at hab
  have hlt:a.length<bM.length:=by
   have:=congrArg length hab
   simp at this;exact Nat.lt_of_lt_of_eq (Nat.lt_add_of_pos_right (succ_pos _)) this.symm
  have hx:x=a.length:=by
   have h1:(List.range bM.length)[a.length]? =some x:=by rw[hab];simp
   rw[List.getElem?_range hlt]at h1
   exact(Option.some.inj h1).symm
  clear hab
  subst hx
  refine aD.bind (N:=1) (N':=5) (fz (g2 _ _)) ?_
  have hget:bM.toArray[a.length]? =some bM[a.length]:=by simp[hlt]
  rw[hget]
  dsimp only
  obtain⟨t,ht⟩:=hk bM[a.length] (getElem_mem hlt)
  refine aD.bind (N:=4) (N':=1) (a:=()) (s':=st life gens drawn os (L++dO (es++bM.take (a.length+1)) (n+(a.length+1))::(R++[dO bM m])) tk) (aD.holding ?_) ?_
  ·have htake:bM.take (a.length+1)=bM.take a.length++[bM[a.length]]:=List.take_succ_eq_append_getElem hlt
   have hno:∀e∈es++bM.take a.length,e.hash≠bM[a.length].hash:=by
    intro e he q
    have hsplit:(es++bM)=(es++bM.take a.length)++bM[a.length]::bM.drop (a.length+1):=by
     rw[append_assoc, ←List.drop_eq_getElem_cons hlt,take_append_drop]
    rw[hsplit,map_append,map_cons]at hnd
    exact(nodup_append.mp hnd).2.2 _ (mem_map.mpr ⟨e,he,rfl⟩) _ mem_cons_self q
   have:=pS (p:=p) (w:=w) (n₀:=n₀) (ann:=ann) (life:=life) (gens:=gens) (drawn:=drawn) (os:=os) (d:=L.length) (L:=L) (R:=R++[dO bM m])
    (es:=es++bM.take a.length) (n:=n+a.length) (tk:=tk) (i:=bM[a.length].hash) (t:=t) (v:=bM[a.length].val) rfl hn (by rw[length_append,length_take];exact le_trans (add_le_add_left (min_le_right _ _) _) hz) hno
   rw[htake, ←append_assoc]
   have hent:bM[a.length]=⟨bM[a.length].hash,.int bM[a.length].hash t,bM[a.length].val⟩:=by
    exact(ht)▸rfl
   refine Eq.symm (ht)▸?_
   have e3:[bM[a.length]]=[(⟨bM[a.length].hash,.int bM[a.length].hash t,bM[a.length].val⟩:DictEntry)]:=by rw[←hent]
   rw[e3]
   exact this
  ·refine aD.bind (N:=1) (N':=0) (ly (g2 _ _)) ?_
   have:(m != m)=false:=by simp
   refine Eq.symm (this)▸Eq.symm (if_neg Bool.false_ne_true)▸?_
   simp only[length_append,length_cons,length_nil,zero_add]
   exact aD.pure
end
end
section
variable {c:List (bc×Pos)} {L:List Obj}
noncomputable def jv(run:List (Sem Value×Sem Value))(main:Option Addr):Sem (Option Addr):=
 if run.isEmpty=true then pure main
 else match main with
  |none=>do
   let d ←subDict run
   pure (some d)
  |some d=>do
   let bM ←holding [Value.ref d] (subDict run)
   (holding [Value.ref d,Value.ref bM] (mergeMapping d (Value.ref bM) false)).onRaise fun x=>do
         let _ ←holding [Value.ref d,x] (runValue (Code.builtin "proto.let_go" { }))
         pure ()
   pure (some d)
noncomputable def dl(l:List (bc×Pos)):List (Option (Sem Value)×Sem Value):=(a9 l).map fun kv=>(some kv.1,kv.2)
theorem jy(a b:List (bc×Pos)):dl (a++b)=dl a++dl b:=by simp[dl,a9]
noncomputable abbrev xV:=Option Addr×List (Sem Value×Sem Value)
noncomputable def xc(body:Option (Sem Value)×Sem Value→xV→Sem (ForInStep xV)):Prop:=
 ∀k v main run,body (some k,v) (main,run)=if((run++[(k,v)]).length==17)=true then(jv (run++[(k,v)]) main>>=fun main=>pure (.yield (main,[])))else pure (.yield (main,run++[(k,v)]))
theorem vW(items:List (Option (Sem Value)×Sem Value)):∃body,xc body∧
 dictDisplay items=(forIn items ((none,[]):xV) body>>=fun s=>jv s.2 s.1>>=fun r=>match r with|some d=>pure (Value.ref d)|none=>newDict):=
 ⟨_,fun _ _ _ _=>rfl,rfl⟩
section
variable {p:Program} {n₀:Nat} {ann:Option Value} {w:World} {life:Life} {gens:Array GenState} {drawn:Drawn} {os:OsState}
variable {body:Option (Sem Value)×Sem Value→xV→Sem (ForInStep xV)}
theorem ix(hb:xc body):∀(a:List (bc×Pos)) (rest) (main:Option Addr) (run:List (Sem Value×Sem Value)),run.length+a.length<17→
 forIn (dl a++rest) ((main,run):xV) body=forIn rest ((main,run++a9 a):xV) body
 |[],rest,main,run,_=>by simp[dl,a9]
 |x::a,rest,main,run,h=>by
  have h:=(length_cons)▸h
  show forIn ((some (key x.1.1),val x.1.2 x.2)::(dl a++rest)) ((main,run):xV) body=_
  rw[forIn_cons,hb]
  have hl:((run++[(key x.1.1,val x.1.2 x.2)]).length==17)=false:=by simp;exact ne_of_lt (lt_of_succ_lt_succ (lt_of_le_of_lt (add_le_add_left (succ_le_succ (zero_le _)) _) h))
  rw[hl,if_neg Bool.false_ne_true]
  show forIn (dl a++rest) ((main,run++[(key x.1.1,val x.1.2 x.2)]):xV) body=_
  rw[ix hb a rest main _ (by simp;exact lt_of_le_of_lt (le_of_eq (succ_add _ _)) h)]
  simp[a9]
theorem lz(hb:xc body){rest}{main m':Option Addr}{s s' s'':Shared}{N N':Nat}{r:xV}(hc:c.length=17)
 (h:aD p w n₀ ann (jv (a9 c) main) s N m' s') (h':aD p w n₀ ann (forIn rest ((m',[]):xV) body) s' N' r s''):
 aD p w n₀ ann (forIn (dl c++rest) ((main,[]):xV) body) s (N'+N) r s'':=by
 obtain⟨a,x,rfl⟩:∃a x,c=a++[x]:=⟨c.dropLast,c.getLast (by intro e;rw[e]at hc;simp at hc),(List.dropLast_concat_getLast _).symm⟩
 have ha:a.length=16:=by simpa using hc
 rw[jy,append_assoc,ix hb a _ main [] (by simp;exact lt_of_le_of_lt (le_of_eq (by with_reducible assumption)) (by decide)),nil_append]
 show aD p w n₀ ann (forIn ((some (key x.1.1),val x.1.2 x.2)::rest) ((main,a9 a):xV) body) _ _ _ _
 rw[forIn_cons,hb]
 have hl:((a9 a++[(key x.1.1,val x.1.2 x.2)]).length==17)=true:=by simp[a9,ha]
 refine Eq.symm (if_pos hl)▸?_
 have ht:a9 a++[(key x.1.1,val x.1.2 x.2)]=a9 (a++[x]):=by simp[a9]
 rw[ht]
 exact aD.bind (N:=N) (N':=N') (a:=.yield (m',[])) (s':=s') (aD.mono (N:=0+N) (aD.bind (N:=N) (N':=0) h aD.pure) (le_of_eq (zero_add _))) h'
theorem nE(k:Nat):∀(a b:List bc) (tk:Nat),bH k (a++b) tk=bH k a tk++bH k b (tk+k*a.length)
 |[],b,tk=>rfl
 |(i,x)::a,b,tk=>by
  rw[length_cons, ←show tk+k+k*a.length=tk+k*(a.length+1)by rw[Nat.mul_succ];exact(add_right_comm _ _ _).trans (add_assoc _ _ _)]
  exact congrArg (List.cons _) (nE k a b (tk+k))
theorem nB(k:Nat):∀(l:List bc) (tk:Nat),∀e∈bH k l tk,w7 e
 |[],_,e,h=>(nomatch h)
 |(i,x)::r,tk,e,h=>by
  rcases mem_cons.mp h with rfl|h
  ·exact⟨tk,rfl⟩
  ·exact nB k r _ e h
noncomputable def gT(l:List (bc×Pos)):List bc:=l.map (·.1)
theorem w4(a b:List (bc×Pos)):gT (a++b)=gT a++gT b:=by simp[gT]
theorem eB(a:List (bc×Pos)):(gT a).length=a.length:=by simp[gT]
theorem jR(a:List (bc×Pos)):(gT a).map (·.1)=a.map (·.1.1):=by simp[gT]
theorem lx{k:Nat}{R:List Obj}{es:List DictEntry}{n tk:Nat}(hc:c≠[])(hsub:∀L' tk',ble n₀ L'.length=true→
      aD p w n₀ ann (subDict (a9 c)) (st life gens drawn os L' tk') (c.length*13+2) L'.length (st life gens drawn os (L'++[dO (bH k (gT c) tk') c.length]) (tk'+3*c.length)))
 (hne:es≠[]) (hnd:(es.map (·.hash)++c.map (·.1.1)).Nodup) (hz:es.length+c.length≤1000000) (hn:ble n₀ L.length=true) (hL:1≤L.length):
 aD p w n₀ ann (jv (a9 c) (some L.length)) (st life gens drawn os (L++dO es n::R) tk) (c.length*19+7) (some L.length)
  (st life gens drawn os (L++dO (es++bH k (gT c) tk) (n+c.length)::(R++[dO (bH k (gT c) tk) c.length])) (tk+3*c.length)):=by
 unfold jv
 have hemp:(a9 c).isEmpty=false:=by cases c with|nil=>exact absurd rfl hc|cons a b=>rfl
 refine Eq.symm (hemp)▸Eq.symm (if_neg Bool.false_ne_true)▸?_
 have hlen:(L++dO es n::R).length=L.length+1+R.length:=by simp;exact(succ_add _ _).symm
 have hn':ble n₀ (L++dO es n::R).length=true:=Nat.ble_eq_true_of_le (le_trans (le_of_ble_eq_true hn) (by rw[hlen];exact le_trans (le_succ _) (le_add_right _ _)))
 have h1:=hsub (L++dO es n::R) tk hn'
 rw[hlen]at h1
 dsimp only
 refine aD.mono (N:=(c.length*6+5)+(c.length*13+2)) (aD.bind (N:=c.length*13+2) (N':=c.length*6+5) (aD.holding h1) ?_) (le_of_eq ((Nat.add_add_add_comm _ 5 _ 2).trans (congrArg (· +7) (mul_add _ 6 13).symm)))
 have h2:=uV (p:=p) (w:=w) (n₀:=n₀) (ann:=ann) (life:=life) (gens:=gens) (drawn:=drawn) (os:=os) (L:=L) (R:=R) (es:=es) (bM:=bH k (gT c) tk) (n:=n) (m:=c.length) (tk:=tk+3*c.length)
  hne (nB k _ _) (by rw[map_append,eJ,jR];exact hnd) (by rw[bC,eB];exact hz) hn (by simp[sysModules];exact ne_of_gt (lt_of_lt_of_le (succ_lt_succ hL) (le_add_right _ _)))
 rw[bC,eB]at h2
 refine aD.mono (N:=0+(c.length*6+5)) (aD.bind (N:=c.length*6+5) (N':=0) (a:=()) (aD.onRaise (aD.holding ?_)) aD.pure) (le_of_eq (zero_add _))
 rw[append_assoc,cons_append]
 exact h2
noncomputable def fw:List (List (bc×Pos))→Nat→List Obj
 |[],_=>[]
 |c::r,tk=>dO (bH 3 (gT c) tk) c.length::fw r (tk+3*c.length)
theorem oE(hb:xc body){last:List (bc×Pos)}(hlast:last.length<17){L:List Obj}(hn:ble n₀ L.length=true)(hL:1≤L.length):
 ∀(cs:List (List (bc×Pos))) (es:List DictEntry) (n tk:Nat) (R:List Obj),(∀c∈cs,c.length=17)→es≠[]→(es.map (·.hash)++cs.flatten.map (·.1.1)).Nodup→(∀k∈cs.flatten.map (·.1.1),0≤k∧k<2^60)→
  es.length+cs.flatten.length≤1000000→
  aD p w n₀ ann (forIn (dl (cs.flatten++last)) ((some L.length,[]):xV) body) (st life gens drawn os (L++dO es n::R) tk) (cs.length*330) (some L.length,a9 last)
   (st life gens drawn os (L++dO (es++bH 3 (gT cs.flatten) tk) (n+cs.flatten.length)::(R++fw cs tk)) (tk+3*cs.flatten.length))
 |[],es,n,tk,R,_,_,_,_,_=>by
  have:=ix hb last [] (some L.length) [] (by simpa using hlast)
  rw[append_nil,nil_append]at this
  rw[List.flatten_nil,nil_append,this]
  rw[show bH 3 (gT []) tk=[]from rfl,show fw [] tk=[]from rfl]
  simp only[forIn_nil,append_nil,length_nil]
  exact aD.mono (N:=0) aD.pure (zero_le _)
 |c::cs,es,n,tk,R,h17,hne,hnd,hr,hz=>by
  rw[flatten_cons]at hnd hr hz
  have hc:c.length=17:=h17 c mem_cons_self
  have hok:ez (c.map (·.1.1)):=by
   constructor
   ·rw[map_append]at hnd
    exact(nodup_append.mp (nodup_append.mp hnd).2.1).1
   ·intro k hk
    exact hr k (by rw[map_append];exact mem_append_left _ hk)
  rw[flatten_cons,append_assoc,jy]
  refine aD.mono (N:=cs.length*330+(c.length*19+7)) (lz hb hc (N:=c.length*19+7) (N':=cs.length*330)
   (lx (k:=3) (by intro e;rw[e]at hc;simp at hc) (fun L' tk' hn'=>jE hok (by rw[(by with_reducible assumption:length _=_)];decide) (le_trans (le_of_eq (by with_reducible assumption)) (by decide)) hn') hne ?_ ?_ hn hL) ?_) ?_
  ·rw[map_append, ←append_assoc]at hnd
   exact(nodup_append.mp hnd).1
  ·rw[length_append]at hz;exact le_trans (add_le_add_left (le_add_right _ _) _) hz
  ·have ih:=oE hb hlast hn hL cs (es++bH 3 (gT c) tk) (n+c.length) (tk+3*c.length) (R++[dO (bH 3 (gT c) tk) c.length]) (fun c hc=>h17 c (mem_cons_of_mem _ hc))
    (by intro e;exact hne (List.append_eq_nil_iff.mp e).1)
    (by rw[map_append,eJ,jR,append_assoc, ←map_append];exact hnd)
    (fun k hk=>hr k (by rw[map_append];exact mem_append_right _ hk))
    (by rw[length_append,bC,eB];rw[length_append]at hz;exact le_trans (le_of_eq (add_assoc _ _ _)) hz)
   rw[w4,nE,eB,length_append]
   simp only[append_assoc,cons_append,nil_append]at ih
   rw[show n+(c.length+cs.flatten.length)=n+c.length+cs.flatten.length by exact(add_assoc _ _ _).symm,show tk+3*(c.length+cs.flatten.length)=tk+3*c.length+3*cs.flatten.length by exact(congrArg (tk+ ·) (mul_add 3 _ _)).trans (add_assoc _ _ _).symm,show fw (c::cs) tk=_::fw cs _ from rfl]
   exact ih
  ·rw[length_cons,hc];exact le_of_eq (succ_mul _ 330).symm
theorem pR{c0 last:List (bc×Pos)}{cs:List (List (bc×Pos))}{tk:Nat}(h0:c0.length=17)(h17:∀c∈cs,c.length=17)(hl1:last≠[])(hl2:last.length≤15)
 (hok:ez ((c0++cs.flatten++last).map (·.1.1))) (hz:(c0++cs.flatten++last).length≤1000000) (hn:ble n₀ L.length=true) (hL:1≤L.length):
 aD p w n₀ ann (dictDisplay (dl (c0++cs.flatten++last))) (st life gens drawn os L tk) (cs.length*330+1000) (.ref L.length)
  (st life gens drawn os (L++dO (bH 3 (gT (c0++cs.flatten)) tk++bH 2 (gT last) (tk+3*(c0++cs.flatten).length)) (c0++cs.flatten++last).length::
   (fw cs (tk+3*c0.length)++[dO (bH 2 (gT last) (tk+3*(c0++cs.flatten).length)) last.length])) (tk+3*(c0++cs.flatten++last).length)):=by
 obtain⟨body,hb,e⟩:=vW (dl (c0++cs.flatten++last))
 refine Eq.symm (e)▸?_
 have hnd:=hok.1
 have hnd:=(map_append)▸(map_append)▸hnd
 have hin:∀(x:List (bc×Pos)),(∀y∈x,y∈c0++cs.flatten++last)→∀k∈x.map (·.1.1),0≤k∧k<2^60:=fun x hx k hk=>by
  obtain⟨y,hy,rfl⟩:=mem_map.mp hk
  exact hok.2 _ (mem_map.mpr ⟨y,hx y hy,rfl⟩)
 have ok0:ez (c0.map (·.1.1)):=⟨(nodup_append.mp (nodup_append.mp hnd).1).1,hin c0 (fun y hy=>by simp[hy])⟩
 have okl:ez (last.map (·.1.1)):=⟨(nodup_append.mp hnd).2.1,hin last (fun y hy=>by simp[hy])⟩
 have hzz:=hz
 rw[length_append,length_append]at hzz
 refine aD.mono (N:=(last.length*19+7)+(cs.length*330+(c0.length*13+2))) (aD.bind (N:=cs.length*330+(c0.length*13+2)) (N':=last.length*19+7) (a:=(some L.length,a9 last))
  (s':=st life gens drawn os (L++dO (bH 3 (gT (c0++cs.flatten)) tk) (c0++cs.flatten).length::fw cs (tk+3*c0.length)) (tk+3*(c0++cs.flatten).length)) ?_ ?_) (by rw[h0,Nat.add_left_comm];exact add_le_add_left (le_trans (add_le_add_right (add_le_add_right (Nat.mul_le_mul_right 19 hl2) 7) _) (by decide)) _)
 ·rw[append_assoc,jy]
  refine lz hb h0 (N:=c0.length*13+2) (N':=cs.length*330) (m':=some L.length) (s':=st life gens drawn os (L++[dO (bH 3 (gT c0) tk) c0.length]) (tk+3*c0.length)) ?_ ?_
  ·unfold jv
   have hemp:(a9 c0).isEmpty=false:=by cases c0 with|nil=>simp at h0|cons a b=>rfl
   rw[hemp,if_neg Bool.false_ne_true]
   exact aD.mono (N:=0+(c0.length*13+2)) (aD.bind (N:=c0.length*13+2) (N':=0) (jE ok0 (by rw[(by with_reducible assumption:length _=_)];decide) (le_trans (le_of_eq (by with_reducible assumption)) (by decide)) hn) aD.pure) (by rw[(by with_reducible assumption:length _=_)];decide)
  ·have:=oE (p:=p) (w:=w) (ann:=ann) (life:=life) (gens:=gens) (drawn:=drawn) (os:=os) hb (last:=last) (lt_of_le_of_lt (by with_reducible assumption) (by decide)) hn hL cs (bH 3 (gT c0) tk) c0.length (tk+3*c0.length) [] h17
    (by intro e;have:=congrArg length e;rw[bC,eB,length_nil]at this;exact absurd (h0.symm.trans this) (by decide))
    (by rw[eJ,jR];exact(nodup_append.mp hnd).1)
    (hin _ (fun y hy=>by simp only[mem_append];exact .inl (.inr hy))) (by rw[bC,eB];exact le_trans (le_add_right _ _) hzz)
   rw[w4,nE,eB,length_append,show tk+3*(c0.length+cs.flatten.length)=tk+3*c0.length+3*cs.flatten.length by exact(congrArg (tk+ ·) (mul_add 3 _ _)).trans (add_assoc _ _ _).symm]
   exact this
 ·dsimp only
  have hf:=lx (p:=p) (w:=w) (ann:=ann) (life:=life) (gens:=gens) (drawn:=drawn) (os:=os) (k:=2) (c:=last) (L:=L) (R:=fw cs (tk+3*c0.length)) (es:=bH 3 (gT (c0++cs.flatten)) tk)
   (n:=(c0++cs.flatten).length) (tk:=tk+3*(c0++cs.flatten).length) hl1 (fun L' tk' hn'=>aD.mono (nc okl hl2 hn') (le_succ _))
   (by intro e;have:=congrArg length e;rw[bC,eB,length_nil,length_append]at this;exact absurd (h0.symm.trans (Nat.eq_zero_of_add_eq_zero_right this)) (by decide))
   (by rw[eJ,jR,map_append];exact hnd) (by rw[bC,eB,length_append];with_reducible assumption) hn hL
  refine aD.mono (N:=0+(last.length*19+7)) (aD.bind (N:=last.length*19+7) (N':=0) hf ?_) (le_of_eq (zero_add _))
  have hle:(c0++cs.flatten++last).length=(c0++cs.flatten).length+last.length:=length_append
  rw[hle,show tk+3*((c0++cs.flatten).length+last.length)=tk+3*(c0++cs.flatten).length+3*last.length by exact(congrArg (tk+ ·) (mul_add 3 _ _)).trans (add_assoc _ _ _).symm]
  exact aD.pure
end
end
noncomputable section
noncomputable abbrev pw:Program:=PySem.Challenge.pw_ta0099_01
noncomputable def bd:List Stmt:=behindTheImports pw
noncomputable def dB(k:Nat):Stmt:=bd.getD k (.Pass default)
set_option backward.match.sparseCases false
noncomputable def BG:Stmt→Arguments
 |.FunctionDef _ a _ _ _ _ _ _ _ _=>a
 |_=>default
noncomputable def bF:Stmt→List Stmt
 |.FunctionDef _ _ b _ _ _ _ _ _ _=>b
 |_=>[]
noncomputable def cV:Stmt→Scope
 |.FunctionDef _ _ _ _ _ _ s _ _ _=>s
 |_=>default
noncomputable def qV(q:Pos):List (Option Expr)→List Expr→List (bc×Pos)
 |some (.Constant (.int i) _ _)::ks,.Constant (.str x) _ _::vs=>((i,x),q)::qV q ks vs
 |_,_=>[]
noncomputable def yf:Stmt→List (bc×Pos)
 |.Assign _ (.Dict ks vs q) _=>qV q ks vs
 |_=>[]
set_option backward.match.sparseCases true
noncomputable def tH:Nat→List (bc×Pos)→List (List (bc×Pos))
 |0,_=>[]
 |n+1,l=>l.take 17::tH n (l.drop 17)
noncomputable def gC:List (bc×Pos):=yf (dB 15)
noncomputable def tO:List (bc×Pos):=gC.take 17
noncomputable def qT:List (List (bc×Pos)):=tH 37 (gC.drop 17)
noncomputable def eU:List (bc×Pos):=gC.drop 646
noncomputable def sG:Obj:=dO (bH 3 (gT (tO++qT.flatten)) 380++bH 2 (gT eU) (380+3*(tO++qT.flatten).length)) (tO++qT.flatten++eU).length
noncomputable def vz:List Obj:=fw qT (380+3*tO.length)++[dO (bH 2 (gT eU) (380+3*(tO++qT.flatten).length)) eU.length]
noncomputable def Ec(_:Params):Obj:=sG
noncomputable def aV(k:Nat)(_:Params):Obj:=vz.getD k default
noncomputable def iW:Life:={}
noncomputable def dy:Drawn:={}
noncomputable abbrev AN:Option Value:=some (.ref 6)
noncomputable def eD:Env:={ scope:=pw.main.scope,locals:=mainNs,globals:=mainNs,cells:=[],code:=(.ref 13),frame:=some 14 }
noncomputable def fq:Pos:=⟨0,0,0,0⟩
noncomputable def Hu:Pos:=⟨0,0,0,0⟩
noncomputable def Gu:Pos:=⟨0,0,0,0⟩
noncomputable def sv(x:String)(n:Tok):Value:=.str (ofString x) n
noncomputable def iv(i:Int):Value:=.int i 0
noncomputable def kH(P:Params)(x:String):=PyData.keyHash P (ofString x)
noncomputable def oT:Obj:=⟨.type "tuple",none,.seq #[] 0, #[]⟩
noncomputable def oF:Obj:=⟨.none,none,.fields #[], #[]⟩
noncomputable def tS(n:Tok)(l:List String):Obj:=⟨.type "tuple",none,.seq ((l.zipIdx n).map fun p=>sv p.1 p.2).toArray 0, #[]⟩
noncomputable def cO(x:String)(n:Tok)(L a b c d:Int)(r:Addr)(m:Nat):Obj:=⟨.type "code",none,.fields #[sv x n,sv x (n+1),sv "/claim/cut.py" (n+2),iv L,iv a,iv b,iv c,iv d,.ref r,.bool true,iv 181,.ref (r+1),.none,.ref (r+2),.ref (r+3),.ref (r+4),iv m,iv L,sv "/claim/cut.py" (m+1)], #[]⟩
noncomputable def fN(x:String)(k:Nat):Obj:=⟨.none,none,.func ⟨ofString x,ofString x,BG (dB k),.stmts (bF (dB k)),cV (dB k),0,[],.none,.none,.none,.none,none,.none,.none,0⟩, #[]⟩
noncomputable def fO(x:String)(k:Nat)(d e:Value)(m:String)(n:Tok)(c:Addr):Obj:=⟨.type "function",none,.func ⟨ofString x,ofString x,BG (dB k),.stmts (bF (dB k)),cV (dB k),3,[],d,e,.none,sv m n,none,.ref c,.none,0⟩, #[]⟩
noncomputable def re(P:Params):Obj:=⟨(.type "code"),none,(.fields #[(sv "<module>" 182),(sv "<module>" 183),(sv "/claim/cut.py" 184),(iv 1),(iv 0),(iv 0),(iv 0),(iv 0),(.ref 11),(.bool false),(iv 181),(.ref 12),.none,.none,.none,.none,(iv 185),(iv 1),(sv "/claim/cut.py" 186)]), #[]⟩
noncomputable def rZ(P:Params):Obj:=⟨(.type "frame"),none,.plain, #[some (.ref 13),some (.ref 3),some (.ref 3),none,some (sv "__main__" 164),none,some (.ref 0)]⟩
noncomputable def TA(P:Params):BT:=(.node (boot_o_0 P) (.node (boot_o_1 P) (.node (boot_o_3 P) (.node (boot_o_7 P) .nil .nil) (.node oT .nil .nil)) (.node (boot_o_5 P) (.node (boot_o_9 P) .nil .nil) (.node (re P) .nil .nil))) (.node (boot_o_2 P) (.node (boot_o_4 P) (.node (boot_o_8 P) .nil .nil) (.node oF .nil .nil)) (.node (boot_o_6 P) (.node (boot_o_10 P) .nil .nil) (.node (rZ P) .nil .nil))))
noncomputable def SA(w:World)(os:OsState):SharedT:=⟨TA w.params,15,iW, #[],dy,187,os⟩
noncomputable def Kh(P:Params):Obj:=⟨(.type "dict"),none,(.dict #[⟨kH P "__name__",sv "__name__" 165,(sv "cpy313.dis" 259)⟩,⟨kH P "__doc__",sv "__doc__" 166,.none⟩,⟨kH P "__package__",sv "__package__" 167,.none⟩,⟨kH P "__loader__",sv "__loader__" 168,(.builtin "__main__.__loader__#opaque")⟩,⟨kH P "__spec__",sv "__spec__" 169,.none⟩,⟨kH P "__annotations__",sv "__annotations__" 170,(.ref 6)⟩,⟨kH P "__builtins__",sv "__builtins__" 171,(.ref 4)⟩,⟨kH P "__file__",sv "__file__" 173,(sv "/claim/cut.py" 172)⟩,⟨kH P "__cached__",sv "__cached__" 174,.none⟩,⟨kH P "ELLIPSIS_MARKER",sv "ELLIPSIS_MARKER" 190,(sv "..." 189)⟩,⟨kH P "_ellipsis_match",sv "_ellipsis_match" 202,(.ref 21)⟩,⟨kH P "insort_right",sv "insort_right" 217,(.ref 30)⟩,⟨kH P "bisect_right",sv "bisect_right" 231,(.ref 39)⟩,⟨kH P "insort_left",sv "insort_left" 244,(.ref 48)⟩,⟨kH P "bisect_left",sv "bisect_left" 258,(.ref 57)⟩] 15), #[]⟩
noncomputable def H3(P:Params):Obj:=⟨.none,none,(.fields #[(iv 3),(iv 0),(.ref 20),(iv 32),(iv 0),(.ref 29),(iv 38),(iv 0),(.ref 38),(iv 58),(iv 0),(.ref 47),(iv 64),(iv 0),(.ref 56)]), #[]⟩
noncomputable def wi(P:Params):Obj:=tS 194 ["want","got","ws","startpos","endpos","w"]
noncomputable def wh(P:Params):Obj:=fN "_ellipsis_match" 2
noncomputable def rY(P:Params):Obj:=cO "_ellipsis_match" 191 3 2 0 0 3 15 200
noncomputable def rX(P:Params):Obj:=fO "_ellipsis_match" 2 .none .none "cpy313.doctest" 187 20
noncomputable def rW(P:Params):Obj:=⟨(.type "tuple"),none,(.seq #[(.int (0) 205),.none] 0), #[]⟩
noncomputable def wf(P:Params):Obj:=⟨(.type "dict"),none,(.dict #[⟨kH P "key",sv "key" 206,.none⟩] 1), #[]⟩
noncomputable def we(P:Params):Obj:=tS 210 ["a","x","lo","hi","key"]
noncomputable def wc(P:Params):Obj:=fN "insort_right" 4
noncomputable def rV(P:Params):Obj:=cO "insort_right" 207 32 4 0 1 3 24 215
noncomputable def rU(P:Params):Obj:=fO "insort_right" 4 (.ref 22) (.ref 23) "cpy313.bisect" 203 29
noncomputable def rT(P:Params):Obj:=⟨(.type "tuple"),none,(.seq #[(.int (0) 218),.none] 0), #[]⟩
noncomputable def wb(P:Params):Obj:=⟨(.type "dict"),none,(.dict #[⟨kH P "key",sv "key" 219,.none⟩] 1), #[]⟩
noncomputable def wa(P:Params):Obj:=tS 223 ["a","x","lo","hi","key","mid"]
noncomputable def wZ(P:Params):Obj:=fN "bisect_right" 5
noncomputable def rS(P:Params):Obj:=cO "bisect_right" 220 38 4 0 1 3 33 229
noncomputable def rR(P:Params):Obj:=fO "bisect_right" 5 (.ref 31) (.ref 32) "cpy313.bisect" 203 38
noncomputable def rQ(P:Params):Obj:=⟨(.type "tuple"),none,(.seq #[(.int (0) 232),.none] 0), #[]⟩
noncomputable def wY(P:Params):Obj:=⟨(.type "dict"),none,(.dict #[⟨kH P "key",sv "key" 233,.none⟩] 1), #[]⟩
noncomputable def wX(P:Params):Obj:=tS 237 ["a","x","lo","hi","key"]
noncomputable def wW(P:Params):Obj:=fN "insort_left" 6
noncomputable def rP(P:Params):Obj:=cO "insort_left" 234 58 4 0 1 3 42 242
noncomputable def rO(P:Params):Obj:=fO "insort_left" 6 (.ref 40) (.ref 41) "cpy313.bisect" 203 47
noncomputable def rN(P:Params):Obj:=⟨(.type "tuple"),none,(.seq #[(.int (0) 245),.none] 0), #[]⟩
noncomputable def wU(P:Params):Obj:=⟨(.type "dict"),none,(.dict #[⟨kH P "key",sv "key" 246,.none⟩] 1), #[]⟩
noncomputable def wS(P:Params):Obj:=tS 250 ["a","x","lo","hi","key","mid"]
noncomputable def wR(P:Params):Obj:=fN "bisect_left" 7
noncomputable def rL(P:Params):Obj:=cO "bisect_left" 247 64 4 0 1 3 51 256
noncomputable def rK(P:Params):Obj:=fO "bisect_left" 7 (.ref 49) (.ref 50) "cpy313.bisect" 203 56
noncomputable def TB(P:Params):BT:=(.node (boot_o_0 P) (.node (boot_o_1 P) (.node (Kh P) (.node (boot_o_7 P) (.node oT (.node (rT P) .nil .nil) (.node (rP P) .nil .nil)) (.node (wf P) (.node (rR P) .nil .nil) (.node (wR P) .nil .nil))) (.node oT (.node (wh P) (.node (wa P) .nil .nil) (.node oT .nil .nil)) (.node oT (.node oF .nil .nil) .nil))) (.node (boot_o_5 P) (.node (boot_o_9 P) (.node (wi P) (.node oT .nil .nil) (.node (rN P) .nil .nil)) (.node oF (.node (wY P) .nil .nil) (.node (rK P) .nil .nil))) (.node (re P) (.node (rX P) (.node (wZ P) .nil .nil) (.node (wS P) .nil .nil)) (.node (rV P) (.node oT .nil .nil) .nil)))) (.node (boot_o_2 P) (.node (boot_o_4 P) (.node (boot_o_8 P) (.node oF (.node (wb P) .nil .nil) (.node (rO P) .nil .nil)) (.node oT (.node (rQ P) .nil .nil) (.node (rL P) .nil .nil))) (.node (H3 P) (.node (rY P) (.node oT .nil .nil) (.node oF .nil .nil)) (.node (wc P) (.node (wX P) .nil .nil) .nil))) (.node (boot_o_6 P) (.node (boot_o_10 P) (.node oT (.node oF .nil .nil) (.node (wU P) .nil .nil)) (.node (we P) (.node oT .nil .nil) .nil)) (.node (rZ P) (.node (rW P) (.node (rS P) .nil .nil) (.node oT .nil .nil)) (.node (rU P) (.node (wW P) .nil .nil) .nil)))))
noncomputable def SB(w:World)(os:OsState):SharedT:=⟨TB w.params,58,iW, #[],dy,261,os⟩
noncomputable def qB:Pos:=⟨84,0,84,8⟩
noncomputable def Hz(P:Params):Obj:=⟨(.type "dict"),none,(.dict #[⟨kH P "__name__",sv "__name__" 165,(sv "cpy313.stringprep" 311)⟩,⟨kH P "__doc__",sv "__doc__" 166,.none⟩,⟨kH P "__package__",sv "__package__" 167,.none⟩,⟨kH P "__loader__",sv "__loader__" 168,(.builtin "__main__.__loader__#opaque")⟩,⟨kH P "__spec__",sv "__spec__" 169,.none⟩,⟨kH P "__annotations__",sv "__annotations__" 170,(.ref 6)⟩,⟨kH P "__builtins__",sv "__builtins__" 171,(.ref 4)⟩,⟨kH P "__file__",sv "__file__" 173,(sv "/claim/cut.py" 172)⟩,⟨kH P "__cached__",sv "__cached__" 174,.none⟩,⟨kH P "ELLIPSIS_MARKER",sv "ELLIPSIS_MARKER" 190,(sv "..." 189)⟩,⟨kH P "_ellipsis_match",sv "_ellipsis_match" 202,(.ref 21)⟩,⟨kH P "insort_right",sv "insort_right" 217,(.ref 30)⟩,⟨kH P "bisect_right",sv "bisect_right" 231,(.ref 39)⟩,⟨kH P "insort_left",sv "insort_left" 244,(.ref 48)⟩,⟨kH P "bisect_left",sv "bisect_left" 258,(.ref 57)⟩,⟨kH P "COMPILER_FLAG_NAMES",sv "COMPILER_FLAG_NAMES" 291,(.ref 58)⟩,⟨kH P "pretty_flags",sv "pretty_flags" 301,(.ref 65)⟩,⟨kH P "_parse_varint",sv "_parse_varint" 310,(.ref 72)⟩,⟨kH P "b1_set",sv "b1_set" 372,(.ref 80)⟩,⟨kH P "in_table_b1",sv "in_table_b1" 379,(.ref 90)⟩] 20), #[]⟩
noncomputable def EW(P:Params):Obj:=⟨.none,none,(.fields #[(iv 3),(iv 0),(.ref 20),(iv 32),(iv 0),(.ref 29),(iv 38),(iv 0),(.ref 38),(iv 58),(iv 0),(.ref 47),(iv 64),(iv 0),(.ref 56),(iv 86),(iv 0),(.ref 64),(iv 98),(iv 0),(.ref 71),(iv 108),(iv 0),(.ref 89)]), #[]⟩
noncomputable def wQ(P:Params):Obj:=⟨(.type "dict"),none,(.dict #[⟨(1),(.int (1) 261),(sv "OPTIMIZED" 262)⟩,⟨(2),(.int (2) 263),(sv "NEWLOCALS" 264)⟩,⟨(4),(.int (4) 265),(sv "VARARGS" 266)⟩,⟨(8),(.int (8) 267),(sv "VARKEYWORDS" 268)⟩,⟨(16),(.int (16) 269),(sv "NESTED" 270)⟩,⟨(32),(.int (32) 271),(sv "GENERATOR" 272)⟩,⟨(64),(.int (64) 273),(sv "NOFREE" 274)⟩,⟨(128),(.int (128) 275),(sv "COROUTINE" 276)⟩,⟨(256),(.int (256) 277),(sv "ITERABLE_COROUTINE" 278)⟩,⟨(512),(.int (512) 279),(sv "ASYNC_GENERATOR" 280)⟩] 10), #[]⟩
noncomputable def AU(P:Params):Obj:=tS 295 ["flags","names","i","flag"]
noncomputable def AT(P:Params):Obj:=fN "pretty_flags" 10
noncomputable def wP(P:Params):Obj:=cO "pretty_flags" 292 86 1 0 0 3 59 299
noncomputable def wO(P:Params):Obj:=fO "pretty_flags" 10 .none .none "cpy313.dis" 259 64
noncomputable def AS(P:Params):Obj:=tS 305 ["iterator","b","val"]
noncomputable def AR(P:Params):Obj:=fN "_parse_varint" 11
noncomputable def wN(P:Params):Obj:=cO "_parse_varint" 302 98 1 0 0 3 66 308
noncomputable def wM(P:Params):Obj:=fO "_parse_varint" 11 .none .none "cpy313.dis" 259 71
noncomputable def AQ(P:Params):Obj:=⟨(.type "list"),none,(.seq #[(.int (173) 313),(.int (847) 314),(.int (6150) 315),(.int (6155) 316),(.int (6156) 317),(.int (6157) 318),(.int (8203) 319),(.int (8204) 320),(.int (8205) 321),(.int (8288) 322),(.int (65279) 323)] 0), #[]⟩
noncomputable def AP(P:Params):Obj:=⟨(.type "range"),none,(.fields #[(.int (65024) 324),(.int (65040) 325),(.int (1) 326)]), #[]⟩
noncomputable def AO(P:Params):Obj:=⟨(.type "list"),none,(.seq #[(.int (65024) 329),(.int (65025) 330),(.int (65026) 331),(.int (65027) 332),(.int (65028) 333),(.int (65029) 334),(.int (65030) 335),(.int (65031) 336),(.int (65032) 337),(.int (65033) 338),(.int (65034) 339),(.int (65035) 340),(.int (65036) 341),(.int (65037) 342),(.int (65038) 343),(.int (65039) 344)] 18), #[]⟩
noncomputable def AM(P:Params):Obj:=⟨(.type "range_iterator"),none,(.fields #[(iv 65040),(iv 0),(iv 1)]), #[]⟩
noncomputable def AL(P:Params):Obj:=⟨(.type "StopIteration"),none,(.fields #[(.ref 77),.none,.none,.none,(.bool false),.none]), #[]⟩
noncomputable def AK(P:Params):Obj:=⟨(.type "list"),none,(.seq #[(.int (173) 313),(.int (847) 314),(.int (6150) 315),(.int (6155) 316),(.int (6156) 317),(.int (6157) 318),(.int (8203) 319),(.int (8204) 320),(.int (8205) 321),(.int (8288) 322),(.int (65279) 323),(.int (65024) 329),(.int (65025) 330),(.int (65026) 331),(.int (65027) 332),(.int (65028) 333),(.int (65029) 334),(.int (65030) 335),(.int (65031) 336),(.int (65032) 337),(.int (65033) 338),(.int (65034) 339),(.int (65035) 340),(.int (65036) 341),(.int (65037) 342),(.int (65038) 343),(.int (65039) 344)] 0), #[]⟩
noncomputable def wL(P:Params):Obj:=⟨(.type "set"),none,(.set #[((65024),(.int (65024) 329)),((65025),(.int (65025) 330)),((65026),(.int (65026) 331)),((65027),(.int (65027) 332)),((65028),(.int (65028) 333)),((65029),(.int (65029) 334)),((6150),(.int (6150) 315)),((65030),(.int (65030) 335)),((65031),(.int (65031) 336)),((65032),(.int (65032) 337)),((65033),(.int (65033) 338)),((6155),(.int (6155) 316)),((6156),(.int (6156) 317)),((6157),(.int (6157) 318)),((8203),(.int (8203) 319)),((8204),(.int (8204) 320)),((8205),(.int (8205) 321)),((65034),(.int (65034) 339)),((65035),(.int (65035) 340)),((65036),(.int (65036) 341)),((65037),(.int (65037) 342)),((65038),(.int (65038) 343)),((65039),(.int (65039) 344)),((173),(.int (173) 313)),((847),(.int (847) 314)),((8288),(.int (8288) 322)),((65279),(.int (65279) 323))] 29 ⟨127, #[0,1,2,3,4,5,6,7,8,9,10,11,12,13,14,15,16,17,18,19,20,21,22,45,79,96,127], #[],0, !P.followText "set-order",2,true⟩), #[]⟩
noncomputable def AJ(P:Params):Obj:=⟨(.type "list_iterator"),none,(.fields #[.none,(iv 27)]), #[]⟩
noncomputable def AI(P:Params):Obj:=⟨(.type "StopIteration"),none,(.fields #[(.ref 82),.none,.none,.none,(.bool false),.none]), #[]⟩
noncomputable def AH(P:Params):Obj:=tS 376 ["code"]
noncomputable def AG(P:Params):Obj:=fN "in_table_b1" 14
noncomputable def wK(P:Params):Obj:=cO "in_table_b1" 373 108 1 0 0 3 84 377
noncomputable def wJ(P:Params):Obj:=fO "in_table_b1" 14 .none .none "cpy313.stringprep" 311 89
noncomputable def TC(P:Params):BT:=(.node (boot_o_0 P) (.node (boot_o_1 P) (.node (Hz P) (.node (boot_o_7 P) (.node oT (.node (rT P) (.node (AT P) .nil .nil) .nil) (.node (rP P) (.node (AK P) .nil .nil) .nil)) (.node (wf P) (.node (rR P) (.node (wN P) .nil .nil) .nil) (.node (wR P) (.node oT .nil .nil) .nil))) (.node oT (.node (wh P) (.node (wa P) (.node oF .nil .nil) .nil) (.node oT (.node (AI P) .nil .nil) .nil)) (.node oT (.node oF (.node (AO P) .nil .nil) .nil) (.node oT .nil .nil)))) (.node (boot_o_5 P) (.node (boot_o_9 P) (.node (wi P) (.node oT (.node (wO P) .nil .nil) .nil) (.node (rN P) (.node (AJ P) .nil .nil) .nil)) (.node oF (.node (wY P) (.node (AQ P) .nil .nil) .nil) (.node (rK P) (.node (wK P) .nil .nil) .nil))) (.node (re P) (.node (rX P) (.node (wZ P) (.node oT .nil .nil) .nil) (.node (wS P) (.node oF .nil .nil) .nil)) (.node (rV P) (.node oT (.node oT .nil .nil) .nil) (.node (AU P) .nil .nil))))) (.node (boot_o_2 P) (.node (boot_o_4 P) (.node (boot_o_8 P) (.node oF (.node (wb P) (.node (wP P) .nil .nil) .nil) (.node (rO P) (.node (wL P) .nil .nil) .nil)) (.node oT (.node (rQ P) (.node (wM P) .nil .nil) .nil) (.node (rL P) (.node (AG P) .nil .nil) .nil))) (.node (EW P) (.node (rY P) (.node oT (.node (AS P) .nil .nil) .nil) (.node oF (.node oT .nil .nil) .nil)) (.node (wc P) (.node (wX P) (.node (AM P) .nil .nil) .nil) (.node oF .nil .nil)))) (.node (boot_o_6 P) (.node (boot_o_10 P) (.node oT (.node oF (.node oT .nil .nil) .nil) (.node (wU P) (.node oT .nil .nil) .nil)) (.node (we P) (.node oT (.node (AP P) .nil .nil) .nil) (.node (wQ P) (.node (wJ P) .nil .nil) .nil))) (.node (rZ P) (.node (rW P) (.node (rS P) (.node (AR P) .nil .nil) .nil) (.node oT (.node (AH P) .nil .nil) .nil)) (.node (rU P) (.node (wW P) (.node (AL P) .nil .nil) .nil) (.node oT .nil .nil))))))
noncomputable def SC(w:World)(os:OsState):SharedT:=⟨TC w.params,91,iW, #[],dy,380,os⟩
noncomputable def qC:Pos:=⟨108,0,109,30⟩
noncomputable def TD(P:Params):BT:=(.node (boot_o_0 P) (.node (boot_o_1 P) (.node (Hz P) (.node (boot_o_7 P) (.node oT (.node (rT P) (.node (AT P) (.node (aV 35 P) .nil .nil) .nil) (.node (aV 3 P) .nil .nil)) (.node (rP P) (.node (AK P) .nil .nil) (.node (aV 19 P) .nil .nil))) (.node (wf P) (.node (rR P) (.node (wN P) .nil .nil) (.node (aV 11 P) .nil .nil)) (.node (wR P) (.node oT .nil .nil) (.node (aV 27 P) .nil .nil)))) (.node oT (.node (wh P) (.node (wa P) (.node oF .nil .nil) (.node (aV 7 P) .nil .nil)) (.node oT (.node (AI P) .nil .nil) (.node (aV 23 P) .nil .nil))) (.node oT (.node oF (.node (AO P) .nil .nil) (.node (aV 15 P) .nil .nil)) (.node oT (.node (Ec P) .nil .nil) (.node (aV 31 P) .nil .nil))))) (.node (boot_o_5 P) (.node (boot_o_9 P) (.node (wi P) (.node oT (.node (wO P) (.node (aV 37 P) .nil .nil) .nil) (.node (aV 5 P) .nil .nil)) (.node (rN P) (.node (AJ P) .nil .nil) (.node (aV 21 P) .nil .nil))) (.node oF (.node (wY P) (.node (AQ P) .nil .nil) (.node (aV 13 P) .nil .nil)) (.node (rK P) (.node (wK P) .nil .nil) (.node (aV 29 P) .nil .nil)))) (.node (re P) (.node (rX P) (.node (wZ P) (.node oT .nil .nil) (.node (aV 9 P) .nil .nil)) (.node (wS P) (.node oF .nil .nil) (.node (aV 25 P) .nil .nil))) (.node (rV P) (.node oT (.node oT .nil .nil) (.node (aV 17 P) .nil .nil)) (.node (AU P) (.node (aV 1 P) .nil .nil) (.node (aV 33 P) .nil .nil)))))) (.node (boot_o_2 P) (.node (boot_o_4 P) (.node (boot_o_8 P) (.node oF (.node (wb P) (.node (wP P) (.node (aV 36 P) .nil .nil) .nil) (.node (aV 4 P) .nil .nil)) (.node (rO P) (.node (wL P) .nil .nil) (.node (aV 20 P) .nil .nil))) (.node oT (.node (rQ P) (.node (wM P) .nil .nil) (.node (aV 12 P) .nil .nil)) (.node (rL P) (.node (AG P) .nil .nil) (.node (aV 28 P) .nil .nil)))) (.node (EW P) (.node (rY P) (.node oT (.node (AS P) .nil .nil) (.node (aV 8 P) .nil .nil)) (.node oF (.node oT .nil .nil) (.node (aV 24 P) .nil .nil))) (.node (wc P) (.node (wX P) (.node (AM P) .nil .nil) (.node (aV 16 P) .nil .nil)) (.node oF (.node (aV 0 P) .nil .nil) (.node (aV 32 P) .nil .nil))))) (.node (boot_o_6 P) (.node (boot_o_10 P) (.node oT (.node oF (.node oT .nil .nil) (.node (aV 6 P) .nil .nil)) (.node (wU P) (.node oT .nil .nil) (.node (aV 22 P) .nil .nil))) (.node (we P) (.node oT (.node (AP P) .nil .nil) (.node (aV 14 P) .nil .nil)) (.node (wQ P) (.node (wJ P) .nil .nil) (.node (aV 30 P) .nil .nil)))) (.node (rZ P) (.node (rW P) (.node (rS P) (.node (AR P) .nil .nil) (.node (aV 10 P) .nil .nil)) (.node oT (.node (AH P) .nil .nil) (.node (aV 26 P) .nil .nil))) (.node (rU P) (.node (wW P) (.node (AL P) .nil .nil) (.node (aV 18 P) .nil .nil)) (.node oT (.node (aV 2 P) .nil .nil) (.node (aV 34 P) .nil .nil)))))))
noncomputable def Kg(P:Params):Obj:=⟨(.type "dict"),none,(.dict #[⟨kH P "__name__",sv "__name__" 165,(sv "law_ta0099_01" 2339)⟩,⟨kH P "__doc__",sv "__doc__" 166,.none⟩,⟨kH P "__package__",sv "__package__" 167,.none⟩,⟨kH P "__loader__",sv "__loader__" 168,(.builtin "__main__.__loader__#opaque")⟩,⟨kH P "__spec__",sv "__spec__" 169,.none⟩,⟨kH P "__annotations__",sv "__annotations__" 170,(.ref 6)⟩,⟨kH P "__builtins__",sv "__builtins__" 171,(.ref 4)⟩,⟨kH P "__file__",sv "__file__" 173,(sv "/claim/cut.py" 172)⟩,⟨kH P "__cached__",sv "__cached__" 174,.none⟩,⟨kH P "ELLIPSIS_MARKER",sv "ELLIPSIS_MARKER" 190,(sv "..." 189)⟩,⟨kH P "_ellipsis_match",sv "_ellipsis_match" 202,(.ref 21)⟩,⟨kH P "insort_right",sv "insort_right" 217,(.ref 30)⟩,⟨kH P "bisect_right",sv "bisect_right" 231,(.ref 39)⟩,⟨kH P "insort_left",sv "insort_left" 244,(.ref 48)⟩,⟨kH P "bisect_left",sv "bisect_left" 258,(.ref 57)⟩,⟨kH P "COMPILER_FLAG_NAMES",sv "COMPILER_FLAG_NAMES" 291,(.ref 58)⟩,⟨kH P "pretty_flags",sv "pretty_flags" 301,(.ref 65)⟩,⟨kH P "_parse_varint",sv "_parse_varint" 310,(.ref 72)⟩,⟨kH P "b1_set",sv "b1_set" 372,(.ref 80)⟩,⟨kH P "in_table_b1",sv "in_table_b1" 379,(.ref 90)⟩,⟨kH P "b3_exceptions",sv "b3_exceptions" 2330,(.ref 91)⟩,⟨kH P "map_table_b3",sv "map_table_b3" 2338,(.ref 136)⟩,⟨kH P "_law_prepared",sv "_law_prepared" 2346,(.ref 141)⟩,⟨kH P "_law_ask",sv "_law_ask" 2355,(.ref 148)⟩,⟨kH P "_law_put",sv "_law_put" 2361,(.ref 153)⟩,⟨kH P "_law_own",sv "_law_own" 2367,(.ref 158)⟩,⟨kH P "_law_led",sv "_law_led" 2378,(.ref 165)⟩,⟨kH P "_law_unlike",sv "_law_unlike" 2384,(.ref 170)⟩,⟨kH P "_law_learned",sv "_law_learned" 2411,(.ref 177)⟩,⟨kH P "law",sv "law" 2417,(.ref 182)⟩] 30), #[]⟩
noncomputable def Hy(P:Params):Obj:=⟨.none,none,(.fields #[(iv 3),(iv 0),(.ref 20),(iv 32),(iv 0),(.ref 29),(iv 38),(iv 0),(.ref 38),(iv 58),(iv 0),(.ref 47),(iv 64),(iv 0),(.ref 56),(iv 86),(iv 0),(.ref 64),(iv 98),(iv 0),(.ref 71),(iv 108),(iv 0),(.ref 89),(iv 111),(iv 0),(.ref 135),(iv 117),(iv 0),(.ref 140),(iv 123),(iv 0),(.ref 147),(iv 127),(iv 0),(.ref 152),(iv 133),(iv 0),(.ref 157),(iv 141),(iv 0),(.ref 164),(iv 146),(iv 0),(.ref 169),(iv 157),(iv 0),(.ref 176),(iv 180),(iv 0),(.ref 181)]), #[]⟩
noncomputable def GE(P:Params):Obj:=tS 2334 ["code","r"]
noncomputable def GD(P:Params):Obj:=fN "map_table_b3" 16
noncomputable def AF(P:Params):Obj:=cO "map_table_b3" 2331 111 1 0 0 3 130 2336
noncomputable def AE(P:Params):Obj:=fO "map_table_b3" 16 .none .none "cpy313.stringprep" 311 135
noncomputable def GC(P:Params):Obj:=fN "_law_prepared" 18
noncomputable def AD(P:Params):Obj:=⟨(.type "code"),none,(.fields #[(sv "_law_prepared" 2341),(sv "_law_prepared" 2342),(sv "/claim/cut.py" 2343),(iv 117),(iv 3),(iv 0),(iv 0),(iv 3),(.ref 137),(.bool true),(iv 181),(.ref 138),.none,.none,.none,(.ref 139),(iv 2344),(iv 117),(sv "/claim/cut.py" 2345)]), #[]⟩
noncomputable def AC(P:Params):Obj:=fO "_law_prepared" 18 .none .none "law_ta0099_01" 2339 140
noncomputable def GB(P:Params):Obj:=tS 2350 ["word","world","asked"]
noncomputable def GA(P:Params):Obj:=fN "_law_ask" 19
noncomputable def AB(P:Params):Obj:=cO "_law_ask" 2347 123 3 0 0 3 142 2353
noncomputable def AA(P:Params):Obj:=fO "_law_ask" 19 .none .none "law_ta0099_01" 2339 147
noncomputable def F9(P:Params):Obj:=fN "_law_put" 20
noncomputable def z9(P:Params):Obj:=⟨(.type "code"),none,(.fields #[(sv "_law_put" 2356),(sv "_law_put" 2357),(sv "/claim/cut.py" 2358),(iv 127),(iv 7),(iv 0),(iv 0),(iv 3),(.ref 149),(.bool true),(iv 181),(.ref 150),.none,.none,.none,(.ref 151),(iv 2359),(iv 127),(sv "/claim/cut.py" 2360)]), #[]⟩
noncomputable def z8(P:Params):Obj:=fO "_law_put" 20 .none .none "law_ta0099_01" 2339 152
noncomputable def F8(P:Params):Obj:=fN "_law_own" 21
noncomputable def z7(P:Params):Obj:=⟨(.type "code"),none,(.fields #[(sv "_law_own" 2362),(sv "_law_own" 2363),(sv "/claim/cut.py" 2364),(iv 133),(iv 3),(iv 0),(iv 0),(iv 3),(.ref 154),(.bool true),(iv 181),(.ref 155),.none,.none,.none,(.ref 156),(iv 2365),(iv 133),(sv "/claim/cut.py" 2366)]), #[]⟩
noncomputable def z6(P:Params):Obj:=fO "_law_own" 21 .none .none "law_ta0099_01" 2339 157
noncomputable def F7(P:Params):Obj:=tS 2371 ["word","table","letters","trail","letter"]
noncomputable def F6(P:Params):Obj:=fN "_law_led" 22
noncomputable def z5(P:Params):Obj:=cO "_law_led" 2368 141 3 0 0 3 159 2376
noncomputable def z0(P:Params):Obj:=fO "_law_led" 22 .none .none "law_ta0099_01" 2339 164
noncomputable def F4(P:Params):Obj:=fN "_law_unlike" 23
noncomputable def zz(P:Params):Obj:=⟨(.type "code"),none,(.fields #[(sv "_law_unlike" 2379),(sv "_law_unlike" 2380),(sv "/claim/cut.py" 2381),(iv 146),(iv 3),(iv 0),(iv 0),(iv 3),(.ref 166),(.bool true),(iv 181),(.ref 167),.none,.none,.none,(.ref 168),(iv 2382),(iv 146),(sv "/claim/cut.py" 2383)]), #[]⟩
noncomputable def zy(P:Params):Obj:=fO "_law_unlike" 23 .none .none "law_ta0099_01" 2339 169
noncomputable def F3(P:Params):Obj:=tS 2388 ["world","own","asked","letters","ends","turn","book","moves","place","at","letter","places","look","cut"]
noncomputable def F0(P:Params):Obj:=tS 2402 ["world","asked","heads","looks","trail","truth","word"]
noncomputable def Fz(P:Params):Obj:=fN "_law_learned" 24
noncomputable def zx(P:Params):Obj:=cO "_law_learned" 2385 157 3 0 0 3 171 2409
noncomputable def zw(P:Params):Obj:=fO "_law_learned" 24 .none .none "law_ta0099_01" 2339 176
noncomputable def Fy(P:Params):Obj:=fN "law" 25
noncomputable def zv(P:Params):Obj:=⟨(.type "code"),none,(.fields #[(sv "law" 2412),(sv "law" 2413),(sv "/claim/cut.py" 2414),(iv 180),(iv 1),(iv 0),(iv 0),(iv 3),(.ref 178),(.bool true),(iv 181),(.ref 179),.none,.none,.none,(.ref 180),(iv 2415),(iv 180),(sv "/claim/cut.py" 2416)]), #[]⟩
noncomputable def zu(P:Params):Obj:=fO "law" 25 .none .none "law_ta0099_01" 2339 181
noncomputable def TE(P:Params):BT:=(.node (boot_o_0 P) (.node (boot_o_1 P) (.node (Kg P) (.node (boot_o_7 P) (.node oT (.node (rT P) (.node (AT P) (.node (aV 35 P) .nil .nil) .nil) (.node (aV 3 P) (.node oT .nil .nil) .nil)) (.node (rP P) (.node (AK P) (.node oF .nil .nil) .nil) (.node (aV 19 P) (.node (Fz P) .nil .nil) .nil))) (.node (wf P) (.node (rR P) (.node (wN P) (.node (AF P) .nil .nil) .nil) (.node (aV 11 P) (.node oF .nil .nil) .nil)) (.node (wR P) (.node oT (.node (F9 P) .nil .nil) .nil) (.node (aV 27 P) .nil .nil)))) (.node oT (.node (wh P) (.node (wa P) (.node oF (.node oF .nil .nil) .nil) (.node (aV 7 P) (.node (F6 P) .nil .nil) .nil)) (.node oT (.node (AI P) (.node (AB P) .nil .nil) .nil) (.node (aV 23 P) (.node oF .nil .nil) .nil))) (.node oT (.node oF (.node (AO P) (.node (GC P) .nil .nil) .nil) (.node (aV 15 P) (.node oT .nil .nil) .nil)) (.node oT (.node (Ec P) (.node oF .nil .nil) .nil) (.node (aV 31 P) .nil .nil))))) (.node (boot_o_5 P) (.node (boot_o_9 P) (.node (wi P) (.node oT (.node (wO P) (.node (aV 37 P) .nil .nil) .nil) (.node (aV 5 P) (.node (F7 P) .nil .nil) .nil)) (.node (rN P) (.node (AJ P) (.node oT .nil .nil) .nil) (.node (aV 21 P) (.node (zw P) .nil .nil) .nil))) (.node oF (.node (wY P) (.node (AQ P) (.node oT .nil .nil) .nil) (.node (aV 13 P) (.node (zz P) .nil .nil) .nil)) (.node (rK P) (.node (wK P) (.node (z8 P) .nil .nil) .nil) (.node (aV 29 P) .nil .nil)))) (.node (re P) (.node (rX P) (.node (wZ P) (.node oT (.node oT .nil .nil) .nil) (.node (aV 9 P) (.node (z0 P) .nil .nil) .nil)) (.node (wS P) (.node oF (.node oT .nil .nil) .nil) (.node (aV 25 P) (.node (zv P) .nil .nil) .nil))) (.node (rV P) (.node oT (.node oT (.node (AC P) .nil .nil) .nil) (.node (aV 17 P) (.node (F3 P) .nil .nil) .nil)) (.node (AU P) (.node (aV 1 P) (.node (z7 P) .nil .nil) .nil) (.node (aV 33 P) .nil .nil)))))) (.node (boot_o_2 P) (.node (boot_o_4 P) (.node (boot_o_8 P) (.node oF (.node (wb P) (.node (wP P) (.node (aV 36 P) .nil .nil) .nil) (.node (aV 4 P) (.node oF .nil .nil) .nil)) (.node (rO P) (.node (wL P) (.node (GB P) .nil .nil) .nil) (.node (aV 20 P) (.node (zx P) .nil .nil) .nil))) (.node oT (.node (rQ P) (.node (wM P) (.node (AE P) .nil .nil) .nil) (.node (aV 12 P) (.node (F4 P) .nil .nil) .nil)) (.node (rL P) (.node (AG P) (.node (z9 P) .nil .nil) .nil) (.node (aV 28 P) .nil .nil)))) (.node (Hy P) (.node (rY P) (.node oT (.node (AS P) (.node (GE P) .nil .nil) .nil) (.node (aV 8 P) (.node (z5 P) .nil .nil) .nil)) (.node oF (.node oT (.node (AA P) .nil .nil) .nil) (.node (aV 24 P) (.node (Fy P) .nil .nil) .nil))) (.node (wc P) (.node (wX P) (.node (AM P) (.node (AD P) .nil .nil) .nil) (.node (aV 16 P) (.node oF .nil .nil) .nil)) (.node oF (.node (aV 0 P) (.node (F8 P) .nil .nil) .nil) (.node (aV 32 P) .nil .nil))))) (.node (boot_o_6 P) (.node (boot_o_10 P) (.node oT (.node oF (.node oT (.node oT .nil .nil) .nil) (.node (aV 6 P) (.node oT .nil .nil) .nil)) (.node (wU P) (.node oT (.node (GA P) .nil .nil) .nil) (.node (aV 22 P) (.node oT .nil .nil) .nil))) (.node (we P) (.node oT (.node (AP P) (.node oF .nil .nil) .nil) (.node (aV 14 P) (.node (zy P) .nil .nil) .nil)) (.node (wQ P) (.node (wJ P) (.node oT .nil .nil) .nil) (.node (aV 30 P) .nil .nil)))) (.node (rZ P) (.node (rW P) (.node (rS P) (.node (AR P) (.node (GD P) .nil .nil) .nil) (.node (aV 10 P) (.node oT .nil .nil) .nil)) (.node oT (.node (AH P) (.node oF .nil .nil) .nil) (.node (aV 26 P) (.node (zu P) .nil .nil) .nil))) (.node (rU P) (.node (wW P) (.node (AL P) (.node oT .nil .nil) .nil) (.node (aV 18 P) (.node (F0 P) .nil .nil) .nil)) (.node oT (.node (aV 2 P) (.node (z6 P) .nil .nil) .nil) (.node (aV 34 P) .nil .nil)))))))
noncomputable def SE(w:World)(os:OsState):SharedT:=⟨TE w.params,183,iW, #[],dy,2418,os⟩
noncomputable def qE:Pos:=⟨180,0,219,84⟩
noncomputable def qF:Code:=.body bd eD
noncomputable def BB:List Frame:=[topFrame fq]
noncomputable def SD(w:World)(os:OsState):SharedT:=⟨TD w.params,130,iW, #[],dy,2330,os⟩
theorem KZ(w:World)(os:OsState):topGo treeTable pw w 11 AN 12 ⟨boot_heap w.params,Array.mk [],boot_drawn,boot_toks,os⟩ (topStub pw)=some ((SA w os).abs,⟨denote treeTable qF,qF,Hu,BB⟩):=by kernel_rfl!
theorem Gv(w:World)(os:OsState):segRun treeTable pw w 11 AN 1 1 (SA w os).abs (blockOf bd eD qF Hu BB)=some (.next,(SA w os).abs,qF,Gu):=by kernel_rfl!
theorem g1(w:World)(os:OsState):segRunT treeTable pw w 11 AN 1 233 (SA w os) (piecesOf (bd.take 9) eD qF Gu BB)=some (.next,SB w os,qF,qB):=by kernel_rfl!
theorem g2(w:World):∀os:OsState,segRunT treeTable pw w 11 AN 1 1240 (SB w os) (piecesOf ((bd.drop 9).take 6) eD qF qB BB)=some (.next,SC w os,qF,qC):=by
 refine byRow2 "special-get-raises" (P:=fun w=>∀os:OsState,segRunT treeTable pw w 11 AN 1 1240 (SB w os) (piecesOf ((bd.drop 9).take 6) eD qF qB BB)=some (.next,SC w os,qF,qC)) (fun w os=>?_) (fun w os=>?_) w
 ·rw[PySem.W.Fast.te10110043849684766642,PySem.W.Fast.te14364793385576792824];kernel_rfl!
 ·rw[PySem.W.Fast.te10110043849684766642,PySem.W.Fast.te14364793385576792824];kernel_rfl!
noncomputable def ji:List Int→Bool
 |a::b::r=>decide (a<b)&&ji (b::r)
 |_=>true
theorem oH:∀{l:List Int} {a:Int},ji (a::l)=true→∀b∈l,a<b
 |[],_,_,b,h=>(nomatch h)
 |c::r,a,h,b,hb=>by
  have h:=and_eq_true_iff.mp h
  rcases mem_cons.mp hb with rfl|hb
  ·exact of_decide_eq_true h.1
  ·exact Int.lt_trans (of_decide_eq_true h.1) (oH h.2 b hb)
theorem qx{a:Int}{l:List Int}(h:ji (a::l)=true):ji l=true:=by
 cases l with
 |nil=>rfl
 |cons b r=>exact(and_eq_true_iff.mp h).2
theorem jH:∀{l:List Int},ji l=true→l.Nodup
 |[],_=>nodup_nil
 |a::l,h=>nodup_cons.mpr ⟨fun hm=>Int.lt_irrefl a (oH h a hm),jH (qx h)⟩
noncomputable def Ei:List Int:=(tO++qT.flatten++eU).map (·.1.1)
theorem sT:ji Ei=true:=by decide +kernel
theorem uz:Ei.all (fun k=>decide (0≤k)&&decide (k<2^60))=true:=by decide +kernel
theorem DX:ez ((tO++qT.flatten++eU).map (·.1.1)):=
 ⟨jH sT,fun k hk=>by
  have:=all_eq_true.mp uz k hk
  simpa using this⟩
theorem Kt:tO.length=17:=by decide +kernel
theorem Kr:qT.all (fun c=>c.length==17)=true:=by decide +kernel
theorem IC:eU.length=4:=by decide +kernel
theorem GT:(tO++qT.flatten++eU).length=650:=by decide +kernel
theorem Ks:qT.length=37:=by decide +kernel
theorem IM:gC=tO++qT.flatten++eU:=by kernel_rfl!
set_option backward.match.sparseCases false
noncomputable def Eu:Stmt→Expr
 |.Assign _ v _=>v
 |_=>default
noncomputable def Et:Stmt→Pos
 |.Assign _ (.Dict _ _ q) _=>q
 |_=>default
noncomputable def LY:Stmt→Pos
 |.Assign _ _ q=>q
 |_=>default
noncomputable def LX:Stmt→List Expr
 |.Assign t _ _=>t
 |_=>[]
set_option backward.match.sparseCases true
noncomputable def qe(v:Value):Sem Flow:=do
 match ←assignStores eD v none ((assignEach (LX (dB 15)) eD).map (·.2))with
 |.next=>execs (bd.drop 16) eD
 |f=>pure f
noncomputable def vO:Sem Value:=standAt (LY (dB 15))>>=fun _=>standAt (Et (dB 15))>>=fun _=>dictDisplay (dl (tO++qT.flatten++eU))
theorem xp{α β γ:Type}(m:Sem α)(f:α→Sem β)(g:β→Sem γ):(m>>=f)>>=g=m>>=fun a=>f a>>=g:=by
 simp only[Sem.bind_eq_wrap',Sem.wrap_wrap]
 rfl
theorem yi:eval (Eu (dB 15)) eD=(standAt (Et (dB 15))>>=fun _=>dictDisplay (dl (tO++qT.flatten++eU))):=by kernel_rfl!
theorem yh:exec (dB 15) eD=(standAt (LY (dB 15))>>=fun _=>eval (Eu (dB 15)) eD>>=fun v=>assignStores eD v none ((assignEach (LX (dB 15)) eD).map (·.2))):=by kernel_rfl!
theorem vY:execs (bd.drop 15) eD=(vO>>=qe):=by
 have e0:execs (bd.drop 15) eD=(exec (dB 15) eD>>=fun f=>match f with|.next=>execs (bd.drop 16) eD|f=>pure f):=by kernel_rfl!
 rw[e0,yh,yi]
 unfold vO
 simp only[xp]
 rfl
noncomputable def LC(P:Params):List Obj:=(TC P).list 91
theorem vk(P:Params):(LC P).length=91:=by simp[LC,BT.list]
theorem JW(w:World)(os:OsState):(SC w os).abs=st iW #[] dy os (LC w.params) 380:=rfl
theorem JV(w:World)(os:OsState):(SD w os).abs=st iW #[] dy os (LC w.params++sG::vz) 2330:=by
 have e:(TD w.params).list 130=LC w.params++sG::vz:=by kernel_rfl!
 show st iW #[] dy os ((TD w.params).list 130) 2330=_
 rw[e]
theorem vM(w:World)(os:OsState):aD pw w 11 AN vO (SC w os).abs 20000 (.ref 91) (SD w os).abs:=by
 have h:=pR (p:=pw) (w:=w) (n₀:=11) (ann:=AN) (life:=iW) (gens:= #[]) (drawn:=dy) (os:=os) (c0:=tO) (last:=eU) (cs:=qT) (L:=LC w.params) (tk:=380) Kt
  (fun c hc=>by simpa using all_eq_true.mp Kr c hc) (by intro e;have:=IC;rw[e]at this;cases this) (by rw[IC];decide) DX (by rw[GT];decide) (by rw[vk];rfl) (by rw[vk];decide)
 rw[JW,JV]
 rw[vk,Ks,GT]at h
 refine aD.mono (N:=((37*330+1000)+1)+1) (aD.bind (N:=1) (N':=(37*330+1000)+1) aD.standAt (aD.bind (N:=1) (N':=37*330+1000) aD.standAt ?_)) (by decide)
 unfold sG vz
 rw[GT]
 exact h
theorem Hg(w:World)(os:OsState)(q:Pos):segRunT treeTable pw w 11 AN 1 342 (SD w os) ⟨(qe (.ref 91)).wrap doneF deadEnd id id,qF,q,BB⟩=some (.next,SE w os,qF,qE):=by kernel_rfl!
theorem K6(w:World)(os:OsState):topRun treeTable pw w 11 AN 2 (SE w os).abs ⟨doneF .next,qF,qE,BB⟩=some (SE w os).abs:=by kernel_rfl!
theorem KQ(w:World)(os:OsState):topRun treeTable pw w 11 AN (12+(1+(233+(1240+((342+2)+20000))))) ⟨boot_heap w.params,Array.mk [],boot_drawn,boot_toks,os⟩ (topStub pw)=some (SE w os).abs:=by
 refine go_top (KZ w os) ?_
 refine piece_block (Gv w os) ?_
 have e1:bd=bd.take 9++bd.drop 9:=(take_append_drop 9 bd).symm
 have e2:bd.drop 9=(bd.drop 9).take 6++bd.drop 15:=by
  have:=(take_append_drop 6 (bd.drop 9)).symm
  rwa[drop_drop]at this
 have k3:topRun treeTable pw w 11 AN ((342+2)+20000) (SC w os).abs (restOf (bd.drop 15) eD qF qC BB)=some (SE w os).abs:=by
  obtain⟨q',n,hn,hk⟩:=vM w os (fun v=>(qe v).wrap doneF (leaveH eD) id id) (leaveH eD) id id qF qC (topFrame fq) []
  have ht:=segRun_of (Hg w os q')
  obtain⟨a,ha,hN⟩:=seg_top (res:=id) (K':=doneF) (H':=leaveH eD) (B:=BB) rfl 342 (SD w os).abs ⟨(qe (.ref 91)).wrap doneF deadEnd id id,qF,q',BB⟩
   ⟨(qe (.ref 91)).wrap doneF (leaveH eD) id id,qF,q',BB⟩ _ _ _ _ ⟨rfl,rfl,.inl ⟨rfl,rfl,_,rfl,rfl⟩⟩ ht
  have ha':a=.next:=ha
  subst ha'
  have h1:=hk _ _ (hN _ _ (K6 w os))
  have h2:=topRun_mono (20000-n) _ _ _ _ h1
  rw[add_assoc _ n,Nat.add_sub_cancel' hn]at h2
  unfold restOf
  rw[vY,Sem.bind_eq_wrap',Sem.wrap_wrap]
  exact h2
 have k2:topRun treeTable pw w 11 AN (1240+((342+2)+20000)) (SB w os).abs (restOf (bd.drop 9) eD qF qB BB)=some (SE w os).abs:=by
  rw[e2]
  exact piece_app (segRun_of (g2 w os)) k3
 have k1:topRun treeTable pw w 11 AN (233+(1240+((342+2)+20000))) (SA w os).abs (restOf bd eD qF Gu BB)=some (SE w os).abs:=by
  rw[e1]
  exact piece_app (segRun_of (g1 w os)) k2
 exact k1
noncomputable def HE(P:Params):Heap:=absHeap (TE P) 183 iW
noncomputable def qv:Program:={ pw with main:={ pw.main with body:=[dB 25] } }
noncomputable def pd:List Str:=[ofString "ELLIPSIS_MARKER",ofString "_ellipsis_match",ofString "insort_right",ofString "bisect_right",ofString "insort_left",ofString "bisect_left",ofString "COMPILER_FLAG_NAMES",ofString "pretty_flags",ofString "_parse_varint",ofString "b1_set",ofString "in_table_b1",ofString "b3_exceptions",ofString "map_table_b3",ofString "_law_prepared",ofString "_law_ask",ofString "_law_put",ofString "_law_own",ofString "_law_led",ofString "_law_unlike",ofString "_law_learned"]
theorem Hj(w:World):((boot_heap w.params).isNs mainGlobals&&(Array.mk []:Array GenState).size==0,(boot_heap w.params).objs.size,(boot_heap w.params).nsMap mainGlobals "__annotations__")=(true,11,AN):=by kernel_rfl!
theorem GN(w:World):(fun os:OsState=>((staticsOk (importedModules pw.main.body) (boot_heap w.params) (HE w.params)&&namesBound pw (HE w.params)&&gensDone ⟨HE w.params, #[],dy,2418,os⟩&&laidKept (boot_heap w.params) (HE w.params)),
        openSeen qv pd (importedModules pw.main.body) (fun _=>true) true ⟨HE w.params, #[],dy,2418,os⟩,HE w.params))=fun _=>(true,openGood qv pd,HE w.params):=by
 funext os
 refine Prod.ext ?_ (Prod.ext ?_ rfl)
 ·dsimp only;kernel_rfl!
 ·dsimp only;kernel_rfl!
theorem ID:LeftO pw qv pd (fun _=>true) (fun s=>s.heap) (fun w=>HE w.params) 100000:=
 LeftO.of_pieces (H₀:=boot_heap) (H₁:=HE) (gs₀:=Array.mk []) (gs₁:= #[]) (d₀:=boot_drawn) (d₁:=dy) (k₀:=boot_toks) (k₁:=2418) (m₀:=11) (ann:=AN) (M:=(12+(1+(233+(1240+((342+2)+20000))))))
  (boot_open (by kernel_rfl!) rfl (fun s=>by kernel_rfl!)) Hj KQ (by rfl) GN
end
set_option backward.match.sparseCases false
theorem nN{α:Type}{v:α}{p:Prop}(h:none=some v):p:=nomatch h
theorem aj{p:Prop}(h:false=true):p:=nomatch h
noncomputable def S(l:List Nat):Str:=⟨l.toArray⟩
theorem eY(x:Str):S x.cps.toList=x:=by cases x;rfl
theorem B7{a b:List Nat}(h:S a=S b):a=b:=by
 have:=congrArg (fun x:Str=>x.cps.toList) h
 simpa[S]using this
theorem sL(l:List Nat):(S l).length=l.length:=by simp[S,Str.length]
inductive V where
 |none
 |bool (b:Bool)
 |int (i:Int)
 |str (l:List Nat)
 |tup (l:List V)
 |lst (l:List V)
 |ref (n:Nat)
 |rng (a b c:Int)
 |lam (args:Arguments) (body:Expr) (scope:Scope)
 |cst (v:Value)
 |opq (a:Addr)
noncomputable abbrev af:=List (Str×NameKind)
noncomputable abbrev fP:=List (Str×Option V)
structure gN where
 name:Str
 args:Arguments
 body:Expr
 scope:Scope
 up:Nat
structure Fr where
 names:af
 vars:fP
 lam:Bool
 up:Nat
 clo:Option gN
noncomputable def ss(o:Option (Option V)):Option V:=match o with
 |some v=>v
 |none=>none
noncomputable def Fr.get(f:Fr)(x:Str):Option V:=ss (f.vars.lookup x)
inductive aT where
 |list (l:List V)
 |iter (l:List V)
 |tab
 |dS (l:List (List Nat×V))
 |dead
noncomputable abbrev Oj:=List aT
inductive C where
 |obj (a:Addr)
 |tab (a:Addr)
noncomputable def C.addr:C→Addr
 |.obj a=>a
 |.tab a=>a
structure FP where
 names:af
 L:Addr
 cells:List (Str×Addr)
 lam:Bool
 up:Nat
noncomputable def FP.addrs(p:FP):List Addr:=p.L::p.cells.map (·.2)
structure Pl where
 fr:List FP
 ob:List C
 hid:List Addr
noncomputable def Pl.mt(κ:Pl):List Addr:=κ.fr.flatMap FP.addrs++(κ.hid++κ.ob.map C.addr)
theorem Pl.mt_ob{κ:Pl}{i:Nat}{c:C}(h:κ.ob[i]? =some c):c.addr∈κ.mt:=mem_append_right _ (mem_append_right _ (mem_map_of_mem (mem_of_getElem? h)))
theorem Pl.mt_hid{κ:Pl}{a:Addr}(h:a∈κ.hid):a∈κ.mt:=mem_append_right _ (mem_append_left _ h)
theorem Pl.mt_fr{κ:Pl}{i:Nat}{p:FP}{b:Addr}(h:κ.fr[i]? =some p)(hb:b∈p.addrs):b∈κ.mt:=mem_append_left _ (mem_flatMap.mpr ⟨p,mem_of_getElem? h,hb⟩)
noncomputable def cW:List FP→Nat→Str→Option Addr
 |[],_,_=>none
 |_::r,k+1,x=>cW r k x
 |p::r,0,x=>match p.names.lookup x with
  |some .cell=>p.cells.lookup x
  |some .free=>cW r p.up x
  |_=>none
theorem Bj{p:FP}{r:List FP}{x:Str}(h:p.names.lookup x=some .cell):cW (p::r) 0 x=p.cells.lookup x:=by
 show(match p.names.lookup x with
  |some .cell=>p.cells.lookup x
  |some .free=>cW r p.up x
  |_=>none)=_
 rw[h]
theorem Bi{p:FP}{r:List FP}{x:Str}(h:p.names.lookup x=some .free):cW (p::r) 0 x=cW r p.up x:=by
 show(match p.names.lookup x with
  |some .cell=>p.cells.lookup x
  |some .free=>cW r p.up x
  |_=>none)=_
 rw[h]
inductive kc (h:Heap) (κ:Pl) (cv:Value):Prop
 |mk (c:Addr) (oc:Obj) (vs:Array Value) (q:Str) (t:Tok) (e:cv=.ref c) (n:c∉κ.mt) (g:h.get? c=some oc) (d:oc.data=.fields vs∧vs[1]? =some (.str q t))
structure tz (h:Heap) (κ:Pl) (args:Arguments) (body:Expr) (scope:Scope) (cl:List (Str×Addr)) (o:Obj) (fd:FuncData):Prop where
 data:o.data=.func fd
 params:fd.params=args
 bd:fd.body=.expr body
 sc:fd.scope=scope
 glob:fd.globals=mainGlobals
 blt:fd.builtins=builtinsNs
 dfl:fd.defaults=.none
 kwd:fd.kwdefaults=.none
 clos:fd.closure=cl
 code:kc h κ fd.code
 cls:o.cls=.type "function"
noncomputable def vj(h:Heap)(a:Addr)(items:Array Value):Prop:=∃n,h.get? a=some { cls:=.type "tuple",data:=.seq items n }
theorem vj.isTup{h:Heap}{a:Addr}{items:Array Value}(x:vj h a items):IsTup h a items:=by obtain⟨n,e⟩:=x;exact⟨_,e,rfl,n,rfl⟩
theorem vj.isTuple{h:Heap}{a:Addr}{items:Array Value}(x:vj h a items):h.IsTuple a items:=by obtain⟨n,e⟩:=x;exact⟨_,e,rfl,n,rfl⟩
inductive JU (P:Addr→Array Value→Prop) (κ:Pl) (cv:Value) (Q:List Value→Prop):Prop
 |mk (a:Addr) (aA:Array Value) (e:cv=.ref a) (p:P a aA) (n:a∉κ.mt) (q:Q aA.toList)
inductive LK (h:Heap) (κ:Pl) (x y z:Int) (cv:Value):Prop
 |mk (a:Addr) (t1 t2 t3:Tok) (e:cv=.ref a) (n:a∉κ.mt) (g:h.get? a=some { cls:=.type "range",dict:=none,data:=.fields #[.int x t1,.int y t2,.int z t3],slots:= #[] })
inductive LL (h:Heap) (κ:Pl) (args:Arguments) (body:Expr) (scope:Scope) (cv:Value):Prop
 |mk (a:Addr) (o:Obj) (fd:FuncData) (e:cv=.ref a) (n:a∉κ.mt) (g:h.get? a=some o) (l:tz h κ args body scope [] o fd)
inductive Jc (A:Value→Prop) (B:List Value→Prop) (cvs:List Value):Prop
 |mk (cv:Value) (r:List Value) (e:cvs=cv::r) (a:A cv) (b:B r)
mutual
noncomputable def RV(h:Heap)(κ:Pl):V→Value→Prop
 |.none,cv=>cv=.none
 |.bool b,cv=>cv=.bool b
 |.int i,cv=>∃t,cv=.int i t
 |.str l,cv=>∃t,cv=.str (S l) t
 |.tup l,cv=>JU (vj h) κ cv (fun r=>ag h κ l r)
 |.lst l,cv=>JU h.PlainList κ cv (fun r=>ag h κ l r)
 |.ref n,cv=>∃a,cv=.ref a∧κ.ob[n]? =some (.obj a)
 |.rng x y z,cv=>LK h κ x y z cv
 |.lam args body scope,cv=>LL h κ args body scope cv
 |.cst v,cv=>cv=v
 |.opq a,cv=>cv=.ref a∧a∉κ.mt∧∃o fd,h.get? a=some o∧o.data=.func fd
noncomputable def ag(h:Heap)(κ:Pl):List V→List Value→Prop
 |[],cvs=>cvs=[]
 |v::l,cvs=>Jc (fun cv=>RV h κ v cv) (fun r=>ag h κ l r) cvs
end
section
variable {h:Heap} {κ:Pl}
theorem lQ:ag h κ [] []:=rfl
theorem jd{v:V}{l:List V}{cv:Value}{r:List Value}(a:RV h κ v cv)(b:ag h κ l r):ag h κ (v::l) (cv::r):=⟨cv,r,rfl,a,b⟩
theorem de:∀{l:List V} {r:List Value},ag h κ l r→l.length=r.length
 |[],_,e=>congrArg length e.symm
 |v::l,_,q2=>by obtain⟨cv,r,e,_,b⟩:=q2;exact(congrArg (· +1) (de b)).trans (congrArg length e.symm)
theorem eF:∀{l l':List V} {r r':List Value},ag h κ l r→ag h κ l' r'→ag h κ (l++l') (r++r')
 |[],l',_,r',rfl,e'=>e'
 |v::l,l',_,r',q4,e'=>by obtain⟨cv,r,rfl,a,b⟩:=q4;exact⟨cv,r++r',rfl,a,eF b e'⟩
theorem eE:∀{l:List V} {r:List Value} {k:Nat} {v:V},ag h κ l r→l[k]? =some v→∃cv,r[k]? =some cv∧RV h κ v cv
 |v::l,_,0,_,q4,rfl=>by obtain⟨cv,r,rfl,a,b⟩:=q4;exact⟨cv,rfl,a⟩
 |v::l,_,k+1,_,q4,e=>by obtain⟨cv,r,rfl,a,b⟩:=q4;exact eE (k:=k) b e
theorem nT:∀{l:List V} {r:List Value} (k:Nat),ag h κ l r→ag h κ (l.take k) (r.take k)
 |l,r,0,_=>rfl
 |[],_,_+1,rfl=>rfl
 |v::l,_,k+1,q3=>by obtain⟨cv,r,rfl,a,b⟩:=q3;exact⟨cv,r.take k,rfl,a,nT k b⟩
theorem jc:∀{l:List V} {r:List Value} (k:Nat),ag h κ l r→ag h κ (l.drop k) (r.drop k)
 |l,r,0,e=>e
 |[],_,_+1,rfl=>rfl
 |v::l,_,k+1,q3=>by obtain⟨cv,r,rfl,a,b⟩:=q3;exact jc k b
end
noncomputable def kx(h:Heap)(κ:Pl):Option V→Option Value→Prop
 |none,none=>True
 |some v,some cv=>RV h κ v cv
 |_,_=>False
theorem kx.some{h:Heap}{κ:Pl}{v:V}{o:Option Value}(r:kx h κ (some v) o):∃cv,o=some cv∧RV h κ v cv:=match o,r with
 |.some cv,r=>⟨cv,rfl,r⟩
noncomputable def hY(h:Heap)(κ:Pl):Option V→Option Value→Prop
 |none,_=>True
 |some v,some cv=>RV h κ v cv
 |some _,none=>False
theorem hY.some{h:Heap}{κ:Pl}{v:V}{o:Option Value}(r:hY h κ (some v) o):∃cv,o=some cv∧RV h κ v cv:=match o,r with
 |.some cv,r=>⟨cv,rfl,r⟩
noncomputable def DA(w:World){K:Type}[DecidableEq K](knd:(p:Program)→KeyKind p w K)(h:Heap)(a:Addr)(kvs:List (K×Value)):Prop:=∀p,h.DictAt (knd p) a kvs kvs.length
theorem DA.keep{w:World}{K:Type}[DecidableEq K]{knd:(p:Program)→KeyKind p w K}{h h':Heap}{a:Addr}{kvs:List (K×Value)}(x:DA w knd h a kvs)(own:∀o,h.get? a=some o→h'.get? a=some o):DA w knd h' a kvs:=
 fun p=>(by obtain⟨o,es,ho,r⟩:=x p;exact⟨o,es,own o ho,r⟩)
noncomputable def y9{K K':Type}(h:Heap)(κ:Pl)(f:K→K')(l:List (K×V))(kvs:List (K'×Value)):Prop:=kvs.map (·.1)=l.map (fun x=>f x.1)∧ag h κ (l.map (·.2)) (kvs.map (·.2))
inductive Mf (h:Heap) (κ:Pl) (l:List V) (a:Addr):Prop
 |mk (aA:Array Value) (p:h.PlainList a aA) (v:ag h κ l aA.toList)
inductive Mh (h:Heap) (κ:Pl) (l:List V) (a:Addr):Prop
 |mk (b:Addr) (k:Nat) (aA:Array Value) (i:h.IsListIter a b k) (p:h.PlainList b aA) (n:b∉κ.mt) (v:ag h κ l (aA.toList.drop k))
inductive Mc (h:Heap) (κ:Pl) (a:Addr):Prop
 |mk (ps:Array Value) (g:h.get? a=some (tabObj ps)) (t:TriplesOk ps.toList) (c:∀pos cv,codeAmong pos ps.toList=some cv→kc h κ cv)
noncomputable def gM(w:World)(h:Heap)(κ:Pl):aT→C→Prop
 |.list l,.obj a=>Mf h κ l a
 |.tab,.tab a=>Mc h κ a
 |.iter l,.obj a=>Mh h κ l a
 |.dS l,.obj a=>∃kvs,DA w (fun p=>strKind p w) h a kvs∧y9 h κ S l kvs
 |.dead,.obj _=>True
 |_,_=>False
inductive zB (h:Heap) (κ:Pl) (f:Fr) (p:FP) (c:gN):Prop
 |mk (a:Addr) (r:List FP) (o:Obj) (fd:FuncData) (cl:List (Str×Addr)) (g:f.get c.name=some (.opq a)) (l:f.names.lookup c.name=some .local) (s:p::r <:+κ.fr) (n:a∉κ.mt) (e:h.get? a=some o) (i:tz h κ c.args c.body c.scope cl o fd)
  (x:∀x,(x,NameKind.free)∈c.scope.names→∃b,cl.lookup x=some b∧cW (p::r) c.up x=some b)
inductive Jd (h:Heap) (κ:Pl) (g:Option V) (p:FP) (x:Str):Prop
 |mk (c:Addr) (cv:Option Value) (l:p.cells.lookup x=some c) (i:h.IsCell c cv) (o:hY h κ g cv)
structure bZ (h:Heap) (κ:Pl) (f:Fr) (p:FP):Prop where
 nm:f.names=p.names
 lm:f.lam=p.lam
 loc:∃m,h.Ns p.L m∧∀x,f.names.lookup x=some .local→hY h κ (f.get x) (m x)
 cell:∀x,f.names.lookup x=some .cell→Jd h κ (f.get x) p x
 up:f.up=p.up
 clo:∀c,f.clo=some c→zB h κ f p c
structure bj (h:Heap) (κ:Pl) (h':Heap) (κ':Pl):Prop where
 pre:κ.ob <+:κ'.ob
 keep:∀b o,h.get? b=some o→b∉κ.mt→h'.get? b=some o
 fresh:∀b∈κ'.mt,b∉κ.mt→h.get? b=none
section
variable {h h' h'':Heap} {κ κ' κ'':Pl}
theorem bj.refl(h:Heap)(κ:Pl):bj h κ h κ:=⟨prefix_rfl,fun _ _ e _=>e,fun _ a b=>absurd a b⟩
theorem bj.off(x:bj h κ h' κ'){b:Addr}{o:Obj}(hb:h.get? b=some o)(hn:b∉κ.mt):b∉κ'.mt:=fun hm=>nomatch (x.fresh b hm hn).symm.trans hb
theorem bj.trans(x:bj h κ h' κ')(y:bj h' κ' h'' κ''):bj h κ h'' κ'' where
 pre:=x.pre.trans y.pre
 keep b o hb hn:=y.keep b o (x.keep b o hb hn) (x.off hb hn)
 fresh b hm hn:=Classical.byContradiction fun hb=>
  match hq:h.get? b with
  |none=>hb hq
  |some o=>match Classical.em (b∈κ'.mt)with
   |.inl h1=>hb (x.fresh b h1 hn)
   |.inr h1=>nomatch (x.keep b o hq hn).symm.trans (y.fresh b hm h1)
theorem bj.grow(k:∀b o,h.get? b=some o→h'.get? b=some o):bj h κ h' κ:=⟨prefix_rfl,fun b o e _=>k b o e,fun _ p q=>absurd p q⟩
theorem cR{α:Type}{l l':List α}(p:l <+:l'){i:Nat}{c:α}(e:l[i]? =some c):l'[i]? =some c:=by
 obtain⟨t,rfl⟩:=p
 rw[getElem?_append_left (List.getElem?_eq_some_iff.mp e).1];exact e
theorem be(x:bj h κ h' κ'){cv:Value}(r:kc h κ cv):kc h' κ' cv:=
 by obtain⟨c,oc,vs,q,t,e,a,b,r⟩:=r;exact⟨c,oc,vs,q,t,e,x.off b a,x.keep _ _ b a,r⟩
mutual
theorem rM(x:bj h κ h' κ'):∀{v:V} {cv:Value},RV h κ v cv→RV h' κ' v cv
 |.none,_,e=>e
 |.bool _,_,e=>e
 |.int _,_,e=>e
 |.str _,_,e=>e
 |.tup l,_,q2=>by obtain⟨a,aA,e,⟨o,ho⟩,ha,m⟩:=q2;exact⟨a,aA,e,⟨o,x.keep _ _ ho ha⟩,x.off ho ha,iT x m⟩
 |.lst l,_,q2=>by obtain⟨a,aA,e,⟨o,ho⟩,ha,m⟩:=q2;exact⟨a,aA,e,⟨o,x.keep _ _ ho ha⟩,x.off ho ha,iT x m⟩
 |.ref n,_,q2=>by obtain⟨a,e,hi⟩:=q2;exact⟨a,e,cR x.pre hi⟩
 |.rng _ _ _,_,q2=>by obtain⟨a,t1,t2,t3,e,ha,ho⟩:=q2;exact⟨a,t1,t2,t3,e,x.off ho ha,x.keep _ _ ho ha⟩
 |.lam _ _ _,_,q2=>by obtain⟨a,o,fd,e,ha,ho,l⟩:=q2;exact⟨a,o,fd,e,x.off ho ha,x.keep _ _ ho ha,{ l with code:=be x l.code }⟩
 |.cst _,_,e=>e
 |.opq _,_,q2=>by obtain⟨e,ha,o,fd,ho,hd⟩:=q2;exact⟨e,x.off ho ha,o,fd,x.keep _ _ ho ha,hd⟩
theorem iT(x:bj h κ h' κ'):∀{l:List V} {r:List Value},ag h κ l r→ag h' κ' l r
 |[],_,e=>e
 |_::_,_,q2=>by obtain⟨cv,r,e,a,b⟩:=q2;exact⟨cv,r,e,rM x a,iT x b⟩
end
theorem fj(x:bj h κ h' κ'):∀{v:Option V} {cv:Option Value},hY h κ v cv→hY h' κ' v cv
 |none,_,_=>trivial
 |some _,some _,r=>rM x r
theorem cZ{α:Type}{x:Str}{c:α}:∀{l:List (Str×α)},l.lookup x=some c→(x,c)∈l
 |(y,d)::l,e=>by
  rw[lookup_cons]at e
  split at e
  ·rename_i hx
   obtain rfl:=sI e
   rw[eq_of_beq hx];exact mem_cons_self ..
  ·exact mem_cons_of_mem _ (cZ e)
theorem eL{w:World}(x:bj h κ h' κ'){o:aT}{c:C}(own:∀ob,h.get? c.addr=some ob→h'.get? c.addr=some ob)(r:gM w h κ o c):gM w h' κ' o c:=match o,c,r with
 |.list l,.obj a,q2=>by obtain⟨aA,⟨n,ho⟩,hv⟩:=q2;exact⟨aA,⟨n,own _ ho⟩,iT x hv⟩
 |.tab,.tab a,q2=>by obtain⟨ps,h1,h2,h3⟩:=q2;exact⟨ps,own _ h1,h2,fun p cv e=>be x (h3 p cv e)⟩
 |.dS l,.obj a,q2=>by obtain⟨kvs,hd,e,hv⟩:=q2;exact⟨kvs,hd.keep own,e,iT x hv⟩
 |.dead,.obj a,_=>trivial
 |.iter l,.obj a,q2=>by obtain⟨b,k,aA,⟨ob,ho,rest⟩,⟨ol,hol⟩,hb,hv⟩:=q2;exact⟨b,k,aA,⟨ob,own ob ho,rest⟩,⟨ol,x.keep b _ hol hb⟩,x.off hol hb,iT x hv⟩
theorem pC(x:bj h κ h' κ'){f:Fr}{p:FP}{c:gN}(sf:∀r,p::r <:+κ.fr→p::r <:+κ'.fr)(y:zB h κ f p c):zB h' κ' f p c:=
 by obtain⟨a,r,o,fd,cl,h1,h2,h3,h4,h5,h6,h7⟩:=y;exact⟨a,r,o,fd,cl,h1,h2,sf r h3,x.off h5 h4,x.keep _ _ h5 h4,{ h6 with code:=be x h6.code },h7⟩
theorem cD(x:bj h κ h' κ'){f:Fr}{p:FP}(sf:∀r,p::r <:+κ.fr→p::r <:+κ'.fr)(own:∀b∈p.addrs,∀ob,h.get? b=some ob→h'.get? b=some ob)(r:bZ h κ f p):bZ h' κ' f p where
 nm:=r.nm
 lm:=r.lm
 loc:=by obtain⟨m,⟨ob,es,ep,ho,rest⟩,hl⟩:=r.loc;exact⟨m,⟨ob,es,ep,own _ (mem_cons_self ..) ob ho,rest⟩,fun y hy=>fj x (hl y hy)⟩
 cell y hy:=by obtain⟨c,cv,h1,⟨ob,ho,hd⟩,h3⟩:=r.cell y hy;exact⟨c,cv,h1,⟨ob,own c (mem_cons_of_mem _ (mem_map_of_mem (cZ h1))) ob ho,hd⟩,fj x h3⟩
 up:=r.up
 clo c hc:=pC x sf (r.clo c hc)
end
structure cS (w:World) (h0:Heap) (κ:Pl) (F:List Fr) (O:Oj) (h:Heap):Prop where
 len:κ.ob.length=O.length
 flen:κ.fr.length=F.length
 base:∀a o,h0.get? a=some o→h.get? a=some o
 off:∀a∈κ.mt,h0.get? a=none
 nd:κ.mt.Nodup
 ex:∀a∈κ.mt,∃o,h.get? a=some o
 objs:∀(i:Nat) (o:aT) (c:C),O[i]? =some o→κ.ob[i]? =some c→gM w h κ o c
 frs:∀(i:Nat) (f:Fr) (p:FP),F[i]? =some f→κ.fr[i]? =some p→bZ h κ f p
 tab:∀p:Addr,p<h0.objs.size→h0.get? p=none→∃k:Nat,κ.ob[k]? =some (.tab p)
mutual
noncomputable def V.pure:V→Bool
 |.tup l=>d0 l
 |.lst l=>d0 l
 |.ref _=>false
 |_=>true
noncomputable def d0:List V→Bool
 |[]=>true
 |v::l=>v.pure&&d0 l
end
mutual
noncomputable def V.under(b:Nat):V→Bool
 |.tup l=>dz b l
 |.lst l=>dz b l
 |.ref n=>decide (n<b)
 |_=>true
noncomputable def dz(b:Nat):List V→Bool
 |[]=>true
 |v::l=>v.under b&&dz b l
end
noncomputable def aT.Under(b:Nat):aT→Prop
 |.list l=>dz b l=true
 |.iter l=>dz b l=true
 |.tab=>True
 |.dS l=>dz b (l.map (·.2))=true
 |.dead=>True
noncomputable def bv(b:Nat)(O O':Oj):Prop:=∀(i:Nat) (o:aT),i<b→O[i]? =some o→∃o',O'[i]? =some o'∧∀m,o.Under m→o'.Under m
theorem bv.refl(b:Nat)(O:Oj):bv b O O:=fun i o _ e=>⟨o,e,fun _ h=>h⟩
theorem bv.trans{b:Nat}{O O' O'':Oj}(x:bv b O O')(y:bv b O' O''):bv b O O'':=fun i o hi e=>
 (by obtain⟨_,e',k⟩:=x i o hi e;exact(by obtain⟨o'',e'',k'⟩:=y i _ hi e';exact⟨o'',e'',fun m h=>k' m (k m h)⟩))
noncomputable def am(s s':Shared):Prop:=s'.gens=s.gens∧s'.os=s.os∧s'.drawn=s.drawn
structure xa (w:World) (h0:Heap) (b:Nat) (FR:List FP) (κ:Pl) (O:Oj) (s:Shared) (κ':Pl) (F':List Fr) (O':Oj) (s':Shared):Prop where
 rel:cS w h0 κ' F' O' s'.heap
 ext:bj s.heap κ s'.heap κ'
 frs:κ'.fr=FR
 rest:am s s'
 mono:bv b O O'
 hid:∀a∈κ.hid,a∈κ'.hid∧∀o,s.heap.get? a=some o→s'.heap.get? a=some o
noncomputable abbrev Go(w:World)(h0:Heap)(b:Nat)(κ:Pl):=xa w h0 b κ.fr κ
theorem Go.refl{w:World}{h0:Heap}{b:Nat}{κ:Pl}{F:List Fr}{O:Oj}{s:Shared}(R:cS w h0 κ F O s.heap):Go w h0 b κ O s κ F O s:=⟨R,bj.refl _ _,rfl,⟨rfl,rfl,rfl⟩,bv.refl _ _,fun _ h=>⟨h,fun _ e=>e⟩⟩
theorem xa.trans{w:World}{h0:Heap}{b:Nat}{FR:List FP}{κ κ1 κ2:Pl}{F1 F2:List Fr}{O O1 O2:Oj}{s s1 s2:Shared}(x:xa w h0 b FR κ O s κ1 F1 O1 s1)(y:Go w h0 b κ1 O1 s1 κ2 F2 O2 s2):xa w h0 b FR κ O s κ2 F2 O2 s2:=
 ⟨y.rel,x.ext.trans y.ext,y.frs.trans x.frs,⟨y.rest.1.trans x.rest.1,y.rest.2.1.trans x.rest.2.1,y.rest.2.2.trans x.rest.2.2⟩,x.mono.trans y.mono,fun a h=>⟨(y.hid a (x.hid a h).1).1,fun o e=>(y.hid a (x.hid a h).1).2 o ((x.hid a h).2 o e)⟩⟩
theorem cS.grow{w:World}{h0:Heap}{κ:Pl}{F:List Fr}{O:Oj}{h h':Heap}(R:cS w h0 κ F O h)(k:∀b o,h.get? b=some o→h'.get? b=some o):cS w h0 κ F O h':=
 { R with base:=fun a o e=>k a o (R.base a o e),ex:=fun a ha=>(by obtain⟨o,ho⟩:=R.ex a ha;exact⟨o,k a o ho⟩),objs:=fun i o c e e'=>eL (bj.grow k) (fun ob hb=>k _ ob hb) (R.objs i o c e e'),frs:=fun i f p e e'=>cD (bj.grow k) (fun _ z=>z) (fun b _ ob hb=>k b ob hb) (R.frs i f p e e') }
theorem Go.grow{w:World}{h0:Heap}{b:Nat}{κ:Pl}{F:List Fr}{O:Oj}{s s':Shared}(R:cS w h0 κ F O s.heap)(k:∀b o,s.heap.get? b=some o→s'.heap.get? b=some o)(r:am s s'):Go w h0 b κ O s κ F O s':=⟨R.grow k,bj.grow k,rfl,r,bv.refl _ _,fun a h=>⟨h,fun o e=>k a o e⟩⟩
set_option backward.match.sparseCases true
section
variable {a:Int}
set_option backward.match.sparseCases false
structure CH where
 params:Arguments
 body:List Stmt
 scope:Scope
 dfl:List V
 kwd:List (Str×V)
structure qR where
 names:List (Str×V)
 fns:List (Addr×CH)
 tabs:List (Addr×List (Int×List Nat))
 sets:List (Addr×List Int)
inductive Fl where
 |next|brk|cont
 |ret (v:V)
noncomputable def lO(n:Nat):Bool:=decide (n≤1000000)
noncomputable def cm(i:Int):Bool:=decide (i.natAbs<2^4000)
noncomputable def lA(O:Oj)(n:Nat):Option (List V):=match O[n]? with
 |some o=>(match o with
  |.list l=>some l
  |_=>none)
 |none=>none
noncomputable def cI(O:Oj)(n:Nat):Option (List (V×V)):=match O[n]? with
 |some o=>(match o with
  |.dS l=>some (l.map fun e=>(.str e.1,e.2))
  |_=>none)
 |none=>none
noncomputable def x5{K:Type}[DecidableEq K](l:List (K×V))(k:K)(v:V):List (K×V):=if l.any (fun e=>decide (e.1=k))then l.map fun e=>if e.1=k then(e.1,v)else e else l++[(k,v)]
noncomputable def getD{K:Type}[DecidableEq K](l:List (K×V))(k:K):Option V:=(l.find? fun e=>decide (e.1=k)).map (·.2)
noncomputable def Cd(O:Oj)(n:Nat)(k v:V):Option Oj:=match O[n]? with
 |some o=>(match o with
  |.dS l=>(match k with
   |.str x=>if lO l.length then some (O.set n (.dS (x5 l x v)))else none
   |_=>none)
  |_=>none)
 |none=>none
noncomputable def dN(O:Oj)(n:Nat)(k:V):Option (Option V):=match O[n]? with
 |some o=>(match o with
  |.dS l=>(match k with
   |.str x=>some (getD l x)
   |_=>none)
  |_=>none)
 |none=>none
noncomputable def iO(O:Oj)(v:V):Option (List V):=match v with
 |.lst l=>some l
 |.ref n=>lA O n
 |_=>none
noncomputable def fR(f:V→V→Option Bool):List V→List V→Option Bool
 |[],[]=>some true
 |a::l,b::r=>(f a b).bind fun x=>(fR f l r).map fun y=>x&&y
 |_,_=>none
noncomputable def Jq(O:Oj)(f:V→V→Option Bool)(l:List V)(b:V):Option Bool:=(iO O b).bind fun r=>if l.length==r.length then fR f l r else some false
noncomputable def gt(a b:V):Option Bool:=match a with
 |.none=>(match b with|.none=>some true|_=>none)
 |.bool a=>(match b with|.bool b=>some (a==b)|_=>none)
 |.int a=>(match b with|.int b=>some (decide (a=b))|_=>none)
 |.str a=>(match b with|.str b=>some (decide (a=b))|_=>none)
 |_=>none
noncomputable def dq(O:Oj):Nat→V→V→Option Bool
 |0,_,_=>none
 |n+1,a,b=>match a with
  |.tup a=>(match b with|.tup b=>if a.length==b.length then fR (dq O n) a b else none|_=>none)
  |.lst l=>Jq O (dq O n) l b
  |.ref k=>(lA O k).bind fun l=>Jq O (dq O n) l b
  |a=>gt a b
noncomputable def ff(n step:Int)(v:Option Int)(dflt:Int):Int:=match v with
 |none=>dflt
 |some i=>
  let i:=if i<0 then i+n else i
  if step>0 then max 0 (min i n)else max (-1) (min i (n-1))
noncomputable def av(lo hi st:Option Int)(len:Nat):Option (List Nat):=
 let step:=st.getD 1
 if step==0 then none else
 let n:Int:=len
 some (sliceRange (ff n step lo (if step>0 then 0 else n-1)) (ff n step hi (if step>0 then n else -1)) step)
noncomputable def aO{α:Type}(l:List α)(is:List Nat):List α:=is.filterMap fun i=>l[i]?
noncomputable def cH(x y:List Nat)(lo hi:Nat):Int:=match Builtin.Str.occurrences (S x) (S y) lo hi 1 with
 |i::_=>(i:Int)
 |[]=> -1
noncomputable def d4(n:Nat)(v:Int):Nat:=(max 0 (if v<0 then v+n else v)).toNat
noncomputable def oA:List V→Option (List (List Nat))
 |[]=>some []
 |v::r=>match v with
  |.str l=>(oA r).map (l:: ·)
  |_=>none
noncomputable def kP:List V→Option (List Int)
 |[]=>some []
 |v::r=>match v with
  |.int i=>(kP r).map (i:: ·)
  |_=>none
noncomputable def fo(O:Oj)(v:V):Option Bool:=match v with
 |.none=>some false
 |.bool b=>some b
 |.int i=>some (decide (i≠0))
 |.str l=>if lO l.length then some (!l.isEmpty)else none
 |.lst l=>if lO l.length then some (!l.isEmpty)else none
 |.ref n=>(lA O n).bind fun l=>if lO l.length then some (!l.isEmpty)else none
 |_=>none
noncomputable def dC(b n:Nat)(v:V):Bool:=decide (b≤n)||v.pure
noncomputable def pj(a c:V)(f:Int→Int→Option V):Option V:=match a with
 |.int x=>(match c with|.int y=>f x y|_=>none)
 |_=>none
noncomputable def HB(O:Oj)(l:List V)(c:V):Option V:=(iO O c).bind fun r=>if lO (l.length+r.length)then some (.lst (l++r))else none
noncomputable def LI(O:Oj)(a c:V):Option V:=match a with
 |.int x=>(match c with|.int y=>some (.int (x+y))|_=>none)
 |.str x=>(match c with|.str y=>if lO (x.length+y.length)then some (.str (x++y))else none|_=>none)
 |.tup x=>(match c with|.tup y=>if !x.isEmpty&& !y.isEmpty&&lO (x.length+y.length)then some (.tup (x++y))else none|_=>none)
 |.lst l=>HB O l c
 |.ref n=>(lA O n).bind fun l=>HB O l c
 |_=>none
noncomputable def GH(l:List V)(y:Int):Option V:=if 0≤y&&y<1000&&lO (l.length*y.toNat)then some (.lst ((replicate y.toNat l).flatten))else none
noncomputable def Kj(O:Oj)(a c:V):Option V:=match c with
 |.int y=>(match a with
  |.int x=>if cm x&&cm y then some (.int (x*y))else none
  |.str x=>if 0≤y&&y<1000&&lO (x.length*y.toNat)then some (.str ((replicate y.toNat x).flatten))else none
  |.lst l=>GH l y
  |.ref n=>(lA O n).bind fun l=>GH l y
  |_=>none)
 |_=>none
noncomputable def dA(O:Oj)(op:Operator)(a c:V):Option V:=match op with
 |.Add=>LI O a c
 |.Mult=>Kj O a c
 |.Sub=>pj a c fun x y=>some (.int (x-y))
 |.FloorDiv=>pj a c fun x y=>if y>0&&cm y then some (.int (x/y))else none
 |.Mod=>pj a c fun x y=>if y>0 then some (.int (x%y))else none
 |.Pow=>pj a c fun x y=>if(x==2||x==3||x==4||x==10||x==64)&&0≤y&&y<600 then some (.int (x^y.toNat))else none
 |.LShift=>pj a c fun x y=>if 0≤x&&0≤y&&y<64&&cm x then some (.int (x*2^y.toNat))else none
 |.BitAnd=>pj a c fun x y=>if 0≤x&&0≤y then some (.int ((x.toNat&&& y.toNat:Nat):Int))else none
 |.BitOr=>pj a c fun x y=>if 0≤x&&0≤y then some (.int ((x.toNat|||y.toNat:Nat):Int))else none
 |.BitXor=>pj a c fun x y=>if 0≤x&&0≤y then some (.int ((x.toNat ^^^ y.toNat:Nat):Int))else none
 |_=>none
noncomputable def Ki(v:V):Option V:=match v with
 |.int i=>if cm i then some (.int (-i))else none
 |_=>none
noncomputable def isNone(v:V):Option Bool:=match v with
 |.none=>some true
 |.cst _=>none
 |.rng _ _ _=>none
 |_=>some false
noncomputable def K0(a c:V):Option Bool:=match c with
 |.none=>isNone a
 |.bool d=>(match a with
  |.bool e=>some (e==d)
  |.none=>some false
  |_=>none)
 |_=>none
noncomputable def gQ:List V→V→Option Bool
 |[],_=>some false
 |x::l,v=>(gt x v).bind fun t=>(gQ l v).map fun u=>t||u
noncomputable def IP(G:qR)(O:Oj)(x c:V):Option Bool:=match c with
 |.str l=>(match x with
  |.str y=>some (!(Builtin.Str.occurrences (S l) (S y) 0 l.length 1).isEmpty)
  |_=>none)
 |.lst l=>gQ l x
 |.ref n=>(lA O n).bind fun l=>gQ l x
 |.cst d=>(match d with
  |.ref a=>(G.sets.lookup a).bind fun l=>(match x with
   |.int i=>if 0≤i&&i.toNat<2^60 then some (l.contains i)else none
   |_=>none)
  |_=>none)
 |_=>none
noncomputable def CG(G:qR)(O:Oj)(x c:V):Option Bool:=match c with
 |.ref n=>(match dN O n x with
  |some r=>some r.isSome
  |none=>IP G O x c)
 |c=>IP G O x c
noncomputable def gP(v:V):Option (V×V):=match v with
 |.tup l=>(match l with
  |[]=>none
  |x::l=>(match l with
   |[]=>none
   |y::l=>(match l with
    |[]=>some (x,y)
    |_=>none)))
 |_=>none
noncomputable def Ko(a c:Int)(y u:V):Option Bool:=match y with
 |.int b=>(match u with|.int d=>some (decide (a<c)||(decide (a=c)&&decide (b<d)))|_=>none)
 |.bool _=>(match u with|.bool _=>if a=c then none else some (decide (a<c))|_=>none)
 |_=>none
noncomputable def Jn(a c:V):Option Bool:=(gP a).bind fun p=>(gP c).bind fun q=>match p.1 with
 |.int a=>(match q.1 with
  |.int c=>Ko a c p.2 q.2
  |_=>none)
 |_=>none
noncomputable def kQ(a c:V)(f:Int→Int→Bool):Option Bool:=match a with
 |.int x=>(match c with|.int y=>some (f x y)|_=>none)
 |_=>none
noncomputable def Kn(a c:V):Option Bool:=match gP a with
 |some p=>(gP c).bind fun q=>(kQ p.1 q.1 fun x y=>decide (x≠y)).bind fun t=>if t then kQ p.1 q.1 fun x y=>decide (x<y)else none
 |none=>kQ a c fun x y=>decide (x<y)
noncomputable def i5(G:qR)(O:Oj)(op:CmpOp)(a c:V):Option Bool:=match op with
 |.Eq=>dq O 9 a c
 |.NotEq=>(dq O 9 a c).map (!·)
 |.Lt=>Kn a c
 |.LtE=>kQ a c fun x y=>decide (x≤y)
 |.Gt=>kQ a c fun x y=>decide (x>y)
 |.GtE=>kQ a c fun x y=>decide (x≥y)
 |.Is=>K0 a c
 |.IsNot=>(K0 a c).map (!·)
 |.In=>CG G O a c
 |.NotIn=>(CG G O a c).map (!·)
noncomputable def dr(v:V):Option (Option Int):=match v with
 |.none=>some none
 |.int i=>some (some i)
 |_=>none
noncomputable def DZ(k:Int):Bool:=decide (k.natAbs<2^60)
noncomputable def uE(l:List V)(k:Int):Option V:=if DZ k then(seqIndex? k l.length).bind (l[·]?)else none
noncomputable def mj(O:Oj)(c i:V):Option V:=match i with
 |.int k=>(match c with
  |.tup l=>uE l k
  |.lst l=>uE l k
  |.ref n=>(lA O n).bind fun l=>uE l k
  |.str l=>if DZ k then(seqIndex? k l.length).bind fun j=>(l[j]?).map fun c=>.str [c]else none
  |_=>none)
 |_=>none
noncomputable def cN(O:Oj)(c i:V):Option V:=match c with
 |.ref n=>(match dN O n i with
  |some r=>r
  |none=>mj O c i)
 |c=>mj O c i
noncomputable def Cu(O:Oj)(b:Nat)(d k v:V):Option Oj:=match d with
 |.ref n=>if dC b n v then Cd O n k v else none
 |_=>none
noncomputable def qa(l:List V)(lo hi:Option Int):Option V:=match lo with
 |some a=>if 1≤a&&a.toNat≤l.length&&hi.isNone&&lO l.length then some (.tup (l.drop a.toNat))else none
 |none=>match hi with
  |some c=>if 0≤c&&c.toNat<l.length&&lO l.length then some (.tup (l.take c.toNat))else none
  |none=>none
noncomputable def cT(O:Oj)(c lo hi st:V):Option V:=
 (dr lo).bind fun lo=>(dr hi).bind fun hi=>(dr st).bind fun st=>match c with
  |.str l=>if lO l.length&&st.isNone then(av lo hi st l.length).map fun is=>.str (aO l is)else none
  |.lst l=>if lO l.length then(av lo hi st l.length).map fun is=>.lst (aO l is)else none
  |.tup l=>if st.isNone then qa l lo hi else none
  |.ref n=>(lA O n).bind fun l=>if lO l.length then(av lo hi st l.length).map fun is=>.lst (aO l is)else none
  |_=>none
noncomputable def ul:List Str→Bool
 |[]=>true
 |x::r=> !r.contains x&&ul r
noncomputable def nQ(allowed:List Str):List (Str×V)→List (Str×V)→Option (List (Str×V))
 |slots,[]=>some slots
 |slots,e::r=>if allowed.contains e.1&&(slots.lookup e.1).isNone then nQ allowed (slots++[e]) r else none
noncomputable def tY:List (Str×V)→List (Str×V)→List (Str×V)
 |slots,[]=>slots
 |slots,e::r=>if(slots.lookup e.1).isNone then tY (slots++[e]) r else tY slots r
noncomputable def gJ(kwd:List (Str×V)):List (Str×V)→List Str→Option (List (Str×V))
 |slots,[]=>some slots
 |slots,n::r=>if(slots.lookup n).isNone then(kwd.lookup n).bind fun v=>gJ kwd (slots++[(n,v)]) r else gJ kwd slots r
noncomputable def fC(ps:Arguments)(dfl:List V)(kwd:List (Str×V))(pos:List V)(kw:List (Str×V)):Option (List (Str×V)):=
 let normal:=ps.args.map (·.arg)
 let kwonly:=ps.kwonlyargs.map (·.arg)
 if ps.posonlyargs.isEmpty&&ps.vararg.isNone&&ps.kwarg.isNone&&decide (pos.length≤normal.length)&&ul (normal++kwonly)then
  (nQ (normal++kwonly) (normal.zip pos) kw).bind fun slots=>
   let d:=dfl.drop (dfl.length-normal.length)
   let fd:=normal.length-d.length
   if((normal.take fd).filter fun n=>(slots.lookup n).isNone).isEmpty then
    (gJ kwd (tY slots ((normal.drop fd).zip d)) kwonly).map fun slots=>(normal++kwonly).filterMap fun n=>(slots.lookup n).map (n,·)
   else none
 else none
noncomputable def fG(names:af)(vars:List (Str×V)):Bool:=vars.all fun x=>names.lookup x.1==some .local||names.lookup x.1==some .cell
noncomputable def cB(O:Oj)(b:Nat):Nat→V→Option V
 |0,_=>none
 |n+1,v=>match v with
  |.ref k=>if k<b then some v else(lA O k).bind fun l=>(l.mapM (cB O b n)).map .lst
  |.tup l=>(l.mapM (cB O b n)).map .tup
  |.lst l=>(l.mapM (cB O b n)).map .lst
  |v=>some v
noncomputable def leave(b:Nat)(v:V)(O:Oj):Option V:=cB O b 4 v
noncomputable def l4(a b c:Int):Bool:=decide (a.natAbs<2^60)&&decide (b.natAbs<2^60)&&c==1||(a==6&&b== -1&&c== -1)
theorem oO(h:a.natAbs<2^60): -(2^62)≤a∧a<2^62:=⟨Int.le_trans (by decide) (Int.le_of_lt (nA h).1),Int.lt_trans (nA h).2 (by decide)⟩
theorem kK{b c:Int}(h:l4 a b c=true):Builtin.Range.small a b c=true:=by
 rcases or_eq_true_iff.mp h with h|h
 ·obtain⟨h,h3⟩:=and_eq_true_iff.mp h
  obtain⟨h1,h2⟩:=and_eq_true_iff.mp h
  have n1:=oO (of_decide_eq_true h1)
  have n2:=oO (of_decide_eq_true h2)
  obtain rfl:=eq_of_beq h3
  exact small_one n1.1 n1.2 n2.1 n2.2
 ·obtain⟨h,h3⟩:=and_eq_true_iff.mp h
  obtain⟨h1,h2⟩:=and_eq_true_iff.mp h
  obtain rfl:=eq_of_beq h1
  obtain rfl:=eq_of_beq h2
  obtain rfl:=eq_of_beq h3
  decide
noncomputable def bG(a b c:Int):List Int:=(List.range (Builtin.Range.rangeSize a b c).toNat).map fun(k:Nat)=>a+k*c
inductive gV where
 |items (l:List V)
 |live (n:Nat) (k:Nat)
 |keys (n:Nat) (k:Nat) (m:Nat)
noncomputable def gb(O:Oj)(v:V):Option gV:=match v with
 |.lst l=>some (.items l)
 |.tup l=>some (.items l)
 |.str l=>some (.items (l.map fun c=>.str [c]))
 |.rng a b c=>if l4 a b c&&lO (bG a b c).length then some (.items ((bG a b c).map .int))else none
 |.ref n=>(match lA O n with
  |some _=>some (.live n 0)
  |none=>(cI O n).map fun l=>.keys n 0 l.length)
 |_=>none
noncomputable def gB(O:Oj)(s:gV):Option (Option (V×gV)):=match s with
 |.items l=>(match l with
  |[]=>some none
  |v::l=>some (some (v,.items l)))
 |.live n k=>(lA O n).map fun l=>(l[k]?).map fun v=>(v,.live n (k+1))
 |.keys n k m=>(cI O n).bind fun l=>if l.length=m then some ((l[k]?).map fun e=>(e.1,.keys n (k+1) m))else none
noncomputable def yE(a b:Int):Int:=if b<a then b else a
noncomputable def pT{α:Type}(f:Nat→Nat→Option Bool):KasT α→Option α
 |.ret a=>some a
 |.ask i j k=>(f i j).bind fun c=>pT f (k c)
noncomputable def rG(v:V):Bool:=match gP v with
 |some p=>(match p.1 with
  |.int _=>(match p.2 with|.int _=>true|.bool _=>true|_=>false)
  |_=>false)
 |none=>false
noncomputable def Aj(l:List V)(i j:Nat):Option Bool:=(l[i]?).bind fun a=>(l[j]?).bind fun b=>Jn a b
noncomputable def kE(l:List V):Option (List V):=if l.all rG then(pT (Aj l) (kas_sort l.length)).bind fun p=>if p.toList.all (fun i=>decide (i<l.length))then some (aO l p.toList)else none else none
noncomputable def nP(O:Oj)(v:V):Option (List V):=match v with
 |.str l=>some (l.map fun c=>.str [c])
 |.rng a b c=>if l4 a b c&&lO (bG a b c).length then some ((bG a b c).map .int)else none
 |v=>iO O v
noncomputable def DR(O:Oj)(v:V):Option V:=match v with
 |.str l=>if lO l.length then some (.int l.length)else none
 |.lst l=>if lO l.length then some (.int l.length)else none
 |.ref n=>(lA O n).bind fun l=>if lO l.length then some (.int l.length)else none
 |_=>none
noncomputable def yL(O:Oj)(v:V):Option V:=match v with
 |.ref n=>(match cI O n with
  |some l=>if lO l.length then some (.int l.length)else none
  |none=>DR O v)
 |v=>DR O v
noncomputable def one(a:List V)(f:V→Option (V×Oj)):Option (V×Oj):=match a with
 |[v]=>f v
 |_=>none
noncomputable def fE(v:V)(f:Int→Option (V×Oj)):Option (V×Oj):=match v with
 |.int i=>f i
 |_=>none
noncomputable def nM(v:V)(f:List Nat→Option (V×Oj)):Option (V×Oj):=match v with
 |.str i=>f i
 |_=>none
noncomputable abbrev Fn:=List V→Oj→Option (V×Oj)
noncomputable def I8:Fn:=fun a O=>one a fun v=>(yL O v).map fun r=>(r,O)
noncomputable def I5:Fn:=fun a O=>one a fun v=>(iO O v).bind fun l=>(kP l).bind fun is=>if is.all (fun i=>decide (0≤i))&&decide (is.sum.toNat<2^62)&&lO l.length then some (.int is.sum,O)else none
noncomputable def E9:Fn:=fun a O=>one a fun v=>match v with
 |.lst l=>some (.ref O.length,O++[.iter l])
 |_=>none
noncomputable def gw(O:Oj)(n:Nat):Option (List V):=match O[n]? with
 |some o=>(match o with
  |.iter l=>some l
  |_=>none)
 |none=>none
noncomputable def E8:Fn:=fun a O=>one a fun v=>match v with
 |.ref n=>(gw O n).bind fun l=>match l with
  |v::l=>some (v,O.set n (.iter l))
  |[]=>none
 |_=>none
noncomputable def JA:Fn:=fun a O=>one a fun v=>fE v fun i=>if 0≤i&&(i.toNat<55000||ble 60000 i.toNat&&i.toNat<1000000)then some (.str [i.toNat],O)else none
noncomputable def I6:Fn:=fun a O=>one a fun v=>nM v fun l=>match l with
 |[c]=>some (.int c,O)
 |_=>none
noncomputable def I9:Fn:=fun a O=>one a fun v=>fE v fun i=>if 0≤i&&i.toNat<2^64 then some (.str (48::120::(toDigits 16 i.toNat).map Char.toNat),O)else none
noncomputable def two(a:List V)(f:V→V→Option (V×Oj)):Option (V×Oj):=match a with
 |[u,v]=>f u v
 |_=>none
noncomputable def I7:Fn:=fun a O=>two a fun u v=>fE u fun x=>fE v fun y=>some (.int (yE x y),O)
noncomputable def xQ:Fn:=fun a O=>one a fun v=>(iO O v).bind fun l=>if 1≤l.length&&l.length<64 then(kE l).map fun r=>(.lst r,O)else none
noncomputable def cq(id:Str)(a:List V)(b:Nat)(O:Oj):Option (V×Oj):=
 if id==("len":Str)then I8 a O
 else if id==("sum":Str)then I5 a O
 else if id==("iter":Str)then E9 a O
 else if id==("next":Str)then E8 a O
 else if id==("chr":Str)then JA a O
 else if id==("ord":Str)then I6 a O
 else if id==("hex":Str)then I9 a O
 else if id==("min":Str)then I7 a O
 else if id==("sorted":Str)then xQ a O
 else none
noncomputable def FQ:Fn:=fun a O=>match a with
 |[v]=>fE v fun y=>if cm y then some (.rng 0 y 1,O)else none
 |[u,v]=>fE u fun x=>fE v fun y=>if cm x&&cm y then some (.rng x y 1,O)else none
 |[u,v,t]=>fE u fun x=>fE v fun y=>fE t fun z=>if cm x&&cm y&&(z==1||z== -1)then some (.rng x y z,O)else none
 |_=>none
noncomputable def jV(O:Oj)(v:V):Option Nat:=match v with
 |.ref n=>(gw O n).bind fun l=>if l.isEmpty then some n else none
 |_=>none
noncomputable def HV:Fn:=fun a O=>one a fun v=>match jV O v with
 |some n=>some (.ref O.length,O.set n .dead++[.list []])
 |none=>(nP O v).bind fun l=>if lO l.length then some (.ref O.length,O++[.list l])else none
noncomputable def d5(id:Str)(a:List V)(b:Nat)(O:Oj):Option (V×Oj):=
 if id==("range":Str)then FQ a O
 else if id==("list":Str)then HV a O
 else none
noncomputable def Ae(x:List Nat):Fn:=fun a O=>match a with
 |[]=>if lO x.length&&lO (Builtin.Str.spaceWords (S x) (x.length+1)).length then some (.ref O.length,O++[.list ((Txt.words (S x)).map fun p=>.str p.cps.toList)])else none
 |[v]=>nM v fun y=>if !y.isEmpty&&lO x.length&&lO (Builtin.Str.partsBetween (S x) (Builtin.Str.occurrences (S x) (S y) 0 x.length (x.length+1)) y.length).length then some (.ref O.length,O++[.list ((Txt.split (S x) (S y)).map fun p=>.str p.cps.toList)])else none
 |_=>none
noncomputable def Ah(x:List Nat):Fn:=fun a O=>one a fun v=>(iO O v).bind fun l=>(oA l).bind fun ts=>if JoinOk (S x) (ts.map S)then some (.str (Txt.join (S x) (ts.map S)).cps.toList,O)else none
noncomputable def wn(x:List Nat):Fn:=fun a O=>one a fun v=>nM v fun y=>some (.bool (Txt.startswith (S x) (S y)),O)
noncomputable def Ee(x:List Nat):Fn:=fun a O=>one a fun v=>nM v fun y=>some (.bool (Txt.endswith (S x) (S y)),O)
set_option backward.match.sparseCases true
noncomputable def Ed(x:List Nat):Fn:=fun a O=>match a with
 |[v]=>nM v fun y=>some (.int (cH x y 0 x.length),O)
 |[v,i,j]=>nM v fun y=>fE i fun i=>fE j fun j=>some (.int (cH x y (d4 x.length i) (min (d4 x.length j) x.length)),O)
 |_=>none
set_option backward.match.sparseCases false
noncomputable def Af(x:List Nat):Fn:=fun a O=>match a with
 |[]=>if lO (Txt.lower (S x)).length then some (.str (Txt.lower (S x)).cps.toList,O)else none
 |_=>none
noncomputable def Eb(name:Str)(x:List Nat)(a:List V)(O:Oj):Option (V×Oj):=
 if name==("split":Str)then Ae x a O
 else if name==("join":Str)then Ah x a O
 else if name==("startswith":Str)then wn x a O
 else if name==("endswith":Str)then Ee x a O
 else if name==("find":Str)then Ed x a O
 else if name==("lower":Str)then Af x a O
 else none
noncomputable def DW(n:Nat)(l:List V)(b:Nat):Fn:=fun a O=>one a fun v=>if dC b n v&&lO l.length then some (.none,O.set n (.list (l++[v])))else none
noncomputable def DV(n:Nat)(l:List V)(b:Nat):Fn:=fun a O=>two a fun i v=>fE i fun i=>if 0≤i&&i≤l.length&&dC b n v&&lO l.length then some (.none,O.set n (.list (l.take i.toNat++v::l.drop i.toNat)))else none
noncomputable def sD(name:Str)(n:Nat)(l:List V)(a:List V)(b:Nat)(O:Oj):Option (V×Oj):=
 if name==("append":Str)then DW n l b a O
 else if name==("insert":Str)then DV n l b a O
 else none
noncomputable def nZ(es:List (Int×List Nat))(i:Int)(d:V):V:=match es.lookup i with
 |some x=>.str x
 |none=>d
noncomputable def Ea(G:qR)(name:Str)(ad:Addr)(a:List V):Option V:=
 if name==("get":Str)then(G.tabs.lookup ad).bind fun es=>match a with
  |[v]=>(match v with|.int i=>if 0≤i&&i.toNat<2^60 then some (nZ es i .none)else none|_=>none)
  |[v,d]=>(match v with|.int i=>if 0≤i&&i.toNat<2^60 then some (nZ es i d)else none|_=>none)
  |_=>none
 else none
set_option backward.match.sparseCases true
end
section
variable {t:Bool} {A:Prop}
inductive Ln {α:Type} (o:Option α) (Q:α→Prop):Prop where
 |mk (v:α) (h:o=some v) (q:Q v):Ln o Q
noncomputable def Lf{α:Type}(o:Option α)(Q:α→Prop):Prop:=match o with
 |some v=>Q v
 |none=>False
theorem Lf.out{α:Type}{o:Option α}{Q:α→Prop}(h:Lf o Q):Ln o Q:=match o,h with
 |some v,h=>⟨v,rfl,h⟩
theorem Lf.of{α:Type}{o:Option α}{Q:α→Prop}{v:α}(h:o=some v)(q:Q v):Lf o Q:=by subst h;exact q
noncomputable def uT(t:Bool)(A B:Prop):Prop:=match t with
 |true=>A
 |false=>B
noncomputable def Gd(t:Bool)(A:Prop):Prop:=match t with
 |true=>A
 |false=>False
theorem Gd.out(h:Gd t A):t=true∧A:=match t,h with
 |true,h=>⟨rfl,h⟩
structure WI where
 e:Expr→List Fr→Nat→(V→Oj→Prop)→Oj→Prop
 l:Expr→List Fr→Nat→(V→Oj→Prop)→Oj→Prop
 t:Expr→List Fr→Nat→(Bool→Oj→Prop)→Oj→Prop
 s:Stmt→List Fr→Nat→(Fl→List Fr→Oj→Prop)→Oj→Prop
 c:V→List V→List (Str×V)→Nat→(V→Oj→Prop)→Oj→Prop
 k:V→List V→List (Str×V)→Str→gN→List Fr→Nat→(V→Oj→Prop)→Oj→Prop
 lv:Nat
noncomputable def WI.bot:WI:=⟨fun _ _ _ _ _=>False,fun _ _ _ _ _=>False,fun _ _ _ _ _=>False,fun _ _ _ _ _=>False,fun _ _ _ _ _ _=>False,fun _ _ _ _ _ _ _ _ _=>False,0⟩
noncomputable def dM:List Fr→Nat→Str→Option V
 |[],_,_=>none
 |_::r,k+1,x=>dM r k x
 |f::r,0,x=>(f.names.lookup x).bind fun k=>match k with
  |.cell=>f.get x
  |.free=>dM r f.up x
  |_=>none
noncomputable def pn(G:qR)(F:List Fr)(x:Str):Option V:=match F with
 |[]=>none
 |f::r=>(f.names.lookup x).bind fun k=>match k with
  |.local=>f.get x
  |.cell=>f.get x
  |.free=>dM r f.up x
  |.globalImplicit=>G.names.lookup x
  |_=>none
noncomputable def dF:fP→Str→V→fP
 |[],x,v=>[(x,some v)]
 |e::r,x,v=>if e.1==x then(x,some v)::r else e::dF r x v
noncomputable def C3(k:Option NameKind):Bool:=match k with
 |some .local=>true
 |some .cell=>true
 |_=>false
noncomputable def pW(names:af)(vars:List (Str×V)):fP:=vars.map (fun x=>(x.1,some x.2))++(names.filter fun x=>C3 (some x.2)&&(vars.lookup x.1).isNone).map fun x=>(x.1,none)
noncomputable def Ew(c:Option gN)(x:Str):Option gN:=match c with
 |some c=>if c.name==x then some c else none
 |none=>none
noncomputable def fZ(F:List Fr)(x:Str):Option gN:=match F with
 |[]=>none
 |f::_=>if f.names.lookup x==some .local then Ew f.clo x else none
noncomputable def pL(F:List Fr)(x:Str):Option V:=match F with
 |[]=>none
 |f::_=>f.get x
noncomputable def vm(F:List Fr)(c:gN):Option (List Fr):=match F with
 |[]=>none
 |f::r=>if f.names.lookup c.name==some .local then some (⟨f.names,f.vars,f.lam,f.up,some c⟩::r)else none
noncomputable def e9(c:Option gN)(x:Str):Option gN:=match c with
 |some c=>if c.name==x then none else some c
 |none=>none
noncomputable def bn(F:List Fr)(x:Str)(v:V):Option (List Fr):=match F with
 |[]=>none
 |f::r=>if C3 (f.names.lookup x)then some (⟨f.names,dF f.vars x v,f.lam,f.up,e9 f.clo x⟩::r)else none
set_option backward.match.sparseCases false
noncomputable def ge:List Fr→List Expr→List V→Option (List Fr)
 |F,[],[]=>some F
 |F,e::r,v::vs=>(match e with
  |.Name x _=>(bn F x v).bind fun F1=>ge F1 r vs
  |_=>none)
 |_,_,_=>none
noncomputable def dG(F:List Fr)(t:Expr)(v:V):Option (List Fr):=match t with
 |.Name x _=>bn F x v
 |.Tuple es _ _=>(match v with
  |.tup vs=>ge F es vs
  |_=>none)
 |_=>none
noncomputable def bA:List Expr→Bool
 |[]=>true
 |e::r=>match e with
  |.Starred _ _=>false
  |_=>bA r
noncomputable def ui(es:List Expr):Bool:=bA es&&decide (es.length≤1000)
noncomputable def jk(x:Str):Bool:= !(x==("__debug__":Str)||x==("__classdict__":Str))
noncomputable def EY(e:Expr):Bool:=match e with
 |.Set _ _ _=>false
 |_=>true
noncomputable def dw(names:af):Bool:= !names.any (fun x=>x.2== .free)
noncomputable def zr(e:Expr):Bool:=match e with
 |.Call f args ks _=>(match f with
  |.Name _ _=> !(args.isEmpty&&ks.isEmpty)
  |_=>true)
 |_=>true
set_option backward.match.sparseCases true
noncomputable def dh(sc:Scope):Bool:=sc.kind== .function&& !sc.isGenerator&& !sc.isCoroutine&&sc.names.all fun x=>x.2== .free||x.2== .globalImplicit||(x.2== .local||x.2== .cell)&&sc.names.lookup x.1==some x.2
noncomputable def vP(F:List Fr)(x:Str):Bool:=match F with
 |[]=>false
 |f::_=>match f.names.lookup x with
  |some .cell=>true
  |some .free=>true
  |_=>false
noncomputable def mu(F:List Fr)(names:af):Bool:=names.all fun x=>x.2 != .free||vP F x.1
noncomputable def pX(args:Arguments)(sc:Scope):Bool:=args.defaults.isEmpty&&args.kw_defaults.isEmpty&&args.posonlyargs.isEmpty&&args.kwonlyargs.isEmpty&&args.vararg.isNone&&args.kwarg.isNone&&dh sc
noncomputable def EV(args:Arguments)(sc:Scope):Bool:=pX args sc&& !sc.names.any (fun x=>x.2== .free)
noncomputable def iG(F:List Fr):Bool:=F.all fun f=> !f.lam
noncomputable def i0(F:List Fr)(x:Str):Option NameKind:=match F with
 |[]=>none
 |f::_=>f.names.lookup x
noncomputable def bR(kind:Str→Option NameKind)(line:Nat)(ts:List Expr):List Str:=ts.filterMap fun t=>match t with
 |.Name id pos=>if kind id==some .local&&pos.line==line then some id else none
 |_=>none
noncomputable def EO(vs:List Expr):Bool:=vs.any fun e=>match e with
 |.Starred .. =>true
 |_=>false
noncomputable def EK(kind:Str→Option NameKind)(ts:List Expr)(e:Expr):Option (Option (List Str)):=match e with
 |.Tuple vs _ _=>
  if !(ts.length==2||ts.length==3)||vs.length != ts.length then some none
  else if EO vs then some none
  else
   if(bR kind ((ts.head?.map (·.pos.line)).getD 0) ts).length != ts.length||(bR kind ((ts.head?.map (·.pos.line)).getD 0) ts).eraseDups.length != (bR kind ((ts.head?.map (·.pos.line)).getD 0) ts).length then some none
   else if vs.all (foldedForSure 8)then some none
   else if vs.all (constantsAlone 8)then none
   else some (some (bR kind ((ts.head?.map (·.pos.line)).getD 0) ts))
 |_=>some none
set_option backward.match.sparseCases false
noncomputable def oK(F:List Fr)(ts:List Expr):Bool:=ts.all fun t=>match t with
 |.Name x _=>C3 (i0 F x)
 |_=>true
noncomputable def lj(F:List Fr):List Str→List V→Option (List Fr)
 |[],[]=>some F
 |x::r,v::vs=>(bn F x v).bind fun F1=>lj F1 r vs
 |_,_=>none
noncomputable def fI(e:Expr):Bool:=match e with
 |.ListComp .. =>false
 |.SetComp .. =>false
 |.DictComp .. =>false
 |_=>true
set_option backward.match.sparseCases true
noncomputable def pU(O:Oj)(m:Nat)(v:V):Option Oj:=(lA O m).bind fun l=>if lO l.length then some (O.set m (.list (l++[v])))else none
section
variable (G:qR) (J:WI)
noncomputable def uI(f:Expr→List Fr→Nat→(V→Oj→Prop)→Oj→Prop):List Expr→List Fr→Nat→(List V→Oj→Prop)→Oj→Prop
 |[],_,_,Q,O=>Q [] O
 |e::r,F,b,Q,O=>f e F b (fun v O1=>uI f r F b (fun vs O2=>Q (v::vs) O2) O1) O
noncomputable def uJ(e:Option Expr)(F:List Fr)(b:Nat)(Q:V→Oj→Prop)(O:Oj):Prop:=match e with
 |none=>Q .none O
 |some e=>J.e e F b Q O
noncomputable def HX:List Keyword→List Fr→Nat→(List (Str×V)→Oj→Prop)→Oj→Prop
 |[],_,_,Q,O=>Q [] O
 |k::r,F,b,Q,O=>match k.arg with
  |some n=>J.e k.value F b (fun v O1=>HX r F b (fun vs O2=>Q ((n,v)::vs) O2) O1) O
  |none=>False
noncomputable def FT(op:BoolOp):List Expr→List Fr→Nat→(V→Oj→Prop)→Oj→Prop
 |[],_,_,_,_=>False
 |e::r,F,b,Q,O=>J.e e F b (fun v O1=>match r with
  |[]=>Q v O1
  |_=>Lf (fo O1 v) fun t=>uT (match op with|.And=>t|.Or=> !t) (FT op r F b Q O1) (Q v O1)) O
noncomputable def Jz(op:BoolOp):List Expr→List Fr→Nat→(Bool→Oj→Prop)→Oj→Prop
 |[],_,_,Q,O=>Q (match op with|.And=>true|.Or=>false) O
 |e::r,F,b,Q,O=>J.t e F b (fun t O1=>uT (match op with|.And=>t|.Or=> !t) (Jz op r F b Q O1) (Q t O1)) O
noncomputable def uK(a:V):List CmpOp→List Expr→List Fr→Nat→(Bool→Oj→Prop)→Oj→Prop
 |op::ops,e::es,F,b,Q,O=>Gd (!behindInMarks op e) (J.l e F b (fun v O1=>Lf (i5 G O1 op a v) fun t=>match ops with
  |[]=>Q t O1
  |_=>uT t (uK v ops es F b Q O1) (Q false O1)) O)
 |_,_,_,_,_,_=>False
noncomputable def xs:List Stmt→List Fr→Nat→(Fl→List Fr→Oj→Prop)→Oj→Prop
 |[],F,_,Q,O=>Q .next F O
 |s::r,F,b,Q,O=>J.s s F b (fun f F1 O1=>match f with
  |.next=>xs r F1 b Q O1
  |f=>Q f F1 O1) O
noncomputable def bQ(test:Expr)(body:List Stmt)(b:Nat)(Q:Fl→List Fr→Oj→Prop):Nat→List Fr→Oj→Prop
 |0,_,_=>False
 |n+1,F,O=>J.t test F b (fun t O1=>uT t (xs J body F b (fun f F1 O2=>match f with
  |.next=>bQ test body b Q n F1 O2
  |.cont=>bQ test body b Q n F1 O2
  |.brk=>Q .next F1 O2
  |.ret v=>Q (.ret v) F1 O2) O1) (Q .next F O1)) O
structure FI (test:Expr) (body:List Stmt) (b:Nat) (Q:Fl→List Fr→Oj→Prop) (F:List Fr) (O:Oj):Prop where
 is:bQ J test body b Q 300 F O
noncomputable def fY(tgt:Expr)(body orelse:List Stmt)(b:Nat)(Q:Fl→List Fr→Oj→Prop):Nat→gV→List Fr→Oj→Prop
 |0,_,_,_=>False
 |n+1,src,F,O=>Lf (gB O src) fun x=>match x with
  |none=>xs J orelse F b Q O
  |some p=>Lf (dG F tgt p.1) fun F1=>xs J body F1 b (fun f F2 O2=>match f with
   |.next=>fY tgt body orelse b Q n p.2 F2 O2
   |.cont=>fY tgt body orelse b Q n p.2 F2 O2
   |.brk=>Q .next F2 O2
   |.ret v=>Q (.ret v) F2 O2) O
structure JZ (tgt:Expr) (body orelse:List Stmt) (b:Nat) (Q:Fl→List Fr→Oj→Prop) (src:gV) (F:List Fr) (O:Oj):Prop where
 is:fY J tgt body orelse b Q 300 src F O
noncomputable def CL:List Expr→List Fr→Nat→(Bool→Oj→Prop)→Oj→Prop
 |[],_,_,Q,O=>Q true O
 |e::r,F,b,Q,O=>J.t e F b (fun t O1=>uT t (CL r F b Q O1) (Q false O1)) O
noncomputable def iX(tgt:Expr)(ifs:List Expr)(elt:Expr)(m:Nat)(Q:List Fr→Oj→Prop):Nat→gV→List Fr→Oj→Prop
 |0,_,_,_=>False
 |n+1,src,F,O=>Lf (gB O src) fun x=>match x with
  |none=>Q F O
  |some p=>Lf (dG F tgt p.1) fun F1=>CL J ifs F1 m (fun t O1=>uT t (J.e elt F1 m (fun v O2=>Lf (pU O2 m v) fun O3=>iX tgt ifs elt m Q n p.2 F1 O3) O1) (iX tgt ifs elt m Q n p.2 F1 O1)) O
structure EC (tgt:Expr) (ifs:List Expr) (elt:Expr) (m:Nat) (Q:List Fr→Oj→Prop) (src:gV) (F:List Fr) (O:Oj):Prop where
 is:iX J tgt ifs elt m Q 300 src F O
set_option backward.match.sparseCases false in
noncomputable def vB(e:Expr):Option (Str×Expr):=match e with
 |.Call f args ks _=>(match f with
  |.Name x _=>if x==("enumerate":Str)then(match args with
   |[a]=>if ks.isEmpty then some (x,a)else none
   |_=>none)else none
  |_=>none)
 |_=>none
noncomputable def isTup(e:Expr):Bool:=match e with
 |.Tuple _ _ _=>true
 |_=>false
set_option backward.match.sparseCases false
noncomputable def Ik(v:V):Option gV:=match v with
 |.lst l=>if lO l.length then some (.items (l.zipIdx.map fun y=>.tup [.int y.2,y.1]))else none
 |_=>none
noncomputable def w8(v:V):Bool:=match v with
 |.cst d=>(match d with
  |.type t=>t=="enumerate"
  |_=>false)
 |_=>false
set_option backward.match.sparseCases true
noncomputable def nY(tgt e:Expr)(F:List Fr)(b:Nat)(Q:gV→Oj→Prop)(O:Oj):Prop:=match vB e with
 |some p=>Gd (bA [p.2]&&isTup tgt) (Lf (pn G F p.1) fun f=>Gd (w8 f) (J.l p.2 F b (fun v O1=>Lf (Ik v) fun s=>Q s O1) O))
 |none=>Gd (EY e) (J.l e F b (fun v O1=>Lf (gb O1 v) fun s=>Q s O1) O)
noncomputable def kN(m:Nat)(Q:V→Oj→Prop)(O:Oj):Prop:=Lf (lA O m) fun l=>uT (d0 l) (Q (.lst l) (O.take m)) (Q (.ref m) O)
noncomputable def jz(t1 t2 i2 elt:Expr)(m:Nat)(Q:List Fr→Oj→Prop):Nat→gV→List Fr→Oj→Prop
 |0,_,_,_=>False
 |n+1,src,F,O=>Lf (gB O src) fun x=>match x with
  |none=>Q F O
  |some p=>Lf (dG F t1 p.1) fun F1=>nY G J t2 i2 F1 m (fun s2 O1=>EC J t2 [] elt m (fun F2 O2=>jz t1 t2 i2 elt m Q n p.2 F2 O2) s2 F1 O1) O
structure FN (t1 t2 i2 elt:Expr) (m:Nat) (Q:List Fr→Oj→Prop) (src:gV) (F:List Fr) (O:Oj):Prop where
 is:jz G J t1 t2 i2 elt m Q 300 src F O
noncomputable def J2(g h:Comprehension)(elt:Expr)(scope:Scope)(F:List Fr)(b:Nat)(Q:V→Oj→Prop)(O:Oj):Prop:=Gd (h.is_async==0&&g.ifs.isEmpty&&h.ifs.isEmpty) (nY G J g.target g.iter F b (fun src O1=>FN G J g.target h.target h.iter elt O1.length (fun _=>kN O1.length Q) src (⟨scope.names,pW scope.names [],false,0,none⟩::F) (O1++[.list []])) O)
noncomputable def HZ(elt:Expr)(gs:List Comprehension)(scope:Scope)(F:List Fr)(b:Nat)(Q:V→Oj→Prop)(O:Oj):Prop:=match gs with
 |[]=>False
 |g::r=>Gd (g.is_async==0&&dh scope&&mu F scope.names) (match r with
  |[]=>nY G J g.target g.iter F b (fun src O1=>EC J g.target g.ifs elt O1.length (fun _=>kN O1.length Q) src (⟨scope.names,pW scope.names [],false,0,none⟩::F) (O1++[.list []])) O
  |h::r=>(match r with
   |[]=>J2 G J g h elt scope F b Q O
   |_=>False))
inductive MT where
 |str|list|dict
noncomputable def MT.ty:MT→String
 |.str=>"str"
 |.list=>"list"
 |.dict=>"dict"
set_option backward.match.sparseCases false
noncomputable def lu(G:qR)(O:Oj)(v:V):Option MT:=match v with
 |.str _=>some .str
 |.ref n=>(lA O n).map fun _=>.list
 |.cst d=>(match d with
  |.ref ad=>if(G.tabs.lookup ad).isSome then some .dict else none
  |_=>none)
 |_=>none
set_option backward.match.sparseCases true
noncomputable def dx(name:Str)(T:MT):Option String:=match T with
 |.str=>if name==("split":Str)then some "str.split" else if name==("join":Str)then some "str.join" else if name==("startswith":Str)then some "str.startswith" else if name==("endswith":Str)then some "str.endswith"
  else if name==("find":Str)then some "str.find" else if name==("lower":Str)then some "str.lower" else none
 |.list=>if name==("append":Str)then some "list.append" else if name==("insert":Str)then some "list.insert" else none
 |.dict=>if name==("get":Str)then some "dict.get" else none
set_option backward.match.sparseCases false in
noncomputable def dU(name:Str)(v:V)(a:List V)(b:Nat)(O:Oj):Option (V×Oj):=match v with
 |.str x=>Eb name x a O
 |.ref n=>(lA O n).bind fun l=>sD name n l a b O
 |.cst d=>(match d with
  |.ref ad=>(Ea G name ad a).map fun v=>(v,O)
  |_=>none)
 |_=>none
set_option backward.match.sparseCases false
noncomputable def isStr(v:V):Bool:=match v with
 |.str _=>true
 |_=>false
set_option backward.match.sparseCases true
noncomputable def ED(o:Expr)(name:Str)(apos:Pos)(args:List Expr)(pos:Pos)(F:List Fr)(b:Nat)(Q:V→Oj→Prop)(O:Oj):Prop:=
 Gd (apos.endLine==pos.line&&zr o&&bA args&&decide (args.length<20)) (J.e o F b (fun v O1=>Lf ((lu G O1 v).bind (dx name)) fun _=>uI (match isStr v with|true=>J.l|false=>J.e) args F b (fun a O2=>Lf (dU G name v a b O2) fun r=>Q r.1 r.2) O1) O)
set_option backward.match.sparseCases false
noncomputable def IN(v:V):Option Bool:=match v with
 |.cst d=>(match d with
  |.builtin _=>some false
  |.type _=>some false
  |.ref ad=>if(G.fns.lookup ad).isSome then some true else none
  |_=>none)
 |.lam _ _ _=>some true
 |_=>none
theorem Gd.of(h:t=true)(a:A):Gd t A:=by subst h;exact a
theorem Gd.nil{α:Type}{l:List α}(h:Gd l.isEmpty A):l=[]∧A:=match l,h with
 |[],h=>⟨rfl,h⟩
structure bw (f:V) (a:List V) (ks:List (Str×V)) (b:Nat) (Q:V→Oj→Prop) (O:Oj):Prop where
 is:J.c f a ks b Q O
set_option backward.match.sparseCases true
noncomputable def Ev(n:Str)(c:Option gN)(r:Option (Str×gN)):Option (Str×gN):=match c with
 |some c=>some (n,c)
 |none=>r
noncomputable def BV(F:List Fr)(n:Str)(e:Expr)(r:Option (Str×gN)):Option (Str×gN):=match e with
 |.Name x _=>Ev n (fZ F x) r
 |_=>r
noncomputable def o0(F:List Fr):List Keyword→Option (Str×gN)
 |[]=>none
 |k::r=>(k.arg).bind fun n=>BV F n k.value (o0 F r)
structure xb (f:V) (a:List V) (ks:List (Str×V)) (n:Str) (c:gN) (F:List Fr) (b:Nat) (Q:V→Oj→Prop) (O:Oj):Prop where
 is:J.k f a ks n c F b Q O
noncomputable def J4(c:gN)(args:List Expr)(F:List Fr)(b:Nat)(Q:V→Oj→Prop)(O:Oj):Prop:=
 uI J.e args F b (fun a O1=>Lf (fC c.args [] [] a []) fun vars=>Gd (fG c.scope.names vars&&dh c.scope) (J.e c.body (⟨c.scope.names,pW c.scope.names vars,true,c.up,none⟩::F) O1.length (fun v O2=>Lf (leave O1.length v O2) fun r=>Q r (O2.take O1.length)) O1)) O
noncomputable def pE(o:Option gN)(x:Str)(p:Pos)(args:List Expr)(ks:List Keyword)(F:List Fr)(b:Nat)(Q:V→Oj→Prop)(O:Oj):Prop:=match o with
 |some c=>Gd (bA args&&ks.isEmpty) (J.e (.Name x p) F b (fun v O1=>some v=pL F x∧J4 J c args F b Q O1) O)
 |none=>Gd (bA args&&ks.all fun k=>k.arg.isSome) (J.e (.Name x p) F b (fun v O1=>Lf (IN G v) fun t=>uT t (uI J.e args F b (fun a O2=>HX J ks F b (fun k O3=>match o0 F ks with
  |some e=>xb J v a k e.1 e.2 F b Q O3
  |none=>bw J v a k b Q O3) O2) O1) (Gd ks.isEmpty (uI J.l args F b (fun a O2=>J.c v a [] b Q O2) O1))) O)
set_option backward.match.sparseCases false in
noncomputable def EE(f:Expr)(args:List Expr)(ks:List Keyword)(pos:Pos)(F:List Fr)(b:Nat)(Q:V→Oj→Prop)(O:Oj):Prop:=match f with
 |.Attribute o name apos=>Gd ks.isEmpty (ED G J o name apos args pos F b Q O)
 |.Name x p=>pE G J (fZ F x) x p args ks F b Q O
 |_=>False
set_option backward.match.sparseCases false in
noncomputable def la(e:Expr)(F:List Fr)(b:Nat)(Q:V→Oj→Prop)(O:Oj):Prop:=match e with
 |.Constant c _ _=>(match c with
  |.none=>Q .none O
  |.bool c=>Q (.bool c) O
  |.int i=>Q (.int i) O
  |.str x=>Q (.str x.cps.toList) O
  |_=>False)
 |.Name x _=>Gd (jk x) (Lf (pn G F x) fun v=>Q v O)
 |.BoolOp op vs _=>FT J op vs F b Q O
 |.BinOp l op r _=>J.l l F b (fun x O1=>J.l r F b (fun y O2=>Lf (dA O2 op x y) fun v=>Q v O2) O1) O
 |.UnaryOp op x _=>(match op with
  |.Not=>J.e x F b (fun v O1=>Lf (fo O1 v) fun t=>Q (.bool (!t)) O1) O
  |.USub=>J.e x F b (fun v O1=>Lf (Ki v) fun u=>Q u O1) O
  |_=>False)
 |.IfExp t x y _=>J.t t F b (fun c O1=>uT c (J.e x F b Q O1) (J.e y F b Q O1)) O
 |.Lambda args body scope _=>Gd (EV args scope&&iG F) (Q (.lam args body scope) O)
 |.List es _=>Gd (ui es) (uI J.l es F b (fun vs O1=>Q (.ref O1.length) (O1++[.list vs])) O)
 |.Tuple es _ _=>Gd (ui es) (uI J.e es F b (fun vs O1=>Q (.tup vs) O1) O)
 |.Dict ks vs _=>Gd (ks.isEmpty&&vs.isEmpty) (Q (.ref O.length) (O++[.dS []]))
 |.ListComp elt gs scope _=>HZ G J elt gs scope F b Q O
 |.Compare l ops rs _=>(match ops with
  |[op]=>(match rs with
   |[r]=>Gd (!behindInMarks op r) (J.l l F b (fun x O1=>J.l r F b (fun y O2=>Lf (i5 G O2 op x y) fun t=>Q (.bool t) O2) O1) O)
   |_=>False)
  |_=>False)
 |.Call f args ks pos=>EE G J f args ks pos F b Q O
 |.Subscript v i _=>(match i with
  |.Slice lo hi st _=>J.e v F b (fun x O1=>uJ J lo F b (fun l O2=>uJ J hi F b (fun h O3=>uJ J st F b (fun s O4=>Lf (cT O4 x l h s) fun r=>Q r O4) O3) O2) O1) O
  |i=>J.e v F b (fun x O1=>J.e i F b (fun y O2=>Lf (cN O2 x y) fun r=>Q r O2) O1) O)
 |_=>False
set_option backward.match.sparseCases false in
noncomputable def zS(e:Expr)(F:List Fr)(b:Nat)(Q:V→Oj→Prop)(O:Oj):Prop:=match e with
 |.List es _=>Gd (ui es) (uI J.l es F b (fun vs O1=>Q (.lst vs) O1) O)
 |e=>la G J e F b Q O
set_option backward.match.sparseCases false in
noncomputable def v0(e:Expr)(F:List Fr)(b:Nat)(Q:Bool→Oj→Prop)(O:Oj):Prop:=match e with
 |.UnaryOp op x _=>(match op with
  |.Not=>J.t x F b (fun t O1=>Q (!t) O1) O
  |_=>la G J e F b (fun v O1=>Lf (fo O1 v) fun t=>Q t O1) O)
 |.BoolOp op vs _=>Jz J op vs F b Q O
 |.IfExp t x y _=>J.t t F b (fun c O1=>uT c (J.t x F b Q O1) (J.t y F b Q O1)) O
 |.Compare l ops rs _=>Gd (ops.length==rs.length) (J.l l F b (fun v O1=>uK G J v ops rs F b Q O1) O)
 |e=>la G J e F b (fun v O1=>Lf (fo O1 v) fun t=>Q t O1) O
set_option backward.match.sparseCases false
noncomputable def Fq(v:V):Bool:=match v with
 |.none=>true
 |.int _=>true
 |.bool _=>true
 |.str _=>true
 |_=>false
set_option backward.match.sparseCases true
set_option backward.match.sparseCases false in
noncomputable def HY(es:List Expr)(e:Expr)(F:List Fr)(v:V):Option (List Fr):=
 if oK F es then(EK (i0 F) es e).bind fun sw=>match v with
  |.tup vs=>(match sw with
   |none=>ge F es vs
   |some names=>if vs.length==names.length then lj F names.reverse vs.reverse else none)
  |_=>none
 else none
set_option backward.match.sparseCases false
noncomputable def yk(O:Oj)(o i:V):Option Oj:=match o with
 |.ref n=>(match i with
  |.int k=>(lA O n).bind fun l=>if lO l.length&&DZ k then(seqIndex? k l.length).map fun j=>O.set n (.list (l.eraseIdx j))else none
  |_=>none)
 |_=>none
set_option backward.match.sparseCases true
set_option backward.match.sparseCases false in
noncomputable def Br(O:Oj)(op:Operator)(a c:V):Option V:=match a with
 |.int _=>(match c with
  |.int _=>dA O op a c
  |_=>none)
 |_=>none
set_option backward.match.sparseCases false in
noncomputable def CM(t:Expr)(e:Expr)(F:List Fr)(b:Nat)(Q:Fl→List Fr→Oj→Prop)(O:Oj):Prop:=match t with
 |.Name x _=>(match e with
  |.ListComp elt gs scope _=>HZ G J elt gs scope F b (fun v O1=>Lf (bn F x v) fun F1=>Q .next F1 O1) O
  |.Lambda args body scope q=>uT (!scope.names.any (fun x=>x.2== .free)) (J.e (.Lambda args body scope q) F b (fun v O1=>Lf (bn F x v) fun F1=>Q .next F1 O1) O)
   (Gd (pX args scope&&iG F&&mu F scope.names) (∀a,Lf (bn F x (.opq a)) fun F1=>Lf (vm F1 ⟨x,args,body,scope,0⟩) fun F2=>Q .next F2 O))
  |e=>Gd (fI e) (J.e e F b (fun v O1=>Lf (bn F x v) fun F1=>Q .next F1 O1) O))
 |.Tuple es _ _=>Gd (fI e) (J.e e F b (fun v O1=>Lf (HY es e F v) fun F1=>Q .next F1 O1) O)
 |.Subscript o i _=>Gd (fI e) (J.e e F b (fun v O1=>J.e o F b (fun d O2=>J.e i F b (fun k O3=>Lf (Cu O3 b d k v) fun O4=>Q .next F O4) O2) O1) O)
 |_=>False
noncomputable def me(F:List Fr)(x:Str):Bool:=match F with
 |f::_=>f.names.lookup x==some .globalImplicit
 |_=>false
noncomputable def J1:WI:=⟨la G WI.bot,zS G WI.bot,v0 G WI.bot,fun _ _ _ _ _=>False,fun _ _ _ _ _ _=>False,fun _ _ _ _ _ _ _ _ _=>False,1⟩
set_option backward.match.sparseCases false in
noncomputable def GW(v:V):Bool:=match v with
 |.cst d=>(match d with
  |.ref ad=>(G.fns.lookup ad).isSome
  |_=>false)
 |_=>false
section
variable (F:List Fr) (b:Nat) (Q:Oj→Prop) (O:Oj)
inductive RC (R:V→List V→List (Str×V)→(Oj→Prop)→Oj→Prop):Expr→Prop
 |mk {x:Str} {p pos:Pos} {args:List Expr} {ks:List Keyword} (h:Gd (bA args&&ks.all fun k=>k.arg.isSome) (J.e (.Name x p) F b (fun v O1=>Gd (GW G v) (uI J.e args F b (fun a O2=>HX J ks F b (fun k O3=>R v a k Q O3) O2) O1)) O)):RC R (.Call (.Name x p) args ks pos)
inductive RF (B:List Stmt→List Fr→Nat→(Oj→Prop)→Oj→Prop) (a:List V) (ks:List (Str×V)):V→Prop
 |mk {ad:Addr} (h:Lf (G.fns.lookup ad) fun fi=>Lf (fC fi.params fi.dfl fi.kwd a ks) fun vars=>Gd (fG fi.scope.names vars&&dw fi.scope.names) (B fi.body [⟨fi.scope.names,pW fi.scope.names vars,false,0,none⟩] O.length Q O)):RF B a ks (.cst (.ref ad))
inductive R2 (c:Str):List Stmt→Prop
 |mk {t:Expr} {q p1 p2 p3 pos:Pos} {k:Nat} {x y r:List Stmt} (h1:me F ("ValueError":Str)=true) (h2:G.names.lookup ("ValueError":Str)=some (.cst (.type "ValueError"))) (h:v0 G (J1 G) t F b (fun u O1=>u=true∧Q O1) O):R2 c (.If t (.Raise (some (.Call (.Name ("ValueError":Str) q) [.Constant (.str c) k p1] [] p2)) none p3::x) y pos::r)
inductive RA (c:Str):List Stmt→Prop
 |mk {x:Str} {p pos:Pos} {e:Expr} {r:List Stmt} (h:RC G J F b Q O (fun v a k Q O=>RF G Q O (fun l F b Q O=>R2 G F b Q O c l) a k v) e):RA c (.Assign [.Name x p] e pos::r)
inductive R1 (c:Str):List Stmt→Prop
 |mk {t:Expr} {x y r:List Stmt} {pos:Pos} (h:J.t t F b (fun u O1=>uT u (RA G J F b Q O1 c x) (RA G J F b Q O1 c y)) O):R1 c (.If t x y pos::r)
end
noncomputable def EI(F:List Fr)(n:Str):Bool:=match F with
 |f::r=>(match r with
  |[]=>jk n&&f.up==1&&f.names.lookup n==some .local&&(f.get n).isNone
  |_=>false)
 |_=>false
inductive LJ (F:List Fr) (b:Nat) (Q:Fl→List Fr→Oj→Prop) (O:Oj):List Stmt→List ExceptHandler→Prop
 |mk {e:Expr} {ep tq q1 q2 p1 p2 p3 ip hp:Pos} {nm c:Str} {k:Nat} {x r:List Stmt} (h:Gd (EI F nm&&me F ("ValueError":Str)&&me F ("str":Str)&&decide (9≤J.lv)) (G.names.lookup ("ValueError":Str)=some (.cst (.type "ValueError"))∧G.names.lookup ("str":Str)=some (.cst (.type "str"))∧
  RC G J F b (fun O3=>Q .next F O3) O (fun v a k Q O3=>RF G (fun O4=>O4=O3∧Q O3) O3 (fun l F b Q O=>R1 G J F b Q O c l) a k v) e)):LJ F b Q O (.Expr e ep::r) [.ExceptHandler (some (.Name ("ValueError":Str) tq)) (some nm) [.If (.Compare (.Call (.Name ("str":Str) q1) [.Name nm q2] [] p1) [.NotEq] [.Constant (.str c) k p2] p3) x [] ip] hp]
set_option backward.match.sparseCases false in
noncomputable def EL(st:Stmt)(F:List Fr)(b:Nat)(Q:Fl→List Fr→Oj→Prop)(O:Oj):Prop:=match st with
 |.Expr e _=>Gd (fI e) (J.e e F b (fun v O1=>Gd (Fq v) (Q .next F O1)) O)
 |.Pass _=>Q .next F O
 |.Break _=>Q .brk F O
 |.Return e _=>(match e with
  |some e=>J.e e F b (fun v O1=>Q (.ret v) F O1) O
  |none=>False)
 |.Assign ts e _=>(match ts with
  |[t]=>CM G J t e F b Q O
  |_=>False)
 |.AugAssign t op e _=>(match t with
  |.Name x _=>Gd (jk x) (Lf (pn G F x) fun a=>J.e e F b (fun c O1=>Lf (Br O1 op a c) fun v=>Lf (bn F x v) fun F1=>Q .next F1 O1) O)
  |_=>False)
 |.Delete ts _=>(match ts with
  |[t]=>(match t with
   |.Subscript o i _=>J.e o F b (fun v O1=>J.e i F b (fun k O2=>Lf (yk O2 v k) fun O3=>Q .next F O3) O1) O
   |_=>False)
  |_=>False)
 |.If t x y _=>J.t t F b (fun c O1=>uT c (xs J x F b Q O1) (xs J y F b Q O1)) O
 |.While t body orelse _=>Gd orelse.isEmpty (FI J t body b Q F O)
 |.For tgt it body orelse _=>nY G J tgt it F b (fun src O1=>JZ J tgt body orelse b Q src F O1) O
 |.Assert t _ _=>J.t t F b (fun c O1=>Gd c (Q .next F O1)) O
 |.Try body hs orelse fin _=>Gd (orelse.isEmpty&&fin.isEmpty) (LJ G J F b Q O body hs)
 |_=>False
noncomputable def J3(up:Nat)(fi:CH)(vars:List (Str×V))(Q:V→Oj→Prop)(O:Oj):Prop:=Gd (fG fi.scope.names vars&&dw fi.scope.names) (xs J fi.body [⟨fi.scope.names,pW fi.scope.names vars,false,up,none⟩] O.length (fun f _ O1=>match f with
 |.ret v=>Lf (leave O.length v O1) fun r=>Q r (O1.take O.length)
 |.next=>Q .none (O1.take O.length)
 |_=>False) O)
noncomputable def J0(ad:Addr)(a:List V)(ks:List (Str×V))(Q:V→Oj→Prop)(O:Oj):Prop:=Lf (G.fns.lookup ad) fun fi=>Lf (fC fi.params fi.dfl fi.kwd a ks) fun vars=>J3 J 1 fi vars Q O
set_option backward.match.sparseCases false in
noncomputable def EN(f:V)(a:List V)(ks:List (Str×V))(b:Nat)(Q:V→Oj→Prop)(O:Oj):Prop:=match f with
 |.cst d=>(match d with
  |.ref ad=>Lf (G.fns.lookup ad) fun fi=>Lf (fC fi.params fi.dfl fi.kwd a ks) fun vars=>J3 J 0 fi vars Q O
  |.builtin id=>Gd ks.isEmpty (Lf (cq (ofString id) a b O) fun r=>Q r.1 r.2)
  |.type id=>Gd ks.isEmpty (Lf (d5 (ofString id) a b O) fun r=>Q r.1 r.2)
  |_=>False)
 |.lam args body scope=>Gd ks.isEmpty (Lf (fC args [] [] a []) fun vars=>Gd (fG scope.names vars&&dh scope&&dw scope.names) (J.e body [⟨scope.names,pW scope.names vars,true,0,none⟩] O.length (fun v O1=>Lf (leave O.length v O1) fun r=>Q r (O1.take O.length)) O))
 |_=>False
noncomputable def Ha(fi:CH)(vars:List (Str×V))(n:Str)(c:gN)(F:List Fr)(Q:V→Oj→Prop)(O:Oj):Prop:=Gd (fG fi.scope.names vars&&dw fi.scope.names&&fi.scope.names.lookup n==some .local) (vars.lookup n=pL F c.name∧
 xs J fi.body (⟨fi.scope.names,pW fi.scope.names vars,false,0,some ⟨n,c.args,c.body,c.scope,c.up+1⟩⟩::F) O.length (fun f F1 O1=>F1.drop 1=F∧match f with
 |.ret v=>Lf (leave O.length v O1) fun r=>Q r (O1.take O.length)
 |.next=>Q .none (O1.take O.length)
 |_=>False) O)
set_option backward.match.sparseCases false in
noncomputable def EM(f:V)(a:List V)(ks:List (Str×V))(n:Str)(c:gN)(F:List Fr)(b:Nat)(Q:V→Oj→Prop)(O:Oj):Prop:=match f with
 |.cst d=>(match d with
  |.ref ad=>Lf (G.fns.lookup ad) fun fi=>Lf (fC fi.params fi.dfl fi.kwd a ks) fun vars=>Ha J fi vars n c F Q O
  |_=>False)
 |_=>False
noncomputable def W:Nat→WI
 |0=>WI.bot
 |n+1=>⟨la G (W n),zS G (W n),v0 G (W n),EL G (W n),EN G (W n),EM G (W n),n+1⟩
end
end
set_option backward.match.sparseCases false
noncomputable def aX(l:List Stmt)(i:Nat):Stmt:=l.getD i (.Pass default)
noncomputable def IQ:Stmt→List Stmt
 |.If _ x _ _=>x
 |_=>[]
noncomputable def Lk:Stmt→List Stmt
 |.If _ _ x _=>x
 |_=>[]
noncomputable def wT:Stmt→Expr
 |.While t _ _ _=>t
 |_=>default
noncomputable def wB:Stmt→List Stmt
 |.While _ x _ _=>x
 |_=>[]
noncomputable def xC:Stmt→Expr
 |.For t _ _ _ _=>t
 |_=>default
noncomputable def fm:Stmt→List Stmt
 |.For _ _ b _ _=>b
 |_=>[]
noncomputable def xD:Stmt→List Stmt
 |.For _ _ _ e _=>e
 |_=>[]
noncomputable abbrev u(s:String):Str:=ofString s
noncomputable section
noncomputable def iK(k:Nat)(dfl:List V)(kwd:List (Str×V)):CH:=⟨BG (dB k),bF (dB k),cV (dB k),dfl,kwd⟩
noncomputable def G3:qR where
 names:=[(u "_ellipsis_match",.cst (.ref 21)),
  (u "insort_right",.cst (.ref 30)),
  (u "bisect_right",.cst (.ref 39)),
  (u "insort_left",.cst (.ref 48)),
  (u "bisect_left",.cst (.ref 57)),
  (u "pretty_flags",.cst (.ref 65)),
  (u "_parse_varint",.cst (.ref 72)),
  (u "in_table_b1",.cst (.ref 90)),
  (u "map_table_b3",.cst (.ref 136)),
  (u "_law_prepared",.cst (.ref 141)),
  (u "_law_ask",.cst (.ref 148)),
  (u "_law_put",.cst (.ref 153)),
  (u "_law_own",.cst (.ref 158)),
  (u "_law_led",.cst (.ref 165)),
  (u "_law_unlike",.cst (.ref 170)),
  (u "_law_learned",.cst (.ref 177)),
  (u "law",.cst (.ref 182)),
  (u "COMPILER_FLAG_NAMES",.cst (.ref 58)),
  (u "b1_set",.cst (.ref 80)),
  (u "b3_exceptions",.cst (.ref 91)),
  (u "ELLIPSIS_MARKER",.str [46,46,46]),
  (u "len",.cst (.builtin "len")),
  (u "hex",.cst (.builtin "hex")),
  (u "next",.cst (.builtin "next")),
  (u "ord",.cst (.builtin "ord")),
  (u "chr",.cst (.builtin "chr")),
  (u "sum",.cst (.builtin "sum")),
  (u "sorted",.cst (.builtin "sorted")),
  (u "iter",.cst (.builtin "iter")),
  (u "min",.cst (.builtin "min")),
  (u "range",.cst (.type "range")),
  (u "list",.cst (.type "list")),
  (u "enumerate",.cst (.type "enumerate")),
  (u "str",.cst (.type "str")),
  (u "ValueError",.cst (.type "ValueError"))]
 fns:=[(21,iK 2 [] []),(30,iK 4 [.int 0,.none] [(u "key",.none)]),(39,iK 5 [.int 0,.none] [(u "key",.none)]),(48,iK 6 [.int 0,.none] [(u "key",.none)]),(57,iK 7 [.int 0,.none] [(u "key",.none)]),(65,iK 10 [] []),(72,iK 11 [] []),(90,iK 14 [] []),(136,iK 16 [] []),(141,iK 18 [] []),(148,iK 19 [] []),(153,iK 20 [] []),(158,iK 21 [] []),(165,iK 22 [] []),(170,iK 23 [] []),(177,iK 24 [] []),(182,iK 25 [] [])]
 tabs:=[(58,[(1,(u "OPTIMIZED").cps.toList),(2,(u "NEWLOCALS").cps.toList),(4,(u "VARARGS").cps.toList),(8,(u "VARKEYWORDS").cps.toList),(16,(u "NESTED").cps.toList),(32,(u "GENERATOR").cps.toList),(64,(u "NOFREE").cps.toList),(128,(u "COROUTINE").cps.toList),(256,(u "ITERABLE_COROUTINE").cps.toList),(512,(u "ASYNC_GENERATOR").cps.toList)]),
  (91,gC.map fun p=>(p.1.1,p.1.2.cps.toList))]
 sets:=[(80,[173,847,6150,6155,6156,6157,8203,8204,8205,8288,65279]++(List.range 16).map fun(k:Nat)=>(65024:Int)+k)]
noncomputable def dT:List Addr:=[16,25,34,43,52,60,67,85,131,138,143,150,155,160,167,172,179]
noncomputable def H0(P:Params):Heap:=hideAll (HE P) dT
@[irreducible] noncomputable def PG:Program:=PySem.Challenge.rw_ta0099_01.row.prog
@[irreducible] noncomputable def GG:qR:=G3
@[irreducible] noncomputable def HW(w:World):Heap:=H0 w.params
end
set_option backward.match.sparseCases true
set_option backward.match.sparseCases false
noncomputable abbrev MW(w:World):Model:=model PG w
noncomputable def ba:Value→Shared→Prop:=fun _ _=>False
noncomputable def lU(v:Value):V:=match v with
 |.none=>.none
 |.bool b=>.bool b
 |.int i _=>.int i
 |.str x _=>.str x.cps.toList
 |v=>.cst v
theorem iA(h:Heap)(κ:Pl):∀cv:Value,RV h κ (lU cv) cv:=fun cv=>match cv with
 |.none=>rfl
 |.bool _=>rfl
 |.int _ _=>⟨_,rfl⟩
 |.str x t=>⟨t,by rw[eY]⟩
 |.float .. =>rfl
 |.bytes .. =>rfl
 |.ref _=>rfl
 |.type _=>rfl
 |.builtin _=>rfl
 |.ellipsis=>rfl
 |.notImplemented=>rfl
structure FM (h:Heap) (a:Addr) (fi:CH) (o:Obj) (fd:FuncData):Prop where
 get:h.get? a=some o
 data:o.data=.func fd
 params:fd.params=fi.params
 body:fd.body=.stmts fi.body
 scope:fd.scope=fi.scope
 glob:fd.globals=mainGlobals
 blt:fd.builtins=builtinsNs
 clos:fd.closure=[]
 crec:h.CodeRec fd.code fd.qualname
 cls:o.cls=.type "function"
 kind:fi.scope.kind=.function
 gen:fi.scope.isGenerator=false
 cor:fi.scope.isCoroutine=false
 code:∃c p,fd.code=.ref c∧CodeHd h c p∧p<h.objs.size∧h.get? p=none
 dfl:fi.dfl=[]∧fd.defaults=.none∨∃t aA,fd.defaults=.ref t∧IsTup h t aA∧fi.dfl=aA.toList.map lU
 kwd:fi.kwd=[]∧fd.kwdefaults=.none∨∃d m,fd.kwdefaults=.ref d∧h.Ns d m∧∀x,(m x).map lU=fi.kwd.lookup x
noncomputable abbrev HJ(w:World):=FM (HW w)
structure bI (w:World):Prop where
 nolimit:(HW w).NoLimit
 bmain:∃mg,(HW w).Ns mainGlobals mg∧∀p,(HW w).get? p=none→(HW w).BuiltinsAt mg p
 sysm:∃o,(HW w).get? sysModules=some o
 globals:∃mg mb,(HW w).Ns mainGlobals mg∧(HW w).Ns builtinsNs mb∧∀x v,GG.names.lookup x=some v→∃cv,v=lU cv∧(mg x=some cv∨(mg x=none∧mb x=some cv))
 fns:∀a fi,GG.fns.lookup a=some fi→∃o fd,HJ w a fi o fd
structure Ok (A:Around) (n:Nat):Prop where
 dep:A.depth+n≤690
 uni:A.units+10*n≤9800
 hd:A.handled=none
 fr:∃l,A.frames=some l
theorem Ok.dn{A:Around}{n:Nat}(h:Ok A (n+1)):Ok A n:=⟨Nat.le_of_succ_le h.dep,le_trans (add_le_add_left (mul_le_mul_left 10 (le_succ n)) _) h.uni,h.hd,h.fr⟩
structure Ja (p:FP) (r:List FP) (env:Env):Prop where
 L:env.locals=p.L
 loc:∀x,p.names.lookup x=some .local→env.kindOf x=some .local
 cell:∀x,p.names.lookup x=some .cell→env.kindOf x=some .cell∧∃c,p.cells.lookup x=some c∧env.cells.lookup x=some c
 free:∀x,p.names.lookup x=some .free→(env.kindOf x=some .cell∨env.kindOf x=some .free)∧∃c,env.cells.lookup x=some c∧cW r p.up x=some c
 glb:∀x,p.names.lookup x=some .globalImplicit→env.kindOf x=some .globalImplicit
noncomputable def sS(fr:List FP):Bool:=fr.all fun p=> !p.lam
structure nX (w:World) (fr:List FP) (env:Env):Prop where
 kind:env.scope.kind=.function
 glob:env.globals=mainGlobals
 blt:env.builtins=builtinsNs
 code:sS fr=true→∃c p,env.code=.ref c∧CodeHd (HW w) c p∧p<(HW w).objs.size∧(HW w).get? p=none
 top:∃p r,fr=p::r∧Ja p r env
structure St (w:World) (A:Around) (n b:Nat) (κ:Pl) (F:List Fr) (O:Oj) (s:Shared) (en:Env):Prop where
 ok:Ok A n
 rel:cS w (HW w) κ F O s.heap
 env:nX w κ.fr en
 le:b≤O.length
 stk:∀p,κ.fr=[p]→en.frame=some p.L∧∃l,A.frames=some (en::l)∧(p.up=1→l=[])
noncomputable abbrev dp(w:World):=Go w (HW w)
noncomputable abbrev aH(w:World):=cS w (HW w)
section
variable {w:World} {A:Around} {n b:Nat} {κ κ1:Pl} {F F1:List Fr} {O O1:Oj} {s s1:Shared} {env:Env}
theorem Go.le(R:aH w κ F O s.heap)(g:dp w b κ O s κ1 F1 O1 s1):O.length≤O1.length:=by
 rw[←R.len, ←g.rel.len];exact g.ext.pre.length_le
theorem St.next(t:St w A n b κ F O s env)(g:dp w b κ O s κ1 F1 O1 s1):St w A n b κ1 F1 O1 s1 env:=⟨t.ok,g.rel,g.frs▸t.env,le_trans t.le (g.le t.rel),fun p h=>t.stk p (g.frs.symm.trans h)⟩
theorem Ok.one(h:Ok A (n+1)):Ok A 1:=⟨le_trans (add_le_add_left (le_add_left 1 n) _) h.dep,le_trans (add_le_add_left (mul_le_mul_left 10 (le_add_left 1 n)) _) h.uni,h.hd,h.fr⟩
theorem St.dn(t:St w A (n+1) b κ F O s env):St w A n b κ F O s env:={ t with ok:=t.ok.dn }
end
inductive aG {α β:Type} (w:World) (b:Nat) (κ:Pl) (F:List Fr) (O:Oj) (s:Shared) (R:Heap→Pl→α→β→Prop) (Q:α→Oj→Prop):β→Shared→Prop where
 |mk {v:α} {κ':Pl} {O':Oj} {cv:β} {s':Shared} (q:Q v O') (g:dp w b κ O s κ' F O' s') (r:R s'.heap κ' v cv):aG w b κ F O s R Q cv s'
noncomputable def Lq(h:Heap)(κ:Pl)(f:Fl)(g:Flow):Prop:=match f with
 |.next=>g=.next
 |.brk=>g=.brk
 |.cont=>g=.cont
 |.ret v=>∃cv,g=.ret cv∧RV h κ v cv
inductive dQ (w:World) (b:Nat) (κ:Pl) (O:Oj) (s:Shared) (Q:Fl→List Fr→Oj→Prop):Flow→Shared→Prop where
 |mk {f:Fl} {F':List Fr} {κ':Pl} {O':Oj} {cf:Flow} {s':Shared} (q:Q f F' O') (g:dp w b κ O s κ' F' O' s') (r:Lq s'.heap κ' f cf):dQ w b κ O s Q cf s'
noncomputable def EB{α:Type}(_:Heap)(_:Pl)(a:α)(c:α):Prop:=c=a
noncomputable def Md(k:Nat)(h:Heap)(κ:Pl)(vs:List V)(cvs:List Value):Prop:=ag h κ vs cvs∧cvs.length=k
noncomputable def fk(h:Heap)(κ:Pl):List (Str×V)→List (Str×Value)→Prop
 |[],r=>r=[]
 |e::l,r=>∃cv r',r=(e.1,cv)::r'∧RV h κ e.2 cv∧fk h κ l r'
theorem je{h h':Heap}{κ κ':Pl}(x:bj h κ h' κ'):∀{l:List (Str×V)} {r:List (Str×Value)},fk h κ l r→fk h' κ' l r
 |[],_,e=>e
 |_::_,_,q2=>by obtain⟨cv,r',e,a,c⟩:=q2;exact⟨cv,r',e,rM x a,je x c⟩
structure d6 (w:World) (n:Nat) (J:WI):Prop where
 lv:J.lv≤n
 e:∀{A s κ F O b env ex Q},J.e ex F b Q O→St w A n b κ F O s env→wpAny (MW w) A (eval ex env) (aG w b κ F O s RV Q) ba s
 l:∀{A s κ F O b env ex Q},J.l ex F b Q O→St w A n b κ F O s env→wpAny (MW w) A (eval ex env) (aG w b κ F O s RV Q) ba s
 t:∀{A s κ F O b env ex Q},J.t ex F b Q O→St w A n b κ F O s env→wpAny (MW w) A (isTrue ex env (eval ex env)) (aG w b κ F O s EB Q) ba s
 s:∀{A s κ F O b env st Q},J.s st F b Q O→St w A n b κ F O s env→wpAny (MW w) A (exec st env) (dQ w b κ O s Q) ba s
 c:∀{A s κ F O b f a ks cf ca cks Q},J.c f a ks b Q O→Ok A n→aH w κ F O s.heap→b≤O.length→RV s.heap κ f cf→ag s.heap κ a ca→fk s.heap κ ks cks→wpAny (MW w) A (call cf ca cks) (aG w b κ F O s RV Q) ba s
 k:∀{A s κ F O b f a ks nm c cf ca cks Q},J.k f a ks nm c F b Q O→fZ F c.name=some c→Ok A n→aH w κ F O s.heap→b≤O.length→RV s.heap κ f cf→ag s.heap κ a ca→fk s.heap κ ks cks→wpAny (MW w) A (call cf ca cks) (aG w b κ F O s RV Q) ba s
section
variable {α β γ:Type} {w:World} {A:Around} {n b:Nat} {κ κ1:Pl} {F F1:List Fr} {O O1:Oj} {s s1:Shared} {env:Env} {R:Heap→Pl→α→β→Prop} {Q:α→Oj→Prop} {E:Value→Shared→Prop}
theorem aG.seq{m:Sem β}{P:β→Shared→Prop}(h:wpAny (MW w) A m (aG w b κ F O s R Q) ba s)(k:∀{v κ1 O1 cv s1},Q v O1→dp w b κ O s κ1 F O1 s1→R s1.heap κ1 v cv→P cv s1):wpAny (MW w) A m P E s:=
 wpAny_mono h (fun _ _ e=>match e with|.mk q g r=>k q g r) fun _ _ x=>x.elim
theorem dQ.seq{m:Sem Flow}{Q:Fl→List Fr→Oj→Prop}{P:Flow→Shared→Prop}(h:wpAny (MW w) A m (dQ w b κ O s Q) ba s)(k:∀{f F1 κ1 O1 cf s1},Q f F1 O1→dp w b κ O s κ1 F1 O1 s1→Lq s1.heap κ1 f cf→P cf s1):wpAny (MW w) A m P E s:=
 wpAny_mono h (fun _ _ e=>match e with|.mk q g r=>k q g r) fun _ _ x=>x.elim
theorem aG.go{cv:β}{s2:Shared}(g:dp w b κ O s κ1 F O1 s1)(e:aG w b κ1 F O1 s1 R Q cv s2):aG w b κ F O s R Q cv s2:=match e with
 |.mk q g1 r=>.mk q (g.trans g1) r
theorem aG.on{m:Sem β}(g:dp w b κ O s κ1 F O1 s1)(h:wpAny (MW w) A m (aG w b κ1 F O1 s1 R Q) ba s1):wpAny (MW w) A m (aG w b κ F O s R Q) E s1:=
 wpAny_mono h (fun _ _ e=>e.go g) fun _ _ x=>x.elim
theorem dQ.on{m:Sem Flow}{Q:Fl→List Fr→Oj→Prop}(g:dp w b κ O s κ1 F1 O1 s1)(h:wpAny (MW w) A m (dQ w b κ1 O1 s1 Q) ba s1):wpAny (MW w) A m (dQ w b κ O s Q) E s1:=
 wpAny_mono h (fun _ _ e=>match e with|.mk q g1 r=>.mk q (g.trans g1) r) fun _ _ x=>x.elim
theorem aG.tok(Rl:aH w κ F O s.heap){v:α}{cv:β}{k:Nat}(q:Q v O)(r:R s.heap κ v cv):aG w b κ F O s R Q cv { s with toks:=k }:=.mk q (Go.grow Rl (fun _ _ e=>e) ⟨rfl,rfl,rfl⟩) r
theorem aG.here(Rl:aH w κ F O s.heap){v:α}{cv:β}(q:Q v O)(r:R s.heap κ v cv):aG w b κ F O s R Q cv s:=.mk q (Go.refl Rl) r
end
set_option backward.match.sparseCases true
section
variable {a:Addr} {i j:Nat} {o o':aT} {c:C} {p:FP} {F':List Fr} {O':Oj} {f:Fr} {κ':Pl} {new:List Addr} {vs:List V} {cvs:List Value} {Q:V→Oj→Prop} {A0:Around} {x:Str} {v:V} {cv:Value}
theorem bS{α β:Type}{o:Option α}{f:α→Option β}{r:β}(h:o.bind f=some r):∃a,o=some a∧f a=some r:=match o,h with
 |some a,h=>⟨a,rfl,h⟩
theorem mS{α β:Type}{o:Option α}{f:α→β}{r:β}(h:o.map f=some r):∃a,o=some a∧f a=r:=match o,h with
 |some a,h=>⟨a,rfl,Option.some.inj h⟩
theorem bY{h:Heap}(l:h.objs.size≤a):h.get? a=none:=by
 unfold Heap.get?
 exact Eq.symm (Array.getElem?_eq_none l)▸rfl
theorem bO(h:Heap)(o:Obj):∀b ob,h.get? b=some ob→(h.push o).get? b=some ob:=fun _ _ e=>get?_push_of_some o e
section
variable {h0 h h':Heap} {κ:Pl} {F:List Fr} {O:Oj}
theorem cS.get(R:cS w h0 κ F O h)(e:O[i]? =some o):∃c,κ.ob[i]? =some c∧gM w h κ o c:=
 have hi:=R.len.symm▸(List.getElem?_eq_some_iff.mp e).1
 ⟨_,getElem?_eq_getElem hi,R.objs i o _ e (getElem?_eq_getElem hi)⟩
theorem cS.at'(R:cS w h0 κ F O h)(e:O[i]? =some o)(hi:κ.ob[i]? =some (.obj a)):gM w h κ o (.obj a):=R.objs i o _ e hi
theorem cS.size_off(R:cS w h0 κ F O h):h.objs.size∉κ.mt:=fun q=>(by obtain⟨_,ho⟩:=R.ex _ q;exact nomatch (bY (le_refl _)).symm.trans ho)
theorem Hx(nd:κ.mt.Nodup):(κ.ob.map C.addr).Nodup:=(nodup_append.mp (nodup_append.mp nd).2.1).2.1
theorem Fx(nd:κ.mt.Nodup){c':C}(hi:κ.ob[i]? =some c)(hj:κ.ob[j]? =some c')(e:c.addr=c'.addr):i=j:=by
 refine(List.getElem?_inj (by rw[length_map];exact(List.getElem?_eq_some_iff.mp hi).1) (Hx nd)).mp ?_
 rw[getElem?_map,getElem?_map,hi,hj,Option.map_some,Option.map_some,e]
theorem py(nd:κ.mt.Nodup)(hi:κ.fr[i]? =some p)(ha:a∈p.addrs):a∉κ.hid++κ.ob.map C.addr:=fun q=>
 (nodup_append.mp nd).2.2 a (mem_flatMap.mpr ⟨p,mem_of_getElem? hi,ha⟩) a q rfl
theorem Eo(nd:κ.mt.Nodup)(hi:κ.fr[i]? =some p)(ha:a∈p.addrs)(hj:κ.ob[j]? =some c):c.addr≠a:=fun q=>
 py nd hi ha (mem_append_right _ (q▸mem_map_of_mem (mem_of_getElem? hj)))
theorem vI(nd:κ.mt.Nodup)(ha:a∈κ.hid)(hj:κ.ob[j]? =some c):c.addr≠a:=fun q=>
 (nodup_append.mp (nodup_append.mp nd).2.1).2.2 a ha c.addr (mem_map_of_mem (mem_of_getElem? hj)) q.symm
theorem pz:∀{l:List FP} {i j:Nat} {p p':FP} {a:Addr},(l.flatMap FP.addrs).Nodup→l[i]? =some p→l[j]? =some p'→a∈p.addrs→a∈p'.addrs→i=j
 |p::l,0,0,_,_,_,_,_,_,_,_=>rfl
 |p::l,i+1,j+1,_,_,_,nd,hi,hj,h1,h2=>congrArg (· +1) (pz (l:=l) (nodup_append.mp nd).2.1 hi hj h1 h2)
 |p::l,0,j+1,_,p',a,nd,rfl,hj,h1,h2=>absurd rfl ((nodup_append.mp nd).2.2 a h1 a (mem_flatMap.mpr ⟨p',mem_of_getElem? (l:=l) hj,h2⟩))
 |p::l,i+1,0,p',_,a,nd,hi,rfl,h1,h2=>absurd rfl ((nodup_append.mp nd).2.2 a h2 a (mem_flatMap.mpr ⟨p',mem_of_getElem? (l:=l) hi,h1⟩))
theorem w9(nd:κ.mt.Nodup):(κ.fr.flatMap FP.addrs).Nodup:=(nodup_append.mp nd).1
theorem sz:∀{l:List FP} {i:Nat} {p:FP},(l.flatMap FP.addrs).Nodup→l[i]? =some p→p.addrs.Nodup
 |p::l,0,_,nd,rfl=>(nodup_append.mp nd).1
 |p::l,i+1,_,nd,e=>sz (l:=l) (nodup_append.mp nd).2.1 e
theorem cS.put(R:cS w h0 κ F O h)(ha:a∈κ.mt)(hs:∀b ob,b≠a→h.get? b=some ob→h'.get? b=some ob)(hx:∃ob,h'.get? a=some ob)(lo:O'.length=O.length)(lf:F'.length=F.length)
 (ho:bj h κ h' κ→∀(i:Nat) o' c,O'[i]? =some o'→κ.ob[i]? =some c→(O[i]? =some o'∧c.addr≠a)∨gM w h' κ o' c)
 (hf:bj h κ h' κ→∀(i:Nat) f' p,F'[i]? =some f'→κ.fr[i]? =some p→(F[i]? =some f'∧a∉p.addrs)∨bZ h' κ f' p):cS w h0 κ F' O' h'∧bj h κ h' κ:=
 have x:bj h κ h' κ:=⟨prefix_rfl,fun b ob hb hn=>hs b ob (fun q=>hn (q▸ha)) hb,fun _ p q=>absurd p q⟩
 ⟨{ R with
  len:=R.len.trans lo.symm
  flen:=R.flen.trans lf.symm
  base:=fun b ob hb=>hs b ob (fun q=>nomatch (R.off b (q▸ha)).symm.trans hb) (R.base b ob hb)
  ex:=fun b hb=>(Classical.em (b=a)).elim (fun q=>q▸hx) fun q=>let⟨o,e⟩:=R.ex b hb;⟨o,hs b o q e⟩
  objs:=fun i o' c e e'=>(ho x i o' c e e').elim (fun q=>eL x (fun ob e=>hs _ ob q.2 e) (R.objs i o' c q.1 e')) id
  frs:=fun i f' p e e'=>(hf x i f' p e e').elim (fun q=>cD x (fun _ z=>z) (fun b hb ob e=>hs b ob (fun z=>q.2 (z▸hb)) e) (R.frs i f' p q.1 e')) id },x⟩
theorem xS{P1 P2:Prop}(ne:∀x∈κ.hid,x≠a)(hs:∀b ob,b≠a→h.get? b=some ob→h'.get? b=some ob)(p:P1∧P2):P1∧P2∧∀x∈κ.hid,x∈κ.hid∧∀o,h.get? x=some o→h'.get? x=some o:=
 ⟨p.1,p.2,fun x hx=>⟨hx,fun o e=>hs x o (ne x hx) e⟩⟩
theorem cS.setO(R:cS w h0 κ F O h)(e:O[i]? =some o)(hi:κ.ob[i]? =some c)(hs:∀b ob,b≠c.addr→h.get? b=some ob→h'.get? b=some ob)(hx:∃ob,h'.get? c.addr=some ob)(hr:bj h κ h' κ→gM w h' κ o' c):cS w h0 κ F (O.set i o') h'∧bj h κ h' κ∧∀x∈κ.hid,x∈κ.hid∧∀o,h.get? x=some o→h'.get? x=some o:=
 xS (fun x hx q=>vI R.nd hx hi q.symm) hs <| R.put (Pl.mt_ob hi) hs hx length_set rfl (fun x j oj cj ej hj=>by
  by_cases hij:i=j
  ·subst hij
   rw[getElem?_set_self (List.getElem?_eq_some_iff.mp e).1]at ej
   obtain rfl:=sI ej;obtain rfl:=sI (hi.symm.trans hj)
   exact .inr (hr x)
  ·rw[getElem?_set_ne hij]at ej
   exact .inl ⟨ej,fun q=>hij (Fx R.nd hi hj q.symm)⟩) fun _ j f p ej hj=>.inl ⟨ej,fun q=>Eo R.nd hj q hi rfl⟩
theorem cS.setF{f':Fr}{r:List Fr}{pr:List FP}(R:cS w h0 κ (f::r) O h)(hp:κ.fr=p::pr)(ha:a∈p.addrs)(hs:∀b ob,b≠a→h.get? b=some ob→h'.get? b=some ob)(hx:∃ob,h'.get? a=some ob)(hr:bj h κ h' κ→bZ h' κ f' p):cS w h0 κ (f'::r) O h'∧bj h κ h' κ∧∀x∈κ.hid,x∈κ.hid∧∀o,h.get? x=some o→h'.get? x=some o:=
 have h0:κ.fr[0]? =some p:=hp▸rfl
 xS (fun x hx (q:x=a)=>py R.nd h0 ha (mem_append_left _ (q▸hx))) hs <| R.put (Pl.mt_fr h0 ha) hs hx rfl rfl (fun _ j o c e hj=>.inl ⟨e,Eo R.nd h0 ha hj⟩) fun x j g q ej hj=>match j,ej,hj with
  |0,e,hj=>.inr (Option.some.inj e▸Option.some.inj (h0.symm.trans hj)▸hr x)
  |j+1,e,hj=>.inl ⟨e,fun z=>nomatch pz (w9 R.nd) h0 hj ha z⟩
theorem cS.more(R:cS w h0 κ F O h)(pm:κ'.mt.Perm (new++κ.mt))(pre:κ.ob <+:κ'.ob)(k:∀b o,h.get? b=some o→h'.get? b=some o)(hn:∀a∈new,h.get? a=none∧∃o,h'.get? a=some o)(nd:new.Nodup)
 (len:κ'.ob.length=O'.length) (flen:κ'.fr.length=F'.length) (objs:bj h κ h' κ'→∀(i:Nat) o c,O'[i]? =some o→κ'.ob[i]? =some c→gM w h' κ' o c) (frs:bj h κ h' κ'→∀(i:Nat) f p,F'[i]? =some f→κ'.fr[i]? =some p→bZ h' κ' f p):cS w h0 κ' F' O' h'∧bj h κ h' κ':=
 have e:∀b∈κ'.mt,b∈new∨b∈κ.mt:=fun b hb=>mem_append.mp (pm.mem_iff.mp hb)
 have x:bj h κ h' κ':=⟨pre,fun b ob q _=>k b ob q,fun b hb hnb=>(e b hb).elim (fun q=>(hn b q).1) fun q=>absurd q hnb⟩
 ⟨{ len:=len
    flen:=flen
    base:=fun a ob q=>k a ob (R.base a ob q)
    off:=fun a ha=>(e a ha).elim (fun q=>match hq:h0.get? a with
       |none=>rfl
       |some ob=>nomatch (hn a q).1.symm.trans (R.base a ob hq)) (R.off a)
    nd:=pm.nodup_iff.mpr (nodup_append.mpr ⟨nd,R.nd,fun a ha b hb q=>let⟨_,ho⟩:=R.ex b hb;nomatch (q▸(hn a ha).1).symm.trans ho⟩)
    ex:=fun a ha=>(e a ha).elim (fun q=>(hn a q).2) fun q=>let⟨o,ho⟩:=R.ex a q;⟨o,k a o ho⟩
    objs:=objs x
    frs:=frs x
    tab:=fun p hp hq=>(by obtain⟨j,hj⟩:=R.tab p hp hq;exact⟨j,cR pre hj⟩)},x⟩
theorem cS.objs_mono(R:cS w h0 κ F O h)(k:∀b o,h.get? b=some o→h'.get? b=some o)(x:bj h κ h' κ')(e:O[i]? =some o)(e':κ.ob[i]? =some c):gM w h' κ' o c:=eL x (fun ob q=>k _ ob q) (R.objs i o c e e')
theorem cS.frs_mono(R:cS w h0 κ F O h)(k:∀b o,h.get? b=some o→h'.get? b=some o)(x:bj h κ h' κ')(sf:κ.fr <:+κ'.fr)(e:F[i]? =some f)(e':κ.fr[i]? =some p):bZ h' κ' f p:=cD x (fun r z=>z.trans sf) (fun b _ ob q=>k b ob q) (R.frs i f p e e')
theorem cS.addA(ha:h.get? a=none)(R:cS w h0 κ F O h)(k:∀b o,h.get? b=some o→h'.get? b=some o)(hx:∃ob,h'.get? a=some ob)(hr:∀κ',bj h κ h' κ'→(∀b∈κ'.mt,b=a∨b∈κ.mt)→gM w h' κ' o (.obj a)):
 cS w h0 ⟨κ.fr,κ.ob++[.obj a],κ.hid⟩ F (O++[o]) h'∧bj h κ h' ⟨κ.fr,κ.ob++[.obj a],κ.hid⟩:=by
 have pm:(Pl.mt ⟨κ.fr,κ.ob++[.obj a],κ.hid⟩).Perm ([a]++κ.mt):=by
  rw[Pl.mt,map_append, ←append_assoc, ←append_assoc,append_assoc (κ.fr.flatMap _)]
  exact List.perm_append_comm
 refine R.more (new:=[a]) pm ⟨_,rfl⟩ k (fun a' ha'=>?_) (nodup_cons.mpr ⟨not_mem_nil,nodup_nil⟩) ?_ R.flen (fun x i oi ci e e'=>?_) fun x i f p e e'=>R.frs_mono k x (List.suffix_refl _) e e'
 ·rw[mem_singleton.mp ha'];exact⟨ha,hx⟩
 ·rw[length_append,length_append,R.len];rfl
 ·rcases Nat.lt_or_ge i O.length with hl|hl
  ·rw[getElem?_append_left hl]at e
   rw[getElem?_append_left (R.len.symm▸hl)]at e'
   exact R.objs_mono k x e e'
  ·rw[getElem?_append_right hl]at e
   rw[getElem?_append_right (R.len.symm▸hl),R.len]at e'
   match i-O.length,e,e' with
   |0,rfl,rfl=>exact hr _ x fun b hb=>mem_cons.mp (pm.mem_iff.mp hb)
theorem cS.addO(R:cS w h0 κ F O h)(k:∀b o,h.get? b=some o→h'.get? b=some o)(hx:∃ob,h'.get? h.objs.size=some ob)(hr:∀κ',bj h κ h' κ'→gM w h' κ' o (.obj h.objs.size)):
 cS w h0 ⟨κ.fr,κ.ob++[.obj h.objs.size],κ.hid⟩ F (O++[o]) h'∧bj h κ h' ⟨κ.fr,κ.ob++[.obj h.objs.size],κ.hid⟩:=R.addA (bY (le_refl _)) k hx fun κ' x _=>hr κ' x
theorem cS.addH(R:cS w h0 κ F O h)(k:∀b o,h.get? b=some o→h'.get? b=some o)(hn:∀a∈new,h.get? a=none∧∃o,h'.get? a=some o)(nd:new.Nodup):cS w h0 ⟨κ.fr,κ.ob,new++κ.hid⟩ F O h'∧bj h κ h' ⟨κ.fr,κ.ob,new++κ.hid⟩:=by
 refine R.more (new:=new) ?_ prefix_rfl k hn nd R.len R.flen (fun x i o c e e'=>R.objs_mono k x e e') fun x i f p e e'=>R.frs_mono k x (List.suffix_refl _) e e'
 show(κ.fr.flatMap FP.addrs++(new++κ.hid++κ.ob.map C.addr)).Perm _
 rw[append_assoc, ←append_assoc,Pl.mt, ←append_assoc new]
 exact List.perm_append_comm.append_right _
end
theorem bv.app(b:Nat)(O T:Oj):bv b O (O++T):=fun i o _ e=>⟨o,by rw[getElem?_append_left (List.getElem?_eq_some_iff.mp e).1];exact e,fun _ h=>h⟩
theorem bv.set_high{b:Nat}{O:Oj}(h:b≤i):bv b O (O.set i o):=fun j oj hj e=>⟨oj,by rw[getElem?_set_ne (fun q:i=j=>absurd (q.symm▸hj) (Nat.not_lt.mpr h))];exact e,fun _ q=>q⟩
theorem bv.set_pure{b:Nat}{O:Oj}(e:O[i]? =some o)(h:∀m,o.Under m→o'.Under m):bv b O (O.set i o'):=fun j oj hj ej=>by
 by_cases hij:i=j
 ·subst hij
  obtain rfl:=sI (e.symm.trans ej)
  exact⟨o',by rw[getElem?_set_self (List.getElem?_eq_some_iff.mp e).1],h⟩
 ·exact⟨oj,by rw[getElem?_set_ne hij];exact ej,fun _ q=>q⟩
section
variable {w:World} {A:Around} {n b:Nat} {κ:Pl} {F:List Fr} {O:Oj} {s:Shared} {env:Env}
noncomputable abbrev gg(s:Shared)(o:Obj):Shared:={ s with heap:=s.heap.push o }
theorem Go.push(R:aH w κ F O s.heap)(o:Obj):dp w b κ O s κ F O (gg s o):=Go.grow R (bO _ o) ⟨rfl,rfl,rfl⟩
theorem lD(R:aH w κ F O s.heap)(q:Q (.tup vs) O)(r:ag s.heap κ vs cvs):aG w b κ F O s RV Q (.ref s.heap.objs.size) (gg s { cls:=.type "tuple",data:=.seq cvs.toArray }):=
 .mk q (Go.push R _) ⟨_,cvs.toArray,rfl,⟨_,get?_push_size _ rfl⟩,R.size_off,iT (bj.grow (bO _ _)) r⟩
theorem lE(R:aH w κ F O s.heap)(q:Q (.lst vs) O)(r:ag s.heap κ vs cvs):aG w b κ F O s RV Q (.ref s.heap.objs.size) (gg s { cls:=.type "list",data:=.seq cvs.toArray }):=
 .mk q (Go.push R _) ⟨_,cvs.toArray,rfl,⟨_,get?_push_size _ rfl⟩,R.size_off,iT (bj.grow (bO _ _)) r⟩
theorem AX{h':Heap}{tk:Nat}(ha:s.heap.get? a=none)(R:aH w κ F O s.heap)(q:Q (.ref O.length) (O++[o]))(k:∀b o,s.heap.get? b=some o→h'.get? b=some o)(hx:∃ob,h'.get? a=some ob)(r:∀κ',bj s.heap κ h' κ'→(∀b∈κ'.mt,b=a∨b∈κ.mt)→gM w h' κ' o (.obj a)):aG w b κ F O s RV Q (.ref a) { s with heap:=h',toks:=tk }:=
 (by obtain⟨R',x⟩:=R.addA ha k hx r;exact .mk q ⟨R',x,rfl,⟨rfl,rfl,rfl⟩,bv.app _ _ _,fun a h=>⟨h,fun o e=>k a o e⟩⟩ ⟨_,rfl,by rw[←R.len,getElem?_append_right (le_refl _),sub_self];rfl⟩)
theorem mN{h':Heap}{tk:Nat}(R:aH w κ F O s.heap)(q:Q (.ref O.length) (O++[o]))(k:∀b o,s.heap.get? b=some o→h'.get? b=some o)(hx:∃ob,h'.get? s.heap.objs.size=some ob)(r:∀κ',bj s.heap κ h' κ'→gM w h' κ' o (.obj s.heap.objs.size)):aG w b κ F O s RV Q (.ref s.heap.objs.size) { s with heap:=h',toks:=tk }:=AX (bY (le_refl _)) R q k hx fun κ' x _=>r κ' x
theorem pb{ob:Obj}(R:aH w κ F O s.heap)(q:Q (.ref O.length) (O++[o]))(nf:ob.isFreed=false)(r:∀κ',bj s.heap κ (s.heap.push ob) κ'→gM w (s.heap.push ob) κ' o (.obj s.heap.objs.size)):aG w b κ F O s RV Q (.ref s.heap.objs.size) (gg s ob):=
 mN R q (bO _ _) ⟨_,get?_push_size _ nf⟩ r
theorem ro(R:aH w κ F O s.heap)(q:Q (.ref O.length) (O++[.list vs]))(r:ag s.heap κ vs cvs):aG w b κ F O s RV Q (.ref s.heap.objs.size) (gg s { cls:=.type "list",data:=.seq cvs.toArray }):=
 pb R q rfl fun κ' x=>⟨cvs.toArray,⟨_,get?_push_size _ rfl⟩,iT x r⟩
theorem ju{h:Heap}{x:Str}{v:V}{c:Addr}:∀{F:List Fr} {P:List FP} {k:Nat},(∀(i:Nat) f p,F[i]? =some f→P[i]? =some p→bZ h κ f p)→dM F k x=some v→cW P k x=some c→∃cv,h.IsCell c (some cv)∧RV h κ v cv
 |_::F,_::P,k+1,hR,e,e'=>ju (F:=F) (P:=P) (k:=k) (fun i f p a b=>hR (i+1) f p a b) e e'
 |f::F,p::P,0,hR,e,e'=>by
  have fr:=hR 0 f p rfl rfl
  obtain⟨k,hk,e⟩:=bS e
  cases k with
  |cell=>
   obtain⟨c',cv,h1,h2,h3⟩:=fr.cell x hk
   obtain rfl:=sI (h1.symm.trans ((Bj (fr.nm▸hk)).symm.trans e'))
   obtain⟨cv,rfl,r⟩:=hY.some (v:=v) ((show f.get x=some v from e)▸h3)
   exact⟨cv,h2,r⟩
  |free=>exact ju (F:=F) (P:=P) (k:=f.up) (fun i f p a b=>hR (i+1) f p a b) e (fr.up▸(Bi (fr.nm▸hk)).symm.trans e')
  |_=>exact nN e
theorem mQ(B:bI w)(t:St w A n b κ F O s env)(h:pn GG F x=some v)(hcd:(x==("__classdict__":Str))=false)(q:Q v O):wpAny (MW w) A0 (loadName env x) (aG w b κ F O s RV Q) ba s:=by
 obtain⟨p,r,hp,T⟩:=t.env.top
 have nm:∀{f},F[0]? =some f→bZ s.heap κ f p:=fun e=>t.rel.frs 0 _ p e (hp▸rfl)
 cases F with
 |nil=>exact nN h
 |cons f rF=>
  have fr:=nm rfl
  obtain⟨kd,hn,h⟩:=bS h
  have hn':=fr.nm▸hn
  cases kd with
  | «local» =>
   obtain⟨m,hm,hl⟩:=fr.loc
   obtain⟨cv,e,rv⟩:=hY.some (v:=v) ((show f.get x=some v from h)▸hl x hn)
   exact wpAny_loadName_local t.env.kind (T.loc x hn') (T.L▸hm) e (aG.here t.rel q rv)
  |cell=>
   refine hG fun _ kk=>?_
   obtain⟨c,cv,h1,h2,h3⟩:=fr.cell x hn
   obtain⟨k1,c',k2,k3⟩:=T.cell x hn'
   obtain rfl:=sI (h1.symm.trans k2)
   obtain⟨cv,rfl,rv⟩:=hY.some (v:=v) ((show f.get x=some v from h)▸h3)
   refine kk ?_
   exact wpAny_loadName_cell t.env.kind k1 k3 h2 (aG.here t.rel q rv)
  |free=>
   obtain⟨k1,c,k2,k3⟩:=T.free x hn'
   obtain⟨cv,c1,c2⟩:=ju (F:=rF) (P:=r) (k:=f.up) (fun i f p e e'=>t.rel.frs (i+1) f p e (hp▸e')) h (fr.up▸k3)
   exact k1.elim (fun k1=>wpAny_loadName_cell t.env.kind k1 k2 c1 (aG.here t.rel q c2)) fun k1=>wpAny_loadName_free t.env.kind k1 k2 c1 (aG.here t.rel q c2) hcd
  |globalImplicit=>
   obtain⟨mg,mb,n1,n2,n3⟩:=B.globals
   obtain⟨cv,rfl,hcv⟩:=n3 x v h
   have g1:s.heap.Ns env.globals mg:=t.env.glob▸n1.keeps t.rel.base
   have g2:s.heap.Ns env.builtins mb:=t.env.blt▸n2.keeps t.rel.base
   rw[loadName]
   simp only[Env.blockKind,t.env.kind,T.glb x hn',ScopeKind.isAnnotationScope,Bool.false_and,false_eq_true,if_false]
   exact hcv.elim (fun e=>Calls.loadGlobal_global g1 e (aG.here t.rel q (iA _ _ _))) fun e=>Calls.loadGlobal_builtin g1 e.1 g2 e.2 (aG.here t.rel q (iA _ _ _))
  |_=>exact nN h
theorem jL(h:jk x=true):(x==("__debug__":Str))=false∧(x==("__classdict__":Str))=false:=by
 simpa[jk]using h
theorem mP{pos:Pos}(B:bI w)(t:St w A n b κ F O s env)(h:Gd (jk x) (Lf (pn GG F x) fun v=>Q v O)):wpAny (MW w) A0 (eval (.Name x pos) env) (aG w b κ F O s RV Q) ba s:=
 (by obtain⟨h1,h2⟩:=h.out;exact(by obtain⟨v,e,q⟩:=h2.out;exact wpAny_Name (mQ B t e (jL h1).2 q) (jL h1).1))
theorem cK(x:Str)(v:V)(y:Str):∀vars:fP,(dF vars x v).lookup y=if y=x then some (some v)else vars.lookup y
 |[]=>by
  by_cases h:y=x
  ·rw[h];exact List.lookup_cons_self.trans (if_pos rfl).symm
  ·show([(x,some v)]:fP).lookup y=_
   rw[lookup_cons,beq_false_of_ne h,if_neg h]
 |e::r=>by
  show(if e.1==x then(x,some v)::r else e::dF r x v).lookup y=_
  by_cases he:(e.1==x)=true
  ·rw[if_pos he,lookup_cons,lookup_cons (k:=e.1),beq_iff_eq.mp he]
   by_cases h:y=x
   ·rw[h,beq_self_eq_true,if_pos rfl]
   ·rw[beq_false_of_ne h,if_neg h]
  ·rw[if_neg he,lookup_cons,lookup_cons (k:=e.1),cK x v y r]
   cases h:y==e.1 with
   |false=>rfl
   |true=>exact(if_neg fun q=>he (beq_iff_eq.mpr ((beq_iff_eq.mp h).symm.trans q))).symm
theorem bZ.set{h h':Heap}(fr:bZ h κ f p)(xx:bj h κ h' κ)(r:RV h κ v cv)
 (loc:∀m,h.Ns p.L m→∃m',h'.Ns p.L m'∧∀y,f.names.lookup y=some .local→m' y=if y=x then some cv else m y)
 (cell:∀y c dv,f.names.lookup y=some .cell→p.cells.lookup y=some c→h.IsCell c dv→h'.IsCell c (if y=x then some cv else dv)):bZ h' κ ⟨f.names,dF f.vars x v,f.lam,f.up,e9 f.clo x⟩ p:=
 have key:∀y dv,hY h κ (f.get y) dv→hY h' κ (Fr.get ⟨f.names,dF f.vars x v,f.lam,f.up,e9 f.clo x⟩ y) (if y=x then some cv else dv):=fun y dv o=>by
  show hY h' κ (ss ((dF f.vars x v).lookup y)) _
  rw[cK]
  by_cases q:y=x
  ·rw[if_pos q,if_pos q];exact rM xx r
  ·rw[if_neg q,if_neg q];exact fj xx o
 { nm:=fr.nm
   lm:=fr.lm
   loc:=by obtain⟨m,hm,hl⟩:=fr.loc;obtain⟨m',h1,h2⟩:=loc m hm;exact⟨m',h1,fun y hy=>h2 y hy▸key y _ (hl y hy)⟩
   cell:=fun y hy=>(by obtain⟨c,dv,h1,h2,h3⟩:=fr.cell y hy;exact⟨c,_,h1,cell y c dv hy h1 h2,key y dv h3⟩)
   up:=fr.up
   clo:=fun c hc=>by
    cases hf:f.clo with
    |none=>rw[hf]at hc;exact nN hc
    |some d=>
     have hc:=(hf)▸hc
     have hc:(if d.name==x then none else some d)=some c:=hc
     by_cases hx:(d.name==x)=true
     ·rw[if_pos hx]at hc;exact nN hc
     ·rw[if_neg hx]at hc
      cases hc
      obtain⟨a,r,o,fd,cl,h1,h2,h3,h4,h5,h6,h7⟩:=fr.clo _ hf
      refine⟨a,r,o,fd,cl,?_,h2,h3,h4,xx.keep _ _ h5 h4,{ h6 with code:=be xx h6.code },h7⟩
      show ss ((dF f.vars x v).lookup c.name)=_
      rw[cK,if_neg fun q=>hx (beq_iff_eq.mpr q)]
      exact h1 }
theorem wj{l:af}{y:Str}{a b:NameKind}(hx:l.lookup x=some a)(hy:l.lookup y=some b)(hab:a≠b):¬y=x:=fun q=>hab (Option.some.inj (hx.symm.trans (q▸hy)))
theorem bB{F1:List Fr}{P:Unit→Shared→Prop}{E:Value→Shared→Prop}(t:St w A n b κ F O s env)(h:bn F x v=some F1)(r:RV s.heap κ v cv)(k:∀s1,dp w b κ O s κ F1 O s1→P () s1):wpAny (MW w) A0 (storeName env x cv) P E s:=by
 obtain⟨p,rp,hp,T⟩:=t.env.top
 cases F with
 |nil=>exact nN h
 |cons f rF=>
  have hp0:κ.fr[0]? =some p:=hp▸rfl
  have fr:bZ s.heap κ f p:=t.rel.frs 0 f p rfl hp0
  have nd:=sz (w9 t.rel.nd) hp0
  have cin:∀{y c},p.cells.lookup y=some c→c∈p.cells.map (·.2):=fun e=>mem_map_of_mem (cZ e)
  have nin:∀{y c},p.cells.lookup y=some c→¬p.L=c:=fun e q=>(nodup_cons.mp nd).1 (q▸cin e)
  dsimp only[bn]at h
  cases hn:f.names.lookup x with
  |none=>rw[hn]at h;exact nN h
  |some kd=>
   rw[hn]at h
   cases kd with
   | «local» =>
    obtain rfl:=sI h
    obtain⟨m,hm,_⟩:=id fr.loc
    refine wpAny_storeName_local (T.loc x (fr.nm▸hn)) (T.L▸hm) (fun h' hn' hs'=>?_) (by rw[t.env.kind];rfl)
    rw[T.L]at hn' hs'
    obtain⟨R',x',hk⟩:=t.rel.setF (f':=⟨f.names,dF f.vars x v,f.lam,f.up,e9 f.clo x⟩) hp (mem_cons_self ..) (fun b ob hb e=>(hs'.2 b hb).trans e) ((by obtain⟨o,_,_,ho,_⟩:=hn';exact⟨o,ho⟩)) fun xx=>
     fr.set xx r (fun m2 hm2=>⟨_,hn',fun y hy=>by rw[hm.agree hm2]⟩) fun y c dv hy h1 h2=>by
      rw[if_neg (wj hn hy nofun)]
      exact h2.sameBut hs' fun q=>nin h1 q.symm
    exact k _ ⟨R',x',rfl,⟨rfl,rfl,rfl⟩,bv.refl _ _,hk⟩
   |cell=>
    obtain rfl:=sI h
    obtain⟨k1,c',k2,k3⟩:=T.cell x (fr.nm▸hn)
    obtain⟨c,cv',h1,hcell,h3⟩:=fr.cell x hn
    obtain rfl:=sI (k2.symm.trans h1)
    refine wpAny_storeName_cell t.env.kind k1 k3 hcell (fun h' hn' hs'=>?_)
    obtain⟨R',x',hk⟩:=t.rel.setF (f':=⟨f.names,dF f.vars x v,f.lam,f.up,e9 f.clo x⟩) hp (mem_cons_of_mem _ (cin h1)) (fun b ob hb e=>(hs'.2 b hb).trans e) ((by obtain⟨o,ho,_⟩:=hn';exact⟨o,ho⟩)) fun xx=>
     fr.set xx r (fun m hm=>⟨m,hm.sameBut hs' (nin h1),fun y hy=>by rw[if_neg (wj hn hy nofun)]⟩) fun y c2 dv hy g1 g2=>by
      by_cases hq:y=x
      ·rw[if_pos hq]
       clear k2 k3 hcell hs'
       obtain rfl:=sI ((hq▸g1).symm.trans h1)
       exact hn'
      ·rw[if_neg hq]
       exact g2.sameBut hs' fun q=>hq (name_of_addr (List.pairwise_map.mp (nodup_cons.mp nd).2) (cZ g1) (q▸cZ h1))
    exact k _ ⟨R',x',rfl,⟨rfl,rfl,rfl⟩,bv.refl _ _,hk⟩
   |_=>exact nN h
end
end
section
variable {l:List V} {k:Nat} {h0 h:Heap} {cv:Value} {v:V} {Q:V→Oj→Prop} {es:List Expr} {pos:Pos}
theorem iS{α:Type}{c:Prop}[Decidable c]{o:Option α}{v:α}(h:(if c then o else none)=some v):c∧o=some v:=by
 by_cases hc:c
 ·rw[if_pos hc]at h;exact⟨hc,h⟩
 ·rw[if_neg hc]at h;exact nN h
theorem aB{a b:Bool}(h:(a&&b)=true):a=true∧b=true:=and_eq_true_iff.mp h
theorem b9{O:Oj}{n:Nat}(h:lA O n=some l):O[n]? =some (.list l):=by
 dsimp only[lA]at h
 cases ho:O[n]? with
 |none=>rw[ho]at h;exact nN h
 |some o=>
  rw[ho]at h
  clear ho
  cases o with
  |list l'=>obtain rfl:=sI h;rfl
  |_=>exact nN h
theorem aZ(h:lO k=true):k≤1000000:=of_decide_eq_true h
section
variable {w:World} {A:Around} {n b:Nat} {κ:Pl} {F:List Fr} {O:Oj} {s:Shared} {env:Env} {J:WI} {E:Value→Shared→Prop}
theorem cS.list(R:cS w h0 κ F O h)(e:lA O k=some l)(r:RV h κ (.ref k) cv):∃a aA,cv=.ref a∧κ.ob[k]? =some (.obj a)∧h.PlainList a aA∧ag h κ l aA.toList:=
 by obtain⟨a,e1,hi⟩:=r;obtain⟨aA,h1,h2⟩:=R.at' (b9 e) hi;exact⟨a,aA,e1,hi,h1,h2⟩
theorem cM(R:cS w h0 κ F O h)(e:iO O v=some l)(r:RV h κ v cv):∃a aA,cv=.ref a∧h.PlainList a aA∧ag h κ l aA.toList:=by
 cases v with
 |lst l'=>obtain rfl:=sI e;obtain⟨a,aA,e,h1,_,h2⟩:=r;exact⟨a,aA,e,h1,h2⟩
 |ref k=>obtain⟨a,aA,e1,_,h1,h2⟩:=R.list (k:=k) e r;exact⟨a,aA,e1,h1,h2⟩
 |_=>exact nN e
theorem aR{aA:Array Value}(r:ag h κ l aA.toList):l.length=aA.size:=de r
theorem kA{aA:Array Value}(r:ag h κ l aA.toList):(!aA.isEmpty)= !l.isEmpty:=by
 rw[Array.isEmpty, ←aR r]
 cases l<;>rfl
theorem jD(h:k≤1000000):(k:Int)<2^63:=Int.lt_of_le_of_lt (ofNat_le.mpr h) (by decide)
theorem jA{a:Addr}{aA:Array Value}{Q:Bool→Oj→Prop}(R:aH w κ F O s.heap)(h:lO l.length=true)(hl:s.heap.PlainList a aA)(rs:ag s.heap κ l aA.toList)(q:Q (!l.isEmpty) O):wpAny (MW w) A (truthy (.ref a)) (aG w b κ F O s EB Q) E s:=
 wpAny_truthy_list hl.isList (jD (aR rs▸aZ h)) (kA rs▸aG.tok R q (kA rs▸rfl))
theorem ek{t:Bool}{Q:Bool→Oj→Prop}(h:fo O v=some t)(R:aH w κ F O s.heap)(r:RV s.heap κ v cv)(q:Q t O):wpAny (MW w) A (truthy cv) (aG w b κ F O s EB Q) E s:=by
 cases v with
 |none=>obtain rfl:=sI h;cases r;exact fun _ _ _=>aG.here R q rfl
 |bool _=>obtain rfl:=sI h;cases r;exact fun _ _ _=>aG.here R q rfl
 |int i=>
  obtain rfl:=sI h;obtain⟨t,rfl⟩:=r
  refine P.truthy_int (aG.here R q ?_)
  show(i != 0)=decide (i≠0)
  rw[decide_not];rfl
 |str l=>
  obtain⟨t,rfl⟩:=r
  obtain⟨hl,e'⟩:=iS h
  clear h
  obtain rfl:=sI e'
  refine P.truthy_str (by rw[sL];exact not_le.mpr (jD (aZ hl))) (aG.tok R q ?_)
  show(((S l).length:Int) != 0)= !l.isEmpty
  rw[sL]
  cases l<;>rfl
 |lst l=>
  obtain⟨a,aA,rfl,hl,_,rs⟩:=r
  obtain⟨h1,h2⟩:=iS h
  clear h
  obtain rfl:=sI h2
  exact jA R h1 hl rs q
 |ref k=>
  obtain⟨l,h1,h⟩:=bS h
  obtain⟨h2,h3⟩:=iS h
  clear h
  obtain rfl:=sI h3
  obtain⟨a,aA,rfl,_,hl,rs⟩:=R.list h1 r
  exact jA R h2 hl rs q
 |_=>exact nN h
theorem cJ{e:Expr}(h:bA (e::es)=true):bA es=true∧starEach (e::es) env=(false,eval e env)::starEach es env:=by
 cases e<;>first|exact⟨h,rfl⟩|exact aj h
noncomputable def LO(w:World)(n:Nat)(f:Expr→List Fr→Nat→(V→Oj→Prop)→Oj→Prop):Prop:=∀{A s κ F O b env ex Q},f ex F b Q O→St w A n b κ F O s env→wpAny (MW w) A (eval ex env) (aG w b κ F O s RV Q) ba s
theorem bh{f:Expr→List Fr→Nat→(V→Oj→Prop)→Oj→Prop}(hf:LO w n f){pos:Pos}:∀{es:List Expr} {κ:Pl} {O:Oj} {s:Shared} {Q:List V→Oj→Prop},uI f es F b Q O→bA es=true→St w A n b κ F O s env→
 wpAny (MW w) A (spliced (backTo pos (starEach es env))) (aG w b κ F O s (Md es.length) Q) ba s
 |[],_,_,_,_,h,_,t=>wpAny_items_nil (aG.here t.rel h ⟨lQ,rfl⟩)
 |_::_,_,_,_,_,h,hs,t=>wpAny_items_cons (aG.seq (hf h t) fun q g r=>aG.seq (bh hf q (cJ (env:=env) hs).1 (t.next g)) fun q2 g2 r2=>.mk q2 (g.trans g2) ⟨jd (rM g2.ext r) r2.1,congrArg (· +1) r2.2⟩) (cJ hs).2
noncomputable def Mg(nk:List Str)(h:Heap)(κ:Pl)(vs:List (Str×V))(cs:List Value):Prop:=fk h κ vs (nk.zip cs)
theorem ny(S:d6 w n J)(ks:List Keyword):∀{κ:Pl} {O:Oj} {s:Shared} {Q:List (Str×V)→Oj→Prop},HX J ks F b Q O→St w A n b κ F O s env→
 wpAny (MW w) A (evalAll ((backToKw pos (keywordEach ks env)).map (·.2))) (aG w b κ F O s (Mg ((backToKw pos (keywordEach ks env)).filterMap (·.1))) Q) ba s:=by
 induction ks with
 |nil=>exact fun h t=>wpAny_evalAll_nil (aG.here t.rel h rfl)
 |cons k ks ih=>
  intro κ O s Q h t
  obtain⟨nm,e,p⟩:=k
  cases nm with
  |none=>exact False.elim h
  |some x=>exact wpAny_evalAll_cons (wpAny_bind (aG.seq (S.e h t) fun q g r=>wpAny_bind (wpAny_standAt (wpAny_pure (aG.seq (ih q (t.next g)) fun q2 g2 r2=>.mk q2 (g.trans g2) ⟨_,_,rfl,rM g2.ext r,r2⟩)))))
theorem pD(ks:List Keyword)(h:(ks.all fun k=>k.arg.isSome)=true):(backToKw pos (keywordEach ks env)).all (·.1.isSome)=true:=by
 induction ks with
 |nil=>rfl
 |cons k ks ih=>
  obtain⟨nm,e,p⟩:=k
  cases nm with
  |none=>exact aj h
  |some x=>exact ih h
theorem pY(h:ui es=true)(e:k=es.length):k≤sizeLine:=e▸le_trans (of_decide_eq_true (aB h).2) (by decide)
theorem px(S:d6 w n J)(h:Gd (ui es) (uI J.l es F b (fun vs O1=>Q (.lst vs) O1) O))(t:St w A n b κ F O s env):wpAny (MW w) A (eval (.List es pos) env) (aG w b κ F O s RV Q) ba s:=
 wpAny_List (aG.seq (bh S.l h.out.2 (aB h.out.1).1 t) fun q g r=>⟨pY h.out.1 r.2,(lE g.rel q r.1).go g⟩)
theorem uw(S:d6 w n J)(h:Gd (ui es) (uI J.l es F b (fun vs O1=>Q (.ref O1.length) (O1++[.list vs])) O))(t:St w A n b κ F O s env):wpAny (MW w) A (eval (.List es pos) env) (aG w b κ F O s RV Q) ba s:=
 wpAny_List (aG.seq (bh S.l h.out.2 (aB h.out.1).1 t) fun q g r=>⟨pY h.out.1 r.2,(ro g.rel q r.1).go g⟩)
theorem qY(S:d6 w n J)(h:Gd (ui es) (uI J.e es F b (fun vs O1=>Q (.tup vs) O1) O))(t:St w A n b κ F O s env):wpAny (MW w) A (eval (.Tuple es k pos) env) (aG w b κ F O s RV Q) ba s:=
 wpAny_Tuple (aG.seq (bh S.e h.out.2 (aB h.out.1).1 t) fun q g r=>⟨pY h.out.1 r.2,(lD g.rel q r.1).go g⟩)
theorem yy(S:d6 w n J){op:BoolOp}(es:List Expr):∀{κ:Pl} {O:Oj} {s:Shared} {Q:V→Oj→Prop},FT J op es F b Q O→St w A n b κ F O s env→wpAny (MW w) A (boolOp pos op (evalEach es env)) (aG w b κ F O s RV Q) ba s:=by
 induction es with
 |nil=>exact fun h=>h.elim
 |cons e es ih=>
  cases es with
  |nil=>exact fun h t=>S.e h t
  |cons e' es=>
   intro κ O s Q h t
   show wpAny (MW w) A (do
    let v ←eval e env
    standAt pos
    let t ←holding [v] (truthy v)
    match op,t with
    |.And,false|.Or,true=>pure v
    |_,_=>boolOp pos op (evalEach (e'::es) env)) _ ba s
   refine wpAny_bind (aG.seq (S.e h t) fun {v κ1 O1 cv s1} q g r=>wpAny_bind (wpAny_standAt (wpAny_bind (wpAny_holding ?_))))
   obtain⟨u,h1,q⟩:=q.out
   refine aG.seq (ek (b:=b) (Q:=fun u' O'=>u'=u∧O'=O1) h1 g.rel r ⟨rfl,rfl⟩) fun {u' κ2 O2 ct s2} q2 g2 r2=>?_
   clear h1
   obtain⟨rfl,rfl⟩:=q2
   cases r2
   have r:=rM g2.ext r
   have g:=g.trans g2
   cases op<;>cases u'
   ·exact wpAny_pure (.mk q g r)
   ·exact aG.on g (ih q (t.next g))
   ·exact aG.on g (ih q (t.next g))
   ·exact wpAny_pure (.mk q g r)
theorem lS(S:d6 w n J){op:BoolOp}:∀{es:List Expr} {κ:Pl} {O:Oj} {s:Shared} {Q:Bool→Oj→Prop},Jz J op es F b Q O→St w A n b κ F O s env→wpAny (MW w) A (allTrue op es env) (aG w b κ F O s EB Q) ba s
 |[],_,_,_,_,h,t=>wpAny_pure (aG.here t.rel h (by cases op<;>rfl))
 |e::es,κ,O,s,Q,h,t=>by
  show wpAny (MW w) A (do
   match op, ←isTrue e env (eval e env)with
   |.And,false=>pure false
   |.Or,true=>pure true
   |_,_=>allTrue op es env) _ ba s
  refine wpAny_bind (aG.seq (S.t h t) fun {u _ _ _ _} q g r=>?_)
  cases r
  cases op<;>cases u
  ·exact wpAny_pure (.mk q g rfl)
  ·exact aG.on g (lS S q (t.next g))
  ·exact aG.on g (lS S q (t.next g))
  ·exact wpAny_pure (.mk q g rfl)
theorem cp(S:d6 w n J):∀{l:List Stmt} {F:List Fr} {κ:Pl} {O:Oj} {s:Shared} {Q:Fl→List Fr→Oj→Prop},xs J l F b Q O→St w A n b κ F O s env→wpAny (MW w) A (execs l env) (dQ w b κ O s Q) ba s
 |[],_,_,_,_,_,h,t=>wpAny_execs_nil (.mk h (Go.refl t.rel) rfl)
 |_::l,_,_,_,_,_,h,t=>wpAny_execs_cons (dQ.seq (S.s h t) fun {f _ _ _ _ _} q g r=>by
  cases f with
  |next=>cases r;exact dQ.on g (cp S q (t.next g))
  |ret v=>obtain⟨cv,rfl,rv⟩:=r;exact .mk q g ⟨cv,rfl,rv⟩
  |_=>cases r;exact .mk q g rfl)
inductive Lp (w:World) (b:Nat) (κ:Pl) (O:Oj) (s:Shared) (P:List Fr→Oj→Prop):Shared→Prop where
 |mk {F':List Fr} {κ':Pl} {O':Oj} {s':Shared} (p:P F' O') (g:dp w b κ O s κ' F' O' s'):Lp w b κ O s P s'
theorem qW(S:d6 w n J){test:Expr}{body:List Stmt}{Q:Fl→List Fr→Oj→Prop}(h:bQ J test body b Q k F O)(t:St w A n b κ F O s env):wpAny (MW w) A (exec (.While test body [] pos) env) (dQ w b κ O s Q) ba s:=by
 refine wpAny_While (codeAny_whileLoop (fun k=>Lp w b κ O s (bQ J test body b Q k)) (fun k s1 h=>?_) k (.mk h (Go.refl t.rel)))
 obtain⟨h,g⟩:=h
 cases k with
 |zero=>exact False.elim h
 |succ k=>
  have t:=t.next g
  refine aG.seq (S.t h t) fun {u _ _ _ _} q g1 r=>?_
  cases r
  have t:=t.next g1
  have g:=g.trans g1
  cases u with
  |false=>exact wpAny_execs_nil (.mk q g rfl)
  |true=>
   refine dQ.seq (cp S q t) fun {f _ _ _ _ _} q g2 r=>?_
   have g:=g.trans g2
   cases f with
   |ret v=>obtain⟨cv,rfl,rv⟩:=r;exact .mk q g ⟨cv,rfl,rv⟩
   |brk=>cases r;exact .mk q g rfl
   |_=>cases r;exact⟨k,lt_succ_self k,.mk q g⟩
end
end
section
variable {op:CmpOp} {ops:List CmpOp} {e:Expr} {es:List Expr} {t:Sem Value} {ts:List (Sem Value)} {cv cx ck:Value} {Q:Bool→Oj→Prop} {v x y:V} {a:Addr} {pos:Pos} {l:List V} {h h0:Heap} {r:Option V}
structure uF (w:World):Prop where
 bin:∀{A s κ F O b op x y v cx cy Q},dA O op x y=some v→Ok A 1→aH w κ F O s.heap→RV s.heap κ x cx→RV s.heap κ y cy→Q v O→wpAny (MW w) A (binaryOp op cx cy) (aG w b κ F O s RV Q) ba s
 inpl:∀{A s κ F O b op i j v cx cy Q},dA O op (.int i) (.int j)=some v→Ok A 1→aH w κ F O s.heap→RV s.heap κ (.int i) cx→RV s.heap κ (.int j) cy→Q v O→wpAny (MW w) A (inplaceOp op cx cy) (aG w b κ F O s RV Q) ba s
 cmp:∀{A s κ F O b op x y t cx cy Q},i5 GG O op x y=some t→Ok A 1→aH w κ F O s.heap→RV s.heap κ x cx→RV s.heap κ y cy→Q (.bool t) O→wpAny (MW w) A (compareOp op cx cy) (aG w b κ F O s RV Q) ba s
 idx:∀{A s κ F O b x y v cx cy Q},cN O x y=some v→Ok A 1→aH w κ F O s.heap→RV s.heap κ x cx→RV s.heap κ y cy→Q v O→wpAny (MW w) A (getItem cx cy) (aG w b κ F O s RV Q) ba s
 slice:∀{A s κ F O b x lo hi st v cx cl ch cs a Q},cT O x lo hi st=some v→Ok A 1→aH w κ F O s.heap→RV s.heap κ x cx→RV s.heap κ lo cl→RV s.heap κ hi ch→RV s.heap κ st cs→
  s.heap.get? a=some { cls:=.type "slice",data:=.fields #[cl,ch,cs] }→a∉κ.mt→Q v O→wpAny (MW w) A (getItem cx (.ref a)) (aG w b κ F O s RV Q) ba s
 bi:∀{A s κ F O b id a r ca Q},cq (ofString id) a b O=some r→Ok A 1→aH w κ F O s.heap→b≤O.length→ag s.heap κ a ca→Q r.1 r.2→wpAny (MW w) A (call (.builtin id) ca []) (aG w b κ F O s RV Q) ba s
 ty:∀{A s κ F O b id a r ca Q},d5 (ofString id) a b O=some r→Ok A 1→aH w κ F O s.heap→b≤O.length→ag s.heap κ a ca→Q r.1 r.2→wpAny (MW w) A (call (.type id) ca []) (aG w b κ F O s RV Q) ba s
section
variable {w:World} {A:Around} {n b:Nat} {κ:Pl} {F:List Fr} {O:Oj} {s:Shared} {env:Env} {J:WI} {E:Value→Shared→Prop}
theorem EX{c:Bool}(h:(!c)=true):c=false:=by
 cases c with
 |false=>rfl
 |true=>exact aj h
theorem ki(h:behindInMarks op e=false):markedEach (op::ops) (e::es) (t::ts)=t::markedEach ops es ts:=by
 cases ops with
 |nil=>cases es with
  |nil=>cases ts with
   |nil=>exact congrArg (· ::[]) (markedBehindIn_of_false h)
   |cons=>rfl
  |cons=>rfl
 |cons=>rfl
theorem nh:markedEach ops es (t::ts)≠[]:=by
 cases ops with
 |nil=>cases es<;>exact List.cons_ne_nil _ _
 |cons op ops=>cases es with
  |nil=>cases ops<;>exact List.cons_ne_nil _ _
  |cons e es=>cases ops<;>cases es<;>cases ts<;>exact List.cons_ne_nil _ _
theorem nJ{t:Bool}(R:aH w κ F O s.heap)(r:RV s.heap κ (.bool t) cv)(q:Q t O):wpAny (MW w) A (truthy cv) (aG w b κ F O s EB Q) E s:=ek rfl R r q
theorem iQ{M:Model}{vs keep:List Value}{Q:Unit→Shared→Prop}(h:Q () s):wpAny M A (release vs keep) Q E s:=fun Γ p hΓ=>by rw[Sem.wp_release];exact h
theorem mU(Op:uF w){a:V}{ca:Value}{q:Bool→Prop}{P:Value→Shared→Prop}(h:Lf (i5 GG O op a v) q)(ok:Ok A 1)(R:aH w κ F O s.heap)(ra:RV s.heap κ a ca)(rv:RV s.heap κ v cv)
 (k:∀{u κ2 ct s2},q u→dp w b κ O s κ2 F O s2→RV s2.heap κ2 (.bool u) ct→P ct s2):wpAny (MW w) A (compareOp op ca cv) P E s:=by
 obtain⟨u,h1,q⟩:=h.out
 refine aG.seq (Op.cmp (b:=b) (Q:=fun u' O'=>u'=.bool u∧O'=O) h1 ok R ra rv ⟨rfl,rfl⟩) fun {u' κ2 O2 ct s2} q2 g2 r2=>?_
 clear h R h1
 obtain⟨rfl,rfl⟩:=q2
 exact k q g2 r2
theorem tI(Op:uF w)(S:d6 w n J)(ok:Ok A 1)(ops:List CmpOp):∀{es:List Expr} {a:V} {ca:Value} {κ:Pl} {O:Oj} {s:Shared},uK GG J a ops es F b Q O→ops.length=es.length→RV s.heap κ a ca→St w A n b κ F O s env→
 wpAny (MW w) A (testChain pos ca ops (markedEach ops es (evalEach es env))) (aG w b κ F O s EB Q) ba s:=by
 induction ops with
 |nil=>intro es a ca κ O s h;cases es<;>exact h.elim
 |cons op ops ih=>
  intro es a ca κ O s h hl ra t
  cases es with
  |nil=>exact h.elim
  |cons e es=>
   refine Eq.symm (show evalEach (e::es) env=eval e env::evalEach es env from rfl)▸Eq.symm (ki (EX h.out.1))▸?_
   cases ops with
   |nil=>
    cases es with
    |cons=>cases hl
    |nil=>
     show wpAny (MW w) A (do
      let rv ←holding [ca] (eval e env)
      standAt pos
      let c ←operate [ca,rv] (compareOp op ca rv)
      holding [c] (truthy c)) _ ba s
     refine wpAny_bind (wpAny_holding (aG.seq (S.l h.out.2 t) fun {v κ1 O1 cv s1} q g r=>wpAny_bind (wpAny_standAt (wpAny_bind (wpAny_operateT ?_)))))
     exact mU (b:=b) Op q ok g.rel (rM g.ext ra) r fun q g2 r2=>wpAny_holding (aG.on (g.trans g2) (nJ g2.rel r2 q))
   |cons op' ops=>
    cases es with
    |nil=>cases hl
    |cons e' es=>
     have ht:∀ts:List (Sem Value),ts≠[]→testChain pos ca (op::op'::ops) (eval e env::ts)=(do
      let rv ←holding [ca] (eval e env)
      standAt pos
      let c ←holding [ca,rv] (compareOp op ca rv)
      release [ca,rv] [c]
      if ←holding [c,rv] (truthy c)then testChain pos rv (op'::ops) ts else pure false):=fun ts hts=>by
      cases ts with
      |nil=>exact absurd rfl hts
      |cons=>rfl
     rw[ht _ (show markedEach (op'::ops) (e'::es) (evalEach (e'::es) env)≠[]from nh)]
     refine wpAny_bind (wpAny_holding (aG.seq (S.l h.out.2 t) fun {v κ1 O1 cv s1} q g r=>wpAny_bind (wpAny_standAt (wpAny_bind (wpAny_holding ?_)))))
     refine mU (b:=b) Op q ok g.rel (rM g.ext ra) r fun {u κ2 ct s2} q g2 r2=>?_
     refine wpAny_bind (iQ (wpAny_bind (wpAny_holding (aG.seq (nJ (b:=b) (Q:=fun u' O'=>u'=u∧O'=O1) g2.rel r2 ⟨rfl,rfl⟩) fun {u' κ3 O3 cu s3} q3 g3 r3=>?_))))
     clear r2
     obtain⟨rfl,rfl⟩:=q3
     cases r3
     have r:=rM (g2.trans g3).ext r
     have g:=g.trans (g2.trans g3)
     cases u' with
     |false=>exact wpAny_pure (.mk q g rfl)
     |true=>exact aG.on g (ih q (Nat.succ.inj hl) r (t.next g))
theorem nz(h:wpAny (MW w) A (eval e env) (aG w b κ F O s RV fun v O1=>Lf (fo O1 v) fun t=>Q t O1) ba s)(hv:isTrue e env (eval e env)=(do let v ←eval e env;standAt e.pos;holding [v] (truthy v))):
 wpAny (MW w) A (isTrue e env (eval e env)) (aG w b κ F O s EB Q) ba s:=by
 refine Eq.symm (hv)▸?_
 exact wpAny_bind (aG.seq h fun q g r=>(by obtain⟨u,h1,q⟩:=q.out;exact wpAny_bind (wpAny_standAt (wpAny_holding (aG.on g (ek h1 g.rel r q))))))
theorem gY(Op:uF w)(S:d6 w n J)(SE:∀{ex:Expr} {Q},la GG J ex F b Q O→wpAny (MW w) A (eval ex env) (aG w b κ F O s RV Q) ba s)(h:v0 GG J e F b Q O)(t:St w A (n+1) b κ F O s env):
 wpAny (MW w) A (isTrue e env (eval e env)) (aG w b κ F O s EB Q) ba s:=by
 cases e with
 |UnaryOp op x p=>
  cases op with
  |Not=>exact wpAny_isTrue_Not (aG.seq (S.t h t.dn) fun q g r=>.mk q g (congrArg (!·) r))
  |_=>exact nz (SE h) rfl
 |BoolOp op vs p=>exact wpAny_isTrue_BoolOp (lS S h t.dn)
 |IfExp c x y p=>
  show wpAny _ A (do if ←isTrue c env (eval c env)then isTrue x env (eval x env)else isTrue y env (eval y env)) _ ba s
  refine wpAny_bind (aG.seq (S.t h t.dn) fun {u _ _ _ _} q g r=>?_)
  cases r
  cases u with
  |true=>exact aG.on g (S.t q (t.dn.next g))
  |false=>exact aG.on g (S.t q (t.dn.next g))
 |Compare l ops rs p=>
  show wpAny _ A (do testChain p (←eval l env) ops (markedEach ops rs (evalEach rs env))) _ ba s
  exact wpAny_bind (aG.seq (S.l h.out.2 t.dn) fun q g r=>aG.on g (tI Op S t.ok.one _ q (eq_of_beq h.out.1) r (t.dn.next g)))
 |_=>exact nz (SE h) rfl
theorem ik(S:d6 w n J){e:Option Expr}{Q:V→Oj→Prop}(h:uJ J e F b Q O)(t:St w A n b κ F O s env):wpAny (MW w) A (evalPart e env) (aG w b κ F O s RV Q) ba s:=by
 cases e with
 |none=>rw[evalPart_none];exact wpAny_pure (aG.here t.rel h rfl)
 |some e=>rw[evalPart_some];exact S.e h t
noncomputable def cP(s:Shared)(cx:Value):Prop:=∃T id,typeLookup (.type T) "__getitem__"=pure (some (.builtin id))∧s.TypeIs cx T
theorem sJ{aA:Array Value}(h:s.heap.PlainList a aA):cP s (.ref a):=by obtain⟨_,ho⟩:=h;exact⟨"list",_,list_getitem_lookup,_,ho,rfl⟩
theorem qy{k:Nat}(R:aH w κ F O s.heap)(h:lA O k=some l)(r:RV s.heap κ (.ref k) cx):cP s cx:=by obtain⟨_,_,e,_,hl,_⟩:=R.list h r;exact e▸sJ hl
theorem qZ(r:RV s.heap κ (.tup l) cx):cP s cx:=by obtain⟨_,_,e,⟨_,ho⟩,_⟩:=r;exact e▸⟨"tuple",_,slot_tuple_getitem.lookup,_,ho,rfl⟩
theorem qh{l:List Nat}(r:RV s.heap κ (.str l) cx):cP s cx:=by obtain⟨_,e⟩:=r;exact e▸⟨"str",_,PySem.F.slot_str_getitem.lookup,typeIs_str _ _ _⟩
theorem oR(r:RV s.heap κ (.lst l) cx):cP s cx:=by obtain⟨_,_,e,hl,_⟩:=r;exact e▸sJ hl
theorem oq(h:mj O x y=some v)(R:aH w κ F O s.heap)(r:RV s.heap κ x cx):cP s cx:=by
 cases y with
 |int k=>cases x with
  |ref k=>obtain⟨l,h1,_⟩:=bS h;exact qy R h1 r
  |tup l=>exact qZ r
  |str l=>exact qh r
  |lst l=>exact oR r
  |_=>exact nN h
 |_=>exact nN h
inductive t8 (w:World) (h:Heap) (κ:Pl) (a:Addr) (l:List (V×V)):Prop
 |mk {K:Type} [DecidableEq K] {knd:(p:Program)→KeyKind p w K} {g:K→V} {kvs:List (K×Value)} (da:DA w knd h a kvs) (ks:kvs.map (fun e=>g e.1)=l.map (·.1)) (vs:ag h κ (l.map (·.2)) (kvs.map (·.2))) (is:∀(h':Heap) (κ':Pl) p k cv,(knd p).is k cv=true→RV h' κ' (g k) cv)
theorem t8.len{a:Addr}{l:List (V×V)}{h:Heap}{K:Type}{kvs:List (K×Value)}{g:K→V}(ks:kvs.map (fun e=>g e.1)=l.map (·.1)):kvs.length=l.length:=by
 have:=congrArg length ks
 rwa[length_map,length_map]at this
theorem cS.dict{n:Nat}{l:List (V×V)}(R:cS w h0 κ F O h)(e:cI O n=some l):∃a,κ.ob[n]? =some (.obj a)∧t8 w h κ a l:=by
 unfold cI at e
 cases hO:O[n]? with
 |none=>rw[hO]at e;exact nN e
 |some o=>
  rw[hO]at e
  obtain⟨c,hc,r⟩:=R.get hO
  clear hO
  cases o with
  |dS d=>
   cases c with
   |tab=>exact r.elim
   |obj a=>
    obtain rfl:=sI e
    obtain⟨kvs,hd,e1,e2⟩:=r
    have e3:kvs.map (fun e=>V.str e.1.cps.toList)=(d.map fun e=>((V.str e.1,e.2):V×V)).map (·.1):=(map_map (l:=kvs) (f:=Prod.fst) (g:=fun x:Str=>V.str x.cps.toList)).symm.trans ((congrArg (List.map fun x:Str=>V.str x.cps.toList) e1).trans (by rw[map_map,map_map];rfl))
    exact⟨a,hc,.mk (g:=fun x=>.str x.cps.toList) hd e3 (by rw[map_map];exact e2) fun h' κ' p k cv q=>(by obtain⟨t,e⟩:=Value.isStrOf_shape q;exact⟨t,by rw[eY];exact e⟩)⟩
  |_=>exact nN e
theorem xJ{K K':Type}[DecidableEq K][DecidableEq K']{f:K→K'}(inj:∀a b,f a=f b→a=b)(k:K){h:Heap}:∀{l:List (K×V)} {kvs:List (K'×Value)},y9 h κ f l kvs→kx h κ (getD l k) (valueAt kvs (f k))
 |[],kvs,e=>by
  obtain rfl:=List.map_eq_nil_iff.mp e.1
  trivial
 |(k0,v)::l,[],e=>nomatch e.1
 |(k0,v)::l,(k1,cv)::kvs,q2=>by
  obtain⟨e1,cv',r,e2,rv,rs⟩:=q2
  obtain⟨e0,e3⟩:=List.cons.inj e1
  injection e2 with h9 h8;subst h9 h8
  have e0:k1=f k0:=e0
  clear e1
  subst e0
  unfold getD valueAt
  rw[find?_cons,find?_cons]
  by_cases q:k0=k
  ·rw[decide_eq_true q,decide_eq_true (congrArg f q)];exact rv
  ·rw[decide_eq_false q,decide_eq_false fun z=>q (inj _ _ z)];exact xJ inj k ⟨e3,rs⟩
inductive Jb (w:World) (h:Heap) (κ:Pl) (a:Addr) (ck:Value) (r:Option V):Prop
 |mk {K:Type} [DecidableEq K] {knd:(p:Program)→KeyKind p w K} {kvs:List (K×Value)} {k:K} (da:DA w knd h a kvs) (is:∀p,(knd p).is k ck=true) (val:kx h κ r (valueAt kvs k))
theorem cS.entry{n:Nat}{i:V}(R:cS w h0 κ F O h)(e:dN O n i=some r)(rk:RV h κ i ck):∃a,κ.ob[n]? =some (.obj a)∧Jb w h κ a ck r:=by
 unfold dN at e
 cases hO:O[n]? with
 |none=>rw[hO]at e;exact nN e
 |some o=>
  rw[hO]at e
  obtain⟨c,hc,q⟩:=R.get hO
  clear hO
  cases o with
  |dS d=>
   cases c with
   |tab=>exact q.elim
   |obj a=>
    cases i with
    |str x=>
     obtain rfl:=sI e
     obtain⟨kvs,hd,e⟩:=q
     obtain⟨t,rfl⟩:=rk
     exact⟨a,hc,.mk (k:=S x) hd (fun p=>beq_self_eq_true _) (xJ (fun _ _ z=>B7 z) x e)⟩
    |_=>exact nN e
  |_=>exact nN e
theorem yg(h:Jb w s.heap κ a ck r):cP s (.ref a):=by
 cases h with
 |mk da _ _=>exact⟨"dict",_,slot_dict_getitem.lookup,(da PG).dictOf.typeIs⟩
theorem Aw{cy:Value}(h:cN O x y=some v)(R:aH w κ F O s.heap)(r:RV s.heap κ x cx)(ry:RV s.heap κ y cy):cP s cx:=by
 unfold cN at h
 cases x with
 |ref n=>
  cases hE:dN O n y with
  |none=>simp only[hE]at h;exact oq h R r
  |some e=>
   obtain⟨a,hi,D⟩:=R.entry hE ry
   obtain⟨a',rfl,hi'⟩:=r
   injection Option.some.inj (hi.symm.trans hi')with h9;subst h9
   exact yg D
 |_=>exact oq h R r
theorem uS{lo hi st:V}(h:cT O x lo hi st=some v)(R:aH w κ F O s.heap)(r:RV s.heap κ x cx):cP s cx:=by
 obtain⟨_,_,h⟩:=bS h
 obtain⟨_,_,h⟩:=bS h
 obtain⟨_,_,h⟩:=bS h
 cases x with
 |ref k=>obtain⟨l,h1,_⟩:=bS h;exact qy R h1 r
 |tup l=>exact qZ r
 |str l=>exact qh r
 |lst l=>exact oR r
 |_=>exact nN h
theorem hU{value slice:Expr}{Q:Value→Shared→Prop}
 (h:wpAny (MW w) A (eval value env) (fun o s₁=>wpAny (MW w) A (eval slice env) (fun i s₂=>cP s₂ o∧wpAny (MW w) A (getItem o i) Q E s₂) E s₁) E s):
 wpAny (MW w) A (eval (.Subscript value slice pos) env) Q E s:=by
 rw[eval_Subscript]
 refine wpAny_bind (wpAny_mono h (fun o s₁ h₁=>wpAny_bind (wpAny_holding (wpAny_mono h₁ (fun i s₂ h₂=>wpAny_bind (wpAny_standAt ?_)) fun _ _ x=>x))) fun _ _ x=>x)
 obtain⟨⟨T,id,hl,hT⟩,hg⟩:=h₂
 refine wpAny_bind ?_
 refine Eq.symm (getitemInPython_of_ne hT.not_modules)▸?_
 refine wpAny_bind (wpAny_specialOf hT hl (wpAny_pure ?_))
 have fin:∀vs,wpAny (MW w) A (operate vs (getItem o i)) (fun r s₃=>wpAny (MW w) A (letTemporaryGo value o r>>=fun _=>pure r) Q E s₃) E s₂:=fun vs=>
  wpAny_operating (wpAny_mono hg (fun r s₃ h₃=>wpAny_bind (wpAny_letTemporaryGo (wpAny_pure h₃))) fun _ _ x=>x)
 refine wpAny_bind ?_
 clear h h₁
 cases slice with
 |Slice lo hi st q=>cases st<;>exact fin _
 |_=>exact fin _
theorem xj(Op:uF w)(S:d6 w n J){x i:Expr}{Q:V→Oj→Prop}(h:J.e x F b (fun x O1=>J.e i F b (fun y O2=>Lf (cN O2 x y) fun r=>Q r O2) O1) O)(t:St w A n b κ F O s env)(ok:Ok A 1):wpAny (MW w) A (eval (.Subscript x i pos) env) (aG w b κ F O s RV Q) ba s:=
 hU (aG.seq (S.e h t) fun q g r=>aG.seq (S.e q (t.next g)) fun q2 g2 r2=>(by obtain⟨_,h1,q⟩:=q2.out;exact⟨Aw h1 g2.rel (rM g2.ext r) r2,aG.on (g.trans g2) (Op.idx h1 ok g2.rel (rM g2.ext r) r2 q)⟩))
theorem xo(Op:uF w)(S:d6 w n J){x:Expr}{lo hi st:Option Expr}{p:Pos}{Q:V→Oj→Prop}
 (h:J.e x F b (fun x O1=>uJ J lo F b (fun l O2=>uJ J hi F b (fun h O3=>uJ J st F b (fun s O4=>Lf (cT O4 x l h s) fun r=>Q r O4) O3) O2) O1) O) (t:St w A n b κ F O s env) (ok:Ok A 1):wpAny (MW w) A (eval (.Subscript x (.Slice lo hi st p) pos) env) (aG w b κ F O s RV Q) ba s:=
 hU (aG.seq (S.e h t) fun q g r=>wpAny_Slice (aG.seq (ik S q (t.next g)) fun q2 g2 r2=>aG.seq (ik S q2 ((t.next g).next g2)) fun q3 g3 r3=>aG.seq (ik S q3 (((t.next g).next g2).next g3)) fun q4 g4 r4=>
  let⟨_,h1,q⟩:=q4.out
  have gp:=Go.push (b:=b) g4.rel _
  have rx:=rM (((g2.trans g3).trans g4).trans gp).ext r
  ⟨uS h1 gp.rel rx,aG.on ((((g.trans g2).trans g3).trans g4).trans gp) (Op.slice h1 ok gp.rel rx (rM ((g3.trans g4).trans gp).ext r2) (rM (g4.trans gp).ext r3) (rM gp.ext r4) (get?_push_size _ rfl) g4.rel.size_off q)⟩))
end
end
section
variable {P:Unit→Shared→Prop} {tgt:Expr} {v:V} {cv:Value} {a:Addr} {h:Heap} {hid':List Addr} {κ2:Pl} {F2:List Fr} {O2:Oj} {k:Nat}
section
variable {w:World} {A:Around} {n b:Nat} {κ κ1:Pl} {F F1:List Fr} {O O1:Oj} {s s1 s2:Shared} {env:Env} {J:WI} {E:Value→Shared→Prop}
theorem gc{F F1:List Fr}{e:Expr}{es:List Expr}{vs:List V}(h:ge F (e::es) vs=some F1):∃x p v r F2,e=.Name x p∧vs=v::r∧bn F x v=some F2∧ge F2 es r=some F1:=by
 cases vs with
 |nil=>exact nN h
 |cons v r=>
  cases e with
  |Name x p=>obtain⟨F2,h1,h2⟩:=bS h;exact⟨x,p,v,r,F2,rfl,rfl,h1,h2⟩
  |_=>exact nN h
theorem pQ(es:List Expr):∀{vs:List V} {F F1:List Fr},ge F es vs=some F1→(assignEach es env).length=vs.length∧(assignEach es env).findIdx? (·.1)=none:=by
 induction es with
 |nil=>intro vs F F1 h;cases vs with|nil=>exact⟨rfl,rfl⟩|cons=>exact nN h
 |cons e es ih=>
  intro vs F F1 h
  obtain⟨x,p,v,r,F2,rfl,rfl,_,h2⟩:=gc h
  obtain⟨h3,h4⟩:=ih h2
  refine⟨congrArg (· +1) h3,?_⟩
  show List.findIdx? _ (_::_)=none
  rw[List.findIdx?_cons,h4];rfl
theorem pP(es:List Expr):∀{vs:List V} {cvs:List Value} {F F1:List Fr} {s:Shared},ge F es vs=some F1→St w A n b κ F O s env→ag s.heap κ vs cvs→(∀s1,dp w b κ O s κ F1 O s1→P () s1)→wpAny (MW w) A (assignInOrder ((assignEach es env).map (·.2)) cvs) P E s:=by
 induction es with
 |nil=>
  intro vs cvs F F1 s h t r k
  cases vs with
  |nil=>obtain rfl:=sI h;cases r;exact wpAny_pure (k _ (Go.refl t.rel))
  |cons=>exact nN h
 |cons e es ih=>
  intro vs cvs F F1 s h t r k
  refine hG fun _ kk=>?_
  obtain⟨x,p,v,r',F2,rfl,rfl,h1,h2⟩:=gc h
  obtain⟨cv,cvs,rfl,r1,r2⟩:=r
  refine kk ?_
  show wpAny (MW w) A (assignInOrder (assign (.Name x p) env::(assignEach es env).map (·.2)) (cv::cvs)) _ E s
  exact wpAny_assignInOrder_more (wpAny_assign_Name (bB t h1 r1 fun s1 g=>ih h2 (t.next g) (iT g.ext r2) fun s2 g2=>k s2 (g.trans g2)))
theorem d8(t:St w A n b κ F O s env)(h:dG F tgt v=some F1)(r:RV s.heap κ v cv)(k:∀s1,dp w b κ O s κ F1 O s1→P () s1):wpAny (MW w) A (assign tgt env cv) P E s:=by
 cases tgt with
 |Name x p=>exact wpAny_assign_Name (bB t h r k)
 |Tuple es _ p=>
  cases v with
  |tup l=>
   obtain⟨a,aA,rfl,ht,ha,rs⟩:=r
   have h1:=pQ (env:=env) es h
   refine wpAny_assign_Tuple t.ok.hd ht.isTuple (by rw[h1.1];exact aR rs) h1.2 fun h' he=>?_
   have g:dp w b κ O s κ F O { s with heap:=h' }:=Go.grow t.rel (fun b o e=>he b o (fun q=>by rw[q,bY (le_refl _)]at e;exact nN e) e) ⟨rfl,rfl,rfl⟩
   exact pP es h (t.next g) (iT g.ext rs) fun s1 g1=>k s1 (g.trans g1)
  |_=>exact nN h
 |_=>exact nN h
theorem Go.mt(g:dp w b κ O s κ1 F1 O1 s1)(h:a∈κ.mt):a∈κ1.mt:=by
 obtain⟨l,e⟩:=g.ext.pre
 rcases mem_append.mp h with h|h
 ·exact mem_append_left _ (g.frs▸h)
 ·rcases mem_append.mp h with h|h
  ·exact Pl.mt_hid (g.hid a h).1
  ·exact mem_append_right _ (mem_append_right _ (e▸map_append▸mem_append_left _ h))
theorem Go.old(g:dp w b κ O s κ1 F1 O1 s1)(h:s1.heap.get? a=none):s.heap.get? a=none:=by
 cases ho:s.heap.get? a with
 |none=>rfl
 |some o=>
  by_cases hm:a∈κ.mt
  ·obtain⟨o',e⟩:=g.rel.ex a (g.mt hm);exact nomatch h.symm.trans e
  ·exact nomatch h.symm.trans (g.ext.keep a o ho hm)
theorem cS.touch{h0 h':Heap}{H:List Addr}(R:cS w h0 κ F O h)(hH:∀a∈H,a∈κ.hid)(bM:hid'.Sublist κ.hid)(k:∀b o,b∉H→h.get? b=some o→h'.get? b=some o)(hx:∀a∈hid',a∈H→∃o,h'.get? a=some o):
 cS w h0 ⟨κ.fr,κ.ob,hid'⟩ F O h'∧bj h κ h' ⟨κ.fr,κ.ob,hid'⟩:=
 have sm:(Pl.mt ⟨κ.fr,κ.ob,hid'⟩).Sublist κ.mt:=(Sublist.refl _).append (bM.append (Sublist.refl _))
 have x:bj h κ h' ⟨κ.fr,κ.ob,hid'⟩:=⟨prefix_rfl,fun b o hb hn=>k b o (fun q=>hn (Pl.mt_hid (hH b q))) hb,fun b hb hn=>absurd (sm.subset hb) hn⟩
 ⟨{ len:=R.len
    flen:=R.flen
    base:=fun b o hb=>k b o (fun q=>nomatch (R.off b (Pl.mt_hid (hH b q))).symm.trans hb) (R.base b o hb)
    off:=fun a ha=>R.off a (sm.subset ha)
    nd:=R.nd.sublist sm
    ex:=fun a ha=>(Classical.em (a∈H)).elim (fun q=>(mem_append.mp ha).elim (fun z=>by
         obtain⟨p,hp,hap⟩:=mem_flatMap.mp z
         obtain⟨i,hi⟩:=List.mem_iff_getElem?.mp hp
         exact absurd (mem_append_left _ (hH a q)) (py R.nd hi hap)) fun z=>(mem_append.mp z).elim (fun z=>hx a z q) fun z=>by
         obtain⟨c,hc,rfl⟩:=mem_map.mp z
         obtain⟨i,hi⟩:=List.mem_iff_getElem?.mp hc
         exact absurd rfl (vI R.nd (hH _ q) hi)) fun q=>(by obtain⟨o,ho⟩:=R.ex a (sm.subset ha);exact⟨o,k a o q ho⟩)
    objs:=fun i o c e e'=>eL x (fun ob q=>k _ ob (fun z=>vI R.nd (hH _ z) e' rfl) q) (R.objs i o c e e')
    frs:=fun i f p e e'=>cD x (fun _ z=>z) (fun b hb ob q=>k b ob (fun z=>py R.nd e' hb (mem_append_left _ (hH b z))) q) (R.frs i f p e e')
    tab:=R.tab },x⟩
noncomputable def ir:List String:=["enumerate","zip","dict_itemiterator","dict_reverseitemiterator","odict_iterator","itertools.zip_longest","itertools.pairwise"]
noncomputable def JY(o:Obj):Prop:=∃n,o.cls=.type n∧ir.contains n=false
inductive j8 (w:World) (h:Heap) (κ:Pl):gV→Addr→List Addr→Prop
 |walk {l:List V} {I:Addr} {fp:List Addr} {n k:Nat} {Pv:Nat→Value→Prop} {St:Nat→Heap→Prop}
  (W:∀A:Around,A.handled=none→Walks PG w A I fp [I] n Pv St) (cls:∀i h',St i h'→∃o,h'.get? I=some o∧JY o)
  (st:St k h) (len:n=k+l.length) (fps:∀b∈fp,b=I∨b∉κ.mt∧∃o,h.get? b=some o)
  (aA:∀j v cv,l[j]? =some v→Pv (k+j) cv→RV h κ v cv):j8 w h κ (.items l) I [I]
 |live {I a:Addr} {n k:Nat} (it:h.IsListIter I a k) (at_:κ.ob[n]? =some (.obj a)):j8 w h κ (.live n k) I [I]
 |keys {I a:Addr} {n k m:Nat} (it:h.IsKeyIter I a k m m) (at_:κ.ob[n]? =some (.obj a)):j8 w h κ (.keys n k m) I [I]
 |enum {e it l:Addr} {i:Nat} {items:Array Value} {vs:List V} {old:Value} (hei:e≠it)
  (he:IsEnum h e it i old) (hit:h.IsListIter it l i) (hl:h.PlainList l items) (o3:l∉κ.mt)
  (aA:ag h κ vs (items.toList.drop i)):j8 w h κ (.items ((vs.zipIdx i).map fun y=>.tup [.int y.2,y.1])) e [e,it]
theorem j8.go{src:gV}{I:Addr}{H:List Addr}(S:j8 w s.heap κ src I H)(x:bj s.heap κ s1.heap κ1)(hk:∀a∈κ.hid,a∈κ1.hid∧∀o,s.heap.get? a=some o→s1.heap.get? a=some o)(hH:∀a∈H,a∈κ.hid):j8 w s1.heap κ1 src I H:=by
 cases S with
 |walk W cls st len fps aA=>
  have hI:=hH I (mem_cons_self ..)
  exact .walk W cls ((W {} rfl).frame _ _ _ st fun b hb ob hob=>(fps b hb).elim (fun q=>(hk b (q▸hI)).2 ob hob) fun q=>x.keep b ob hob q.1) len
   (fun b hb=>(fps b hb).imp id fun⟨h1,ob,hob⟩=>⟨x.off hob h1,ob,x.keep b ob hob h1⟩) fun j v cv hj hp=>rM x (aA j v cv hj hp)
 |live it at_=>
  obtain⟨o,ho,r⟩:=it
  exact .live ⟨o,(hk I (hH I (mem_cons_self ..))).2 o ho,r⟩ (cR x.pre at_)
 |keys it at_=>
  obtain⟨o,ho,r⟩:=it
  exact .keys ⟨o,(hk I (hH I (mem_cons_self ..))).2 o ho,r⟩ (cR x.pre at_)
 | @enum e it l i items vs old hei he hit hl o3 aA=>
  obtain⟨o,ho,r⟩:=hit
  obtain⟨n,hn⟩:=hl
  exact .enum hei ((hk I (hH I (mem_cons_self ..))).2 _ he) ⟨o,(hk it (hH it (mem_cons_of_mem _ (mem_cons_self ..)))).2 _ ho,r⟩ ⟨n,x.keep _ _ hn o3⟩ (x.off hn o3) (iT x aA)
structure db (w:World) (b:Nat) (FR:List FP) (κ:Pl) (O:Oj) (s:Shared) (src:gV) (I:Addr) (H:List Addr) (F1:List Fr) (O1:Oj) (κ1:Pl) (s1:Shared):Prop where
 go:xa w (HW w) b FR κ O s κ1 F1 O1 s1
 src:j8 w s1.heap κ1 src I H
 new:∀a∈H,s.heap.get? a=none
 hid:∀a∈H,a∈κ1.hid
noncomputable def pA(I:Addr)(H:List Addr)(tgt:Expr):Prop:=(∃i,H=[I,i])→isTup tgt=true
variable {src:gV} {I:Addr} {H:List Addr} {FR:List FP}
theorem db.on(T:db w b FR κ O s src I H F1 O1 κ1 s1)(g:dp w b κ1 O1 s1 κ2 F2 O2 s2):db w b FR κ O s src I H F2 O2 κ2 s2:=⟨T.go.trans g,T.src.go g.ext g.hid T.hid,T.new,fun a h=>(g.hid a (T.hid a h)).1⟩
theorem db.after(g:dp w b κ O s κ1 F1 O1 s1)(T:db w b κ1.fr κ1 O1 s1 src I H F2 O2 κ2 s2):db w b κ.fr κ O s src I H F2 O2 κ2 s2:=⟨g.trans T.go,T.src,fun a h=>g.old (T.new a h),T.hid⟩
theorem xa.raw(g:xa w (HW w) b FR κ O s κ1 F1 O1 s1)(new:∀a∈H,s.heap.get? a=none)(hH:∀a∈H,a∈κ1.hid)(R0:aH w κ F O s.heap)(bM:hid'.Sublist κ1.hid)(old:∀a∈κ1.hid,a∉H→a∈hid')(k:∀b o,b∉H→s1.heap.get? b=some o→s2.heap.get? b=some o)(hx:∀a∈hid',a∈H→∃o,s2.heap.get? a=some o)(q:am s1 s2):
 xa w (HW w) b FR κ O s ⟨κ1.fr,κ1.ob,hid'⟩ F1 O1 s2∧bj s1.heap κ1 s2.heap ⟨κ1.fr,κ1.ob,hid'⟩:=
 (by obtain⟨R,x⟩:=g.rel.touch hH bM k hx;exact⟨⟨R,g.ext.trans x,g.frs,⟨q.1.trans g.rest.1,q.2.1.trans g.rest.2.1,q.2.2.trans g.rest.2.2⟩,g.mono,fun a h=>
  have na:a∉H:=fun z=>(by obtain⟨o,ho⟩:=R0.ex a (Pl.mt_hid h);exact nomatch (new a z).symm.trans ho)
  ⟨old a (g.hid a h).1 na,fun o e=>k a o na ((g.hid a h).2 o e)⟩⟩,x⟩)
theorem db.drop(T:db w b FR κ O s src I H F1 O1 κ1 s1)(R0:aH w κ F O s.heap)(k:∀b o,b∉H→s1.heap.get? b=some o→s2.heap.get? b=some o)(q:am s1 s2):∃κ2,κ2.ob=κ1.ob∧xa w (HW w) b FR κ O s κ2 F1 O1 s2:=
 ⟨⟨κ1.fr,κ1.ob,κ1.hid.filter fun a=> !H.contains a⟩,rfl,(T.go.raw T.new T.hid R0 (hid':=κ1.hid.filter fun a=> !H.contains a) List.filter_sublist (fun a h hn=>mem_filter.mpr ⟨h,by simpa using hn⟩) k (fun a h hH=>absurd hH (by simpa using(mem_filter.mp h).2)) q).1⟩
theorem db.step'{src':gV}(T:db w b FR κ O s src I H F1 O1 κ1 s1)(R0:aH w κ F O s.heap)(k:∀b o,b∉H→s1.heap.get? b=some o→s2.heap.get? b=some o)(hx:∀a∈H,∃o,s2.heap.get? a=some o)(q:am s1 s2)
 (sr:bj s1.heap κ1 s2.heap κ1→j8 w s2.heap κ1 src' I H∧RV s2.heap κ1 v cv):db w b FR κ O s src' I H F1 O1 κ1 s2∧RV s2.heap κ1 v cv:=
 (by obtain⟨g,x⟩:=T.go.raw T.new T.hid R0 (hid':=κ1.hid) (Sublist.refl _) (fun a h _=>h) k (fun a _ h=>hx a h) q;exact⟨⟨g,(sr x).1,T.new,T.hid⟩,(sr x).2⟩)
theorem gr{Q:Unit→Shared→Prop}(it:∃o,s.heap.get? I=some o∧JY o)(h:Q () s):wpAny (MW w) A (letOwnedTupleGo tgt (.ref I) cv) Q E s:=by
 obtain⟨o,ho,n,hn,hno⟩:=it
 have two:wpAny (MW w) A (letOwnedTupleGo (.Tuple [] 0 default) (.ref I) cv) Q E s:=by
  cases cv with
  |ref a=>
   show wpAny _ _ (load I>>=_) _ _ _
   refine wpAny_bind (wpAny_load ho ?_)
   refine Eq.symm (hn)▸?_
   cases hd:o.data<;>first
    |exact wpAny_pure h
    |(show wpAny _ _ (if(ir.contains n&&_)=true then _ else _) _ _ _;rw[hno,Bool.false_and,if_neg Bool.false_ne_true];exact wpAny_pure h)
  |_=>exact wpAny_pure h
 cases tgt with
 |Tuple=>exact two
 |List=>exact two
 |_=>exact wpAny_pure h
theorem pB{o:Obj}{n:String}(ho:h.get? I=some o)(hc:o.cls=.type n)(h2:ir.contains n=false):∃o,h.get? I=some o∧JY o:=⟨o,ho,n,hc,h2⟩
theorem kM(it:h.IsListIter I a k):∃o,h.get? I=some o∧JY o:=by obtain⟨_,ho,hc,_⟩:=it;exact pB ho hc (by decide)
theorem u3{n ep:Nat}(it:h.IsKeyIter I a k n ep):∃o,h.get? I=some o∧JY o:=by obtain⟨_,ho,hc,_⟩:=it;exact pB ho hc (by decide)
theorem jM{b:Addr}(h:b∉ [a]):b≠a:=fun q=>h (q▸mem_cons_self ..)
theorem db.step{q:Option (V×gV)→Prop}{P:Option Value→Shared→Prop}(T:db w b FR κ O s src I H F1 O1 κ1 s1)(R0:aH w κ F O s.heap)(hh:A.handled=none)(ht:pA I H tgt)(hn:Lf (gB O1 src) q)
 (kn:∀{κ2 s2},q none→κ2.ob=κ1.ob→xa w (HW w) b FR κ O s κ2 F1 O1 s2→P none s2)
 (ks_:∀{v src' cv s2},q (some (v,src'))→wpAny (MW w) A (letOwnedTupleGo tgt (.ref I) cv) (fun _ s3=>db w b FR κ O s src' I H F1 O1 κ1 s3∧RV s3.heap κ1 v cv) E s2→P (some cv) s2):wpAny (MW w) A (pyNext (.ref I)) P E s1:=by
 obtain⟨x,h1,hq⟩:=hn.out
 have hT:=T
 obtain⟨_,S,_,hid⟩:=T
 clear hn new
 cases S with
 | @walk l I fp n k Pv St W cls st len fps aA=>
  cases l with
  |nil=>cases h1;exact(W A hh).done s1 _ _ (len▸st) fun h' tk hk=>(by obtain⟨_,e0,g⟩:=hT.drop (s2:={ s1 with heap:=h',toks:=tk }) R0 hk ⟨rfl,rfl,rfl⟩;exact kn hq e0 g)
  |cons v l=>
   cases h1
   refine(W A hh).item k s1 _ _ (len▸Nat.lt_add_of_pos_right (succ_pos _)) st fun cv h' tk hp st' hk=>ks_ hq (gr (cls _ _ st') (hT.step' R0 hk (fun a h=>(by obtain⟨o,ho,_⟩:=cls _ _ st';exact⟨o,mem_singleton.mp h▸ho⟩)) ⟨rfl,rfl,rfl⟩ fun x=>⟨?_,rM x (aA 0 v cv rfl hp)⟩))
   exact .walk W cls st' (len.trans (add_right_comm k l.length 1)) (fun b hb=>(fps b hb).imp id fun⟨h1,ob,hob⟩=>⟨h1,ob,x.keep b ob hob h1⟩) fun j v' cv' hj hp'=>rM x (aA (j+1) v' cv' hj (add_right_comm k 1 j▸hp'))
 | @live I a n k it at_=>
  obtain⟨l,hl,e⟩:=mS h1
  obtain⟨a',aA,e',hi,hpl,rs⟩:=hT.go.rel.list hl ⟨a,rfl,at_⟩
  clear hi
  cases e'
  cases hk:l[k]? with
  |none=>
   rw[hk]at e;cases e
   exact wpAny_pyNext_list_end hh it hpl.isList (Array.getElem?_eq_none (aR rs▸List.getElem?_eq_none_iff.mp hk)) fun h' he=>let⟨_,e0,g⟩:=hT.drop (s2:={ s1 with heap:=h' }) R0 (fun b o hb e=>he b o (jM hb) e) ⟨rfl,rfl,rfl⟩;kn hq e0 g
  |some v=>
   rw[hk]at e;cases e
   obtain⟨cv,hcv,rv⟩:=eE rs hk
   refine wpAny_pyNext_list_item it hpl.isList (x:=cv) (getElem?_toList▸hcv) fun h' hit' hs'=>ks_ hq (gr (kM hit') (hT.step' R0 (fun b o hb e=>hs'.extBut b o (jM hb) e) (fun a h=>(by obtain⟨o,ho,_⟩:=hit';exact⟨o,mem_singleton.mp h▸ho⟩)) ⟨rfl,rfl,rfl⟩ fun x=>⟨.live hit' at_,rM x rv⟩))
 | @keys I a n k m it at_=>
  obtain⟨l,hl,e⟩:=bS h1
  by_cases hlm:l.length=m
  case neg=>rw[if_neg hlm]at e;exact nN e
  rw[if_pos hlm]at e
  cases e
  obtain⟨a',e',D⟩:=hT.go.rel.dict hl
  cases Option.some.inj (e'.symm.trans at_)
  cases D with
  | @mk K _ knd g kvs da ks vs is=>
  have hkl:=t8.len (a:=a) (h:=s1.heap) ks
  have hm:=da PG
  rw[hkl,hlm]at hm
  have it':s1.heap.IsKeyIter I a k kvs.length m:=by rw[hkl,hlm];exact it
  cases hk:l[k]? with
  |none=>
   rw[hk]at hq
   exact wpAny_pyNext_dict_end hh it' hm (getElem?_eq_none (hkl▸List.getElem?_eq_none_iff.mp hk)) fun h' he=>let⟨_,e0,g⟩:=hT.drop (s2:={ s1 with heap:=h' }) R0 (fun b o hb e=>he b o (jM hb) e) ⟨rfl,rfl,rfl⟩;kn hq e0 g
  |some v=>
   rw[hk]at hq
   have hkv:k<kvs.length:=hkl▸(List.getElem?_eq_some_iff.mp hk).1
   have e1:g kvs[k].1=v.1:=by
    have:=congrArg (fun z=>z[k]?) ks
    simp only[getElem?_map]at this
    rw[hk,getElem?_eq_getElem hkv]at this
    exact Option.some.inj this
   refine wpAny_pyNext_dict_item (k:=kvs[k].1) (v:=kvs[k].2) it' hm (getElem?_eq_getElem hkv) fun key h' hkey hit' hs'=>ks_ hq (gr (u3 hit') (hT.step' R0 (fun b o hb e=>hs'.extBut b o (jM hb) e) (fun a h=>(by obtain⟨o,ho,_⟩:=hit';exact⟨o,mem_singleton.mp h▸ho⟩)) ⟨rfl,rfl,rfl⟩ fun x=>⟨.keys (by rw[hkl,hlm]at hit';exact hit') at_,e1▸is _ _ _ _ _ hkey⟩))
 | @enum e it l i items vs old hei he hit hl o3 aA=>
  have htu:=ht ⟨_,rfl⟩
  cases tgt with
  |Tuple es kk p=>
   cases vs with
   |nil=>
    cases h1
    refine wpAny_pyNext_enum_end hh he hit hl.isList (Array.getElem?_eq_none ?_) fun h' hx=>let⟨_,e0,g⟩:=hT.drop (s2:={ s1 with heap:=h' }) R0 (fun b o hb e=>hx b o (fun q=>hb (q▸mem_cons_of_mem _ (mem_cons_self ..))) e) ⟨rfl,rfl,rfl⟩;kn hq e0 g
    exact drop_eq_nil_iff.mp aA
   |cons v vs=>
    cases h1
    obtain⟨cv,r,er,rv,rvs⟩:=aA
    have hx:items[i]? =some cv:=by
     have:=List.getElem?_drop (xs:=items.toList) (i:=i) (j:=0)
     rw[er,Nat.add_zero]at this
     rw[←getElem?_toList];exact this.symm
    have hr:items.toList.drop (i+1)=r:=by rw[←drop_drop,er];rfl
    have hnew:s1.heap.get? s1.heap.objs.size=none:=bY (le_refl _)
    have hTe:s1.heap.objs.size≠I:=fun q=>nomatch (q▸hnew).symm.trans he
    have hle:l≠I:=fun q=>o3 (q▸Pl.mt_hid (hid _ (mem_cons_self ..)))
    have hli:l≠it:=fun q=>o3 (q▸Pl.mt_hid (hid _ (mem_cons_of_mem _ (mem_cons_self ..))))
    refine wpAny_pyNext_enum_item he hit hl.isList hx hei fun h' ho hit' hT' hsz hk=>ks_ hq (wpAny_letOwnedTupleGo_enum ho fun h'' he'' hs''=>?_)
    have hb':∀{b o},b≠I→h'.get? b=some o→h''.get? b=some o:=fun hbe x=>(hs''.2 _ hbe).trans x
    obtain⟨nl,hnl⟩:=hl
    obtain⟨oi,hoi,ri⟩:=hit'
    refine hT.step' R0 (fun b o hb x=>hb' (fun q=>hb (q▸mem_cons_self ..)) (hk b o (fun q=>hb (q▸mem_cons_self ..)) (fun q=>hb (q▸mem_cons_of_mem _ (mem_cons_self ..))) x)) (fun a h=>?_) ⟨rfl,rfl,rfl⟩ fun x=>⟨.enum hei he'' ⟨oi,hb' (Ne.symm hei) hoi,ri⟩ ⟨nl,hb' hle (hk l _ hle hli hnl)⟩ o3 (hr▸iT x rvs),?_⟩
    ·rcases mem_cons.mp h with h|h
     ·exact⟨_,h▸he''⟩
     ·exact⟨oi,mem_singleton.mp h▸hb' (Ne.symm hei) hoi⟩
    ·exact⟨_,_,rfl,⟨0,hb' hTe hT'⟩,hT.go.rel.size_off,jd ⟨_,rfl⟩ (jd (rM x rv) lQ)⟩
  |_=>exact aj htu
end
end
section
variable {o:Obj} {κ':Pl} {h:Heap} {a:Addr} {l:List V} {v:V} {cv:Value} {P:Value→Shared→Prop} {pos:Pos} {Q:Fl→List Fr→Oj→Prop} {e tgt:Expr} {body orelse:List Stmt}
section
variable {w:World} {A:Around} {n b:Nat} {κ κ1:Pl} {F F1:List Fr} {O O1:Oj} {s s1 s2:Shared} {env:Env} {J:WI} {E:Value→Shared→Prop}
variable {src:gV} {I:Addr} {H:List Addr}
theorem Go.hide{new:List Addr}{h':Heap}(R:aH w κ F O s.heap)(k:∀b o,s.heap.get? b=some o→h'.get? b=some o)(hn:∀a∈new,s.heap.get? a=none∧∃o,h'.get? a=some o)(nd:new.Nodup):dp w b κ O s ⟨κ.fr,κ.ob,new++κ.hid⟩ F O { s with heap:=h' }:=
 (by obtain⟨R',x⟩:=R.addH k hn nd;exact⟨R',x,rfl,⟨rfl,rfl,rfl⟩,bv.refl _ _,fun a h=>⟨mem_append_right _ h,fun o e=>k a o e⟩⟩)
theorem ut(R:aH w κ F O s.heap)(f:o.isFreed=false)
 (h:∀κ',bj s.heap κ (s.heap.push o) κ'→(s.heap.push o).get? s.heap.objs.size=some o→(∀b,b∈κ'.mt→b=s.heap.objs.size∨b∈κ.mt)→j8 w (s.heap.push o) κ' src s.heap.objs.size [s.heap.objs.size]):
 ∃κ',db w b κ.fr κ O s src s.heap.objs.size [s.heap.objs.size] F O κ' (gg s o):=by
 have nn:=bY (h:=s.heap) (le_refl _)
 have g:dp w b κ O s ⟨κ.fr,κ.ob,[s.heap.objs.size]++κ.hid⟩ F O (gg s o):=Go.hide R (bO _ o) (fun a ha=>(mem_singleton.mp ha)▸⟨nn,_,get?_push_size _ f⟩) (nodup_cons.mpr ⟨not_mem_nil,nodup_nil⟩)
 refine⟨_,g,h _ g.ext (get?_push_size _ f) fun b hb=>?_,fun a ha=>(mem_singleton.mp ha)▸nn,fun a ha=>mem_append_left _ ha⟩
 rcases mem_append.mp hb with z|z
 ·exact .inr (mem_append_left _ z)
 ·rcases mem_append.mp z with z|z
  ·exact(mem_cons.mp z).imp id Pl.mt_hid
  ·exact .inr (mem_append_right _ (mem_append_right _ z))
theorem wl{b c:Addr}(hb:b∈[a,c])(h1:c∉κ'.mt)(h2:h.get? c=some o):b=a∨b∉κ'.mt∧∃o,h.get? b=some o:=by
 rcases mem_cons.mp hb with e|e
 ·exact .inl e
 ·obtain rfl:=mem_singleton.mp e;exact .inr ⟨h1,_,h2⟩
theorem dW{r:List Value}{j:Nat}(rs:ag h κ' l r)(hj:l[j]? =some v)(hp:r[0+j]? =some cv):RV h κ' v cv:=by
 obtain⟨c,hc,rc⟩:=eE rs hj
 rw[zero_add]at hp
 exact Option.some.inj (hc.symm.trans hp)▸rc
theorem qz(x y z:Int):((Builtin.Range.rangeSize x y z).toNat:Int)=Builtin.Range.rangeSize x y z:=by
 unfold Builtin.Range.rangeSize
 apply toNat_of_nonneg
 split
 ·split
  ·rename_i h h1;exact add_nonneg (Int.ediv_nonneg (Int.le_sub_one_of_lt (Int.sub_pos_of_lt h1)) (Int.le_of_lt h)) (by decide)
  ·exact Int.le_refl _
 ·split
  ·rename_i h h1;exact add_nonneg (Int.ediv_nonneg (Int.le_sub_one_of_lt (Int.sub_pos_of_lt h1)) (Int.neg_nonneg_of_nonpos (not_lt.mp h))) (by decide)
  ·exact Int.le_refl _
theorem k8(B:bI w)(R:aH w κ F O s.heap)(h:a∈κ.mt):(a==sysModules)=false:=by
 obtain⟨o,ho⟩:=B.sysm
 rw[beq_eq_false_iff_ne]
 rintro rfl
 exact nomatch (R.off _ h).symm.trans ho
theorem xl(B:bI w){q:gV→Prop}(h:Lf (gb O v) q)(R:aH w κ F O s.heap)(r:RV s.heap κ v cv)(k:∀{src I κ' s'},q src→db w b κ.fr κ O s src I [I] F O κ' s'→P (.ref I) s'):wpAny (MW w) A (pyIter cv) P E s:=by
 obtain⟨src,h,hq⟩:=h.out
 have k':∀{o:Obj},(∃κ',db w b κ.fr κ O s src s.heap.objs.size [s.heap.objs.size] F O κ' (gg s o))→P (.ref s.heap.objs.size) (gg s o):=fun x9=>(by obtain⟨_,T⟩:=x9;exact k hq T)
 have nn:=bY (h:=s.heap) (le_refl _)
 have off:∀{κ':Pl} {a:Addr} {o:Obj},(∀b,b∈κ'.mt→b=s.heap.objs.size∨b∈κ.mt)→s.heap.get? a=some o→a∉κ.mt→a∉κ'.mt:=fun f ho ha z=>(f _ z).elim (fun e=>nomatch (e▸nn).symm.trans ho) ha
 cases v with
 |lst l=>
  obtain rfl:=sI h
  obtain⟨a,aA,rfl,hl,ha,rs⟩:=r
  obtain⟨nl,hnl⟩:=id hl
  refine wpAny_pyIter_list hl.isList (k' (ut R rfl fun κ' x e hn=>?_))
  exact .walk (n:=aA.size) (k:=0) (fun A hA=>Walks.list hA _ a (fun q=>nomatch (q▸nn).symm.trans hnl) aA) (fun i h' st=>kM st.1) ⟨⟨_,e,rfl,rfl⟩,hl.isList.at fun o q=>x.keep a o q ha⟩ ((aR rs).symm.trans (zero_add _).symm)
   (fun b hb=>wl hb (off hn hnl ha) (x.keep _ _ hnl ha)) fun j v cv hj hp=>dW (iT x rs) hj (getElem?_toList.trans hp)
 |tup l=>
  obtain rfl:=sI h
  obtain⟨a,aA,rfl,hl,ha,rs⟩:=r
  obtain⟨nl,hnl⟩:=id hl
  refine wpAny_pyIter_tuple hl.isTuple (k' (ut R rfl fun κ' x e hn=>?_))
  exact .walk (n:=aA.size) (k:=0) (fun A hA=>Walks.tuple hA _ a (fun q=>nomatch (q▸nn).symm.trans hnl) aA) (fun i h' st=>(by obtain⟨_,ho,hc,_⟩:=st.1;exact pB ho hc (by decide))) ⟨⟨_,e,rfl,rfl⟩,hl.isTuple.at fun o q=>x.keep a o q ha⟩ ((aR rs).symm.trans (zero_add _).symm)
   (fun b hb=>wl hb (off hn hnl ha) (x.keep _ _ hnl ha)) fun j v cv hj hp=>dW (iT x rs) hj (getElem?_toList.trans hp)
 |str l=>
  obtain rfl:=sI h
  obtain⟨t,rfl⟩:=r
  have aA:∀{h' κ'} j v cv,(l.map fun c=>V.str [c])[j]? =some v→SignAt (S l) (0+j) cv→RV h' κ' v cv:=by
   rintro h' κ' j v cv hj ⟨c,u,hc,rfl⟩
   rw[zero_add]at hc
   rw[getElem?_map,show l[j]? =some c from getElem?_toList.trans hc]at hj
   obtain rfl:=sI hj
   exact⟨u,rfl⟩
  have len:(S l).cps.size=0+(l.map fun c=>V.str [c]).length:=by rw[zero_add,length_map];rfl
  have fp:∀{κ':Pl} {h':Heap},∀b∈[s.heap.objs.size],b=s.heap.objs.size∨b∉κ'.mt∧∃o,h'.get? b=some o:=fun b hb=>.inl (mem_singleton.mp hb)
  cases ha:(S l).cps.all (· <128)
  ·refine wpAny_pyIter_wide ha (k' (ut R rfl fun κ' x e hn=>?_))
   exact .walk (k:=0) (fun A hA=>Walks.strWide hA _ (S l) t) (fun i h' st=>(by obtain⟨_,ho,hc,_⟩:=st;exact pB ho hc (by decide))) ⟨_,e,rfl,rfl⟩ len fp aA
  ·refine wpAny_pyIter_ascii ha (k' (ut R rfl fun κ' x e hn=>?_))
   exact .walk (k:=0) (fun A hA=>Walks.strAscii hA _ (S l) t) (fun i h' st=>(by obtain⟨_,ho,hc,_⟩:=st;exact pB ho hc (by decide))) ⟨_,e,rfl,rfl⟩ len fp aA
 |rng x y z=>
  obtain⟨hc,h⟩:=iS h
  obtain rfl:=sI h
  obtain⟨a,t1,t2,t3,rfl,ha,ho⟩:=r
  refine wpAny_pyIter_range ho (kK (aB hc).1) (k' (ut R rfl fun κ' xx e hn=>?_))
  refine .walk (n:=(Builtin.Range.rangeSize x y z).toNat) (k:=0) (fun A hA=>Walks.range hA _ x z _) (fun i h' st=>pB st rfl (by decide)) ?_ (by rw[zero_add,length_map,bG,length_map,length_range]) (fun b hb=>.inl (mem_singleton.mp hb)) fun j v cv hj hp=>?_
  ·show _=_
   rw[e]
   simp
   rw[←Int.ofNat_toNat,qz]
  ·obtain⟨t,rfl⟩:=hp
   rw[getElem?_map]at hj
   obtain⟨i,hi,rfl⟩:=Option.map_eq_some_iff.mp hj
   rw[bG,getElem?_map]at hi
   obtain⟨k,hk,rfl⟩:=Option.map_eq_some_iff.mp hi
   obtain⟨h1,h2⟩:=List.getElem?_eq_some_iff.mp hk
   rw[List.getElem_range]at h2
   exact⟨t,by rw[zero_add,h2]⟩
 |ref m=>
  dsimp only[gb]at h
  cases h1:lA O m with
  |some l=>
   rw[h1]at h
   obtain rfl:=sI h
   obtain⟨a,aA,rfl,hi,hl,rs⟩:=R.list h1 r
   exact wpAny_pyIter_list hl.isList (k' (ut R rfl fun κ' x e hn=>.live ⟨_,e,rfl,rfl⟩ (cR x.pre hi)))
  |none=>
   rw[h1]at h
   obtain⟨l,h2,h⟩:=mS h
   subst h
   obtain⟨a,hi,D⟩:=R.dict h2
   obtain⟨a',rfl,hi'⟩:=r
   injection Option.some.inj (hi.symm.trans hi')with h9;subst h9
   cases D with
   | @mk K _ knd g kvs da ks vs is=>
   exact wpAny_pyIter_dict (k8 B R (Pl.mt_ob hi)) (da PG) (k' (ut R rfl fun κ' x e hn=>.keys ⟨_,e,rfl,by rw[t8.len (a:=a) (h:=s.heap) ks];rfl⟩ (cR x.pre hi)))
 |_=>exact nN h
theorem bT(es:List Expr)(h:bA es=true):(backTo pos (starEach es env)).any (·.1)=false:=by
 induction es with
 |nil=>rfl
 |cons e es ih=>
  obtain⟨h1,h2⟩:=cJ (env:=env) h
  rw[h2]
  exact ih h1
theorem gZ(es:List Expr)(h:bA es=true):backTo pos (starEach es env)=[]∨∃x rest,backTo pos (starEach es env)=(false,x)::rest:=by
 cases es with
 |nil=>exact .inl rfl
 |cons e es=>rw[(cJ (env:=env) h).2];exact .inr ⟨_,_,rfl⟩
theorem ja{f:Value}{es:List Expr}{Q:Args→Shared→Prop}(hs:bA es=true)(h:wpAny (MW w) A (spliced (backTo pos (starEach es env))) (fun vs s'=>Q ⟨vs,[]⟩ s') E s):
 wpAny (MW w) A (evalArgs f true (backTo pos (starEach es env)) []) Q E s:=by
 rcases gZ (env:=env) (pos:=pos) es hs with e|⟨x,rest,e⟩
 ·rw[e]at h ⊢
  unfold evalArgs
  show wpAny _ A (spliced []>>=_) Q E s
  exact wpAny_bind (wpAny_mono h (fun vs s' h'=>wpAny_holding (wpAny_bind (wpAny_pure (wpAny_bind (wpAny_pure (wpAny_pure h')))))) fun _ _ x=>x)
 ·rw[e]at h ⊢;exact Calls.evalArgs_plain h
theorem um(h:EY e=true):∀x,foldedSetIterable e env x=pure x:=by
 intro x;cases e<;>first|rfl|exact aj h
theorem yU{p:Str×Expr}(h:vB e=some p):∃q r,e=.Call (.Name p.1 q) [p.2] [] r∧p.1=("enumerate":Str):=by
 cases e with
 |Call f args ks r=>
  cases f with
  |Name x q=>
   obtain⟨hx,h⟩:=iS h
   cases args with
   |nil=>exact nN h
   |cons a as=>
    cases as with
    |nil=>
     obtain⟨hk,h⟩:=iS h
     obtain rfl:=sI h
     obtain rfl:=isEmpty_iff.mp hk
     exact⟨q,r,rfl,beq_iff_eq.mp hx⟩
    |cons=>exact nN h
  |_=>exact nN h
 |_=>exact nN h
theorem vA{f:V}(hf:w8 f=true)(r:RV h κ f cv):cv=.type "enumerate":=by
 cases f with
 |cst d=>
  cases d with
  |type t=>exact r.trans (congrArg Value.type (beq_iff_eq.mp hf))
  |_=>exact aj hf
 |_=>exact aj hf
theorem vU(R:aH w κ F O s.heap)(r:RV s.heap κ (.lst l) (.ref a))(k:∀{I H κ' s'},db w b κ.fr κ O s (.items (l.zipIdx.map fun y=>.tup [.int y.2,y.1])) I H F O κ' s'→P (.ref I) s'):
 wpAny (MW w) A (call (.type "enumerate") [.ref a] []) (fun x s1=>wpAny (MW w) A (pyIter x) P E s1) E s:=by
 obtain⟨_,aA,e,hl,ha,rs⟩:=r
 injection e with h9;subst h9
 obtain⟨nn,hnl⟩:=id hl
 refine call_enumerate_1 hnl fun h' he hit hsz hk=>wpAny_pyIter_enum he ?_
 have n1:=bY (h:=s.heap) (le_refl _)
 have n2:=bY (h:=s.heap) (le_succ s.heap.objs.size)
 obtain⟨oi,hoi,ri⟩:=id hit
 have g:dp w b κ O s ⟨κ.fr,κ.ob,[s.heap.objs.size+1,s.heap.objs.size]++κ.hid⟩ F O { s with heap:=h' }:=Go.hide R hk (fun a ha=>by
  rcases mem_cons.mp ha with rfl|ha
  ·exact⟨n2,_,he⟩
  ·exact(mem_singleton.mp ha)▸⟨n1,_,hoi⟩) (nodup_cons.mpr ⟨fun q=>Nat.succ_ne_self _ (mem_singleton.mp q),nodup_cons.mpr ⟨not_mem_nil,nodup_nil⟩⟩)
 refine k (κ':=⟨κ.fr,κ.ob,[s.heap.objs.size+1,s.heap.objs.size]++κ.hid⟩) (H:=[s.heap.objs.size+1,s.heap.objs.size]) ⟨g,.enum (i:=0) (Nat.succ_ne_self _) he hit ⟨nn,hk _ _ hnl⟩ (g.ext.off hnl ha) (iT g.ext rs),fun a ha=>?_,fun a ha=>mem_append_left _ ha⟩
 rcases mem_cons.mp ha with rfl|ha
 ·exact n2
 ·exact(mem_singleton.mp ha)▸n1
theorem ij(B:bI w)(S:d6 w n J){q:gV→Oj→Prop}(h:nY GG J tgt e F b q O)(t:St w A n b κ F O s env)(k:∀{src I H κ' O' s'},q src O'→db w b κ.fr κ O s src I H F O' κ' s'→pA I H tgt→P (.ref I) s'):
 (∀x,foldedSetIterable e env x=pure x)∧wpAny (MW w) A (eval e env) (fun x s1=>wpAny (MW w) A (pyIter x) P E s1) E s:=by
 unfold nY at h
 cases he:vB e with
 |none=>
  have h:=(he)▸h
  exact⟨um h.out.1,aG.seq (S.l h.out.2 t) fun q g r=>xl B q g.rel r fun q T=>k q (T.after g) fun x9=>(by obtain⟨i,e⟩:=x9;exact nomatch e)⟩
 |some p=>
  rw[he]at h
  obtain⟨hc,h3⟩:=h.out
  obtain⟨hst,htu⟩:=aB hc
  clear h
  obtain⟨p1,p2,rfl,hx⟩:=yU he
  refine⟨fun _=>rfl,?_⟩
  obtain⟨f,hg,h5⟩:=h3.out
  obtain⟨hf,h4⟩:=h5.out
  refine wpAny_Call_ofName (aG.seq (mP (b:=b) (Q:=fun v O1=>v=f∧O1=O) B t (Gd.of (hx▸rfl) (Lf.of hg ⟨rfl,rfl⟩))) fun {v κ1 O1 cv s1} q0 g r=>?_)
  clear h3 hg h5
  obtain⟨rfl,rfl⟩:=q0
  obtain rfl:=vA hf r
  refine PySem.callWith_type (bT [p.2] hst) (ja hst (wpAny_items_cons (aG.seq (S.l h4 (t.next g)) fun {v2 κ2 O2 cv s2} q2 g2 rv=>wpAny_items_nil ?_) (cJ hst).2))
  obtain⟨src,h6,hq⟩:=q2.out
  clear q2
  cases v2 with
  |lst l=>
   obtain⟨_,h6⟩:=iS h6
   obtain rfl:=sI h6
   obtain⟨a,aA,rfl,rest⟩:=id rv
   exact vU (b:=b) g2.rel rv fun T=>k hq (T.after (g.trans g2)) fun _=>htu
  |_=>exact nN h6
theorem vQ(S:d6 w n J)(t:St w A n b κ F O s env){k:Nat}(h:fY J tgt body orelse b Q k src F1 O1)(T:db w b κ.fr κ O s src I H F1 O1 κ1 s1)(ht:pA I H tgt):
 codeAny (MW w) A (.forLoop tgt (.ref I) body orelse env) (fun r s'=>match r with|.ok g=>dQ w b κ O s Q g s'|.error _=>False) s1:=by
 refine codeAny_forLoop_any (fun k s1=>∃src F1 O1 κ1,fY J tgt body orelse b Q k src F1 O1∧db w b κ.fr κ O s src I H F1 O1 κ1 s1) (fun k s1 h=>?_) k ⟨src,F1,O1,κ1,h,T⟩
 obtain⟨src,F1,O1,κ1,h,T⟩:=h
 cases k with
 |zero=>exact False.elim h
 |succ k=>
  refine T.step t.rel t.ok.hd ht h (fun q _ g=>dQ.on g (cp S q (t.next g))) fun q hs=>wpAny_mono hs (fun _ s3 T3=>?_) fun _ _ e=>e
  obtain⟨T3,rv⟩:=T3
  obtain⟨F2,h3,q⟩:=q.out
  refine d8 (t.next T3.go) h3 rv fun s4 g4=>dQ.seq (cp S q ((t.next T3.go).next g4)) fun {f F5 κ5 O5 cf s5} q g5 r=>?_
  have T:=(T3.on g4).on g5
  cases f with
  |brk=>cases r;exact .mk q T.go rfl
  |ret v=>obtain⟨cv,rfl,rv⟩:=r;exact .mk q T.go ⟨cv,rfl,rv⟩
  |_=>cases r;exact⟨k,lt_succ_self k,_,_,_,_,q,T⟩
theorem yZ(B:bI w)(S:d6 w n J){it:Expr}(h:nY GG J tgt it F b (fun src O1=>JZ J tgt body orelse b Q src F O1) O)(t:St w A n b κ F O s env):wpAny (MW w) A (exec (.For tgt it body orelse pos) env) (dQ w b κ O s Q) ba s:=by
 obtain⟨h1,h2⟩:=ij (E:=ba) (P:=fun x s1=>codeAny (MW w) A (.forLoop tgt x body orelse env) (fun r s'=>match r with|.ok g=>dQ w b κ O s Q g s'|.error _=>False) s1) B S h t fun q T ht=>vQ S t q.is T ht
 refine wpAny_For (wpAny_mono h2 (fun x s1 h1=>wpAny_mono h1 (fun itv s2 h2=>codeAny_mono h2 fun r s' hr=>?_) fun _ _ e=>e) fun _ _ e=>e) h1
 cases r with
 |ok g=>exact hr
 |error e=>exact hr.elim
end
end
section
variable {v:V} {cv kd:Value} {c:Prop} {l a b cks:List (Str×Value)} {x:Str} {dv ca:List Value} {dfl:List V} {Q:List (Str×Value)→Shared→Prop} {al N:List Str} {o kwd ks vars slots:List (Str×V)}
theorem cQ{M:Model}{A:Around}{E:Value→Shared→Prop}{s:Shared}{α β:Type}{f:α→β→Sem (ForInStep β)}(P:List α→β→Prop)
 (step:∀x l b,P (x::l) b→wpAny M A (f x b) (fun r s'=>s'=s∧∃b',r=.yield b'∧P l b') E s):
 ∀(l:List α) (b:β) {Q:β→Shared→Prop},P l b→(∀b',P [] b'→Q b' s)→wpAny M A (forIn l b f) Q E s
 |[],b,Q,hP,hQ=>by rw[forIn_nil];exact wpAny_pure (hQ b hP)
 |x::l,b,Q,hP,hQ=>by
  rw[forIn_cons]
  refine wpAny_bind (wpAny_mono (step x l b hP) (fun r s' h=>?_) fun _ _ e=>e)
  obtain⟨rfl,b',rfl,hP'⟩:=h
  exact cQ P step l b' hP' hQ
section
variable {h:Heap} {κ:Pl}
theorem lR:∀{l l':List (Str×V)} {r r':List (Str×Value)},fk h κ l r→fk h κ l' r'→fk h κ (l++l') (r++r')
 |[],_,_,_,rfl,e'=>e'
 |_::_,_,_,_,q4,e'=>by obtain⟨cv,r',rfl,a,b⟩:=q4;exact⟨cv,_,rfl,a,lR b e'⟩
theorem dg:∀{l:List (Str×V)} {r:List (Str×Value)} (x:Str),fk h κ l r→kx h κ (l.lookup x) (r.lookup x)
 |[],_,x,e=>by cases e;trivial
 |(y,v)::l,_,x,q3=>by
  obtain⟨cv,r',rfl,a,b⟩:=q3
  rw[lookup_cons,lookup_cons]
  cases x==y
  ·exact dg x b
  ·exact a
theorem iN{v:Option V}{cv:Option Value}(r:kx h κ v cv):v.isNone=cv.isNone:=by
 cases v<;>cases cv<;>first|rfl|exact absurd r (by intro q;exact q)
theorem qP:∀(ns:List Str) {l:List V} {r:List Value},ag h κ l r→fk h κ (ns.zip l) (ns.zip r)
 |[],_,_,_=>by simp;exact rfl
 |n::ns,[],_,e=>by cases e;simp;exact rfl
 |n::ns,v::l,_,q3=>by obtain⟨cv,r,rfl,a,b⟩:=q3;exact⟨cv,_,rfl,a,qP ns b⟩
theorem fQ{l:List (Str×V)}{r:List (Str×Value)}(k:fk h κ l r):∀(ns:List Str),fk h κ (ns.filterMap fun n=>(l.lookup n).map (n,·)) (ns.filterMap fun n=>(r.lookup n).map (n,·))
 |[]=>rfl
 |n::ns=>by
  have:=dg n k
  rw[filterMap_cons,filterMap_cons]
  cases h1:l.lookup n with
  |none=>
   cases h2:r.lookup n with
   |none=>exact fQ k ns
   |some cv=>rw[h1,h2]at this;exact absurd this (by intro q;exact q)
  |some v=>
   cases h2:r.lookup n with
   |none=>rw[h1,h2]at this;exact absurd this (by intro q;exact q)
   |some cv=>rw[h1,h2]at this;exact⟨cv,_,rfl,this,fQ k ns⟩
end
theorem wI{M:Model}{A:Around}{E:Value→Shared→Prop}{s:Shared}{α:Type}[Decidable c]{x y:Sem α}{Q:α→Shared→Prop}(h:c)(k:wpAny M A x Q E s):wpAny M A (if c then x else y) Q E s:=by rw[if_pos h];exact k
theorem wE{M:Model}{A:Around}{E:Value→Shared→Prop}{s:Shared}{α:Type}[Decidable c]{x y:Sem α}{Q:α→Shared→Prop}(h:¬c)(k:wpAny M A y Q E s):wpAny M A (if c then x else y) Q E s:=by rw[if_neg h];exact k
theorem xX{h:Heap}{κ:Pl}{l:List (Str×V)}(r:fk h κ l []):l=[]:=match l,r with
 |[],_=>rfl
 |_::_,q1=>by obtain⟨_,_,e,_⟩:=q1;exact nomatch e
theorem qQ{h:Heap}{κ:Pl}(r:RV h κ v cv):fk h κ [(x,v)] [(x,cv)]:=⟨cv,[],rfl,r,rfl⟩
inductive Lo (h:Heap) (κ:Pl) (x:Str) (cv:Value) (r:List (Str×Value)):List (Str×V)→Prop where
 |mk {v:V} {l:List (Str×V)} (a:RV h κ v cv) (b:fk h κ l r):Lo h κ x cv r ((x,v)::l)
theorem tn{h:Heap}{κ:Pl}{r:List (Str×Value)}:∀{l:List (Str×V)},fk h κ l ((x,cv)::r)→Lo h κ x cv r l
 |[],e=>nomatch e
 |(_,_)::_,q1=>by obtain⟨_,_,e,a,b⟩:=q1;cases e;exact .mk a b
theorem yS{M:Model}{A:Around}{E:Value→Shared→Prop}{s:Shared}{κ:Pl}{dv:Value}(hd:dfl=[]∧dv=.none∨∃t cvals,dv=.ref t∧IsTup s.heap t cvals∧ag s.heap κ dfl cvals.toList){Q:Option (Array Value)→Shared→Prop}
 (hq:∀od:Option (Array Value),ag s.heap κ dfl (od.getD #[]).toList→Q od s):wpAny M A (seqItems? dv) Q E s:=by
 rcases hd with⟨rfl,rfl⟩|⟨t,cvals,rfl,⟨o,ho,_,nn,hdt⟩,hr⟩
 ·exact wpAny_bind (wpAny_pure (wpAny_pure (hq none rfl)))
 ·exact wpAny_seqItems ho hdt (hq (some cvals) hr)
theorem B4{β:Type}{l:List (Str×β)}(h:(l.lookup x).isNone=true):¬(l.lookup x).isSome=true:=by
 cases hq:l.lookup x with
 |none=>exact fun e=>nomatch e
 |some=>rw[hq]at h;exact aj h
theorem vg{sl:List (Str×V)}{r:List (Str×V)}(h:nQ al sl ((x,v)::r)=some o):(al.contains x=true∧(sl.lookup x).isNone=true)∧nQ al (sl++[(x,v)]) r=some o:=by
 obtain⟨hc,h⟩:=iS h
 exact⟨aB hc,h⟩
theorem tX{sl:List (Str×V)}{r:List Str}(h:gJ kwd sl (x::r)=some o):((sl.lookup x).isNone=true∧∃v,kwd.lookup x=some v∧gJ kwd (sl++[(x,v)]) r=some o)∨((sl.lookup x).isNone=false∧gJ kwd sl r=some o):=by
 replace h:(if(sl.lookup x).isNone then _ else _)=some o:=h
 cases hq:(sl.lookup x).isNone with
 |true=>rw[hq]at h;obtain⟨v,h1,h2⟩:=bS h;exact .inl ⟨rfl,v,h1,h2⟩
 |false=>rw[hq]at h;exact .inr ⟨rfl,h⟩
section
variable {M:Model} {A:Around} {E:Value→Shared→Prop} {s:Shared} {κ:Pl}
theorem IT{α β γ δ:Type}{f:α×β→γ×δ→Sem (ForInStep (γ×δ))}(P:List (α×β)→γ×δ→Prop)(step:∀x y l a b,P ((x,y)::l) (a,b)→wpAny M A (f (x,y) (a,b)) (fun r s'=>s'=s∧∃b',r=.yield b'∧P l b') E s)(l:List (α×β))(b:γ×δ){Q:γ×δ→Shared→Prop}(h:P l b)(k:∀a b,P [] (a,b)→Q (a,b) s):wpAny M A (forIn l b f) Q E s:=
 cQ P (fun⟨x,y⟩ l ⟨a,b⟩ h=>step x y l a b h) l b h fun x9  h=>(by obtain⟨a,b⟩:=x9;exact k a b h)
theorem IU{α β γ:Type}{f:α×β→γ→Sem (ForInStep γ)}(P:List (α×β)→γ→Prop)(step:∀x y l a,P ((x,y)::l) a→wpAny M A (f (x,y) a) (fun r s'=>s'=s∧∃b',r=.yield b'∧P l b') E s)(l:List (α×β))(b:γ){Q:γ→Shared→Prop}(h:P l b)(k:∀a,P [] a→Q a s):wpAny M A (forIn l b f) Q E s:=
 cQ P (fun x9  l a h=>(by obtain⟨x,y⟩:=x9;exact step x y l a h)) l b h k
theorem IV{α γ δ:Type}{f:α→γ×δ→Sem (ForInStep (γ×δ))}(P:List α→γ×δ→Prop)(step:∀x l a b,P (x::l) (a,b)→wpAny M A (f x (a,b)) (fun r s'=>s'=s∧∃b',r=.yield b'∧P l b') E s)(l:List α)(b:γ×δ){Q:γ×δ→Shared→Prop}(h:P l b)(k:∀a b,P [] (a,b)→Q (a,b) s):wpAny M A (forIn l b f) Q E s:=
 cQ P (fun x l x9  h=>(by obtain⟨a,b⟩:=x9;exact step x l a b h)) l b h fun x9  h=>(by obtain⟨a,b⟩:=x9;exact k a b h)
noncomputable def P1(s:Shared)(κ:Pl)(al:List Str)(o:List (Str×V))(l:List (Str×Value))(b:List (Str×Value)×List (Str×Value)):Prop:=b.2=[]∧∃sl kv,fk s.heap κ sl b.1∧fk s.heap κ kv l∧nQ al sl kv=some o
noncomputable def P2(s:Shared)(κ:Pl)(o:List (Str×V))(l:List (Str×Value))(b:List (Str×Value)):Prop:=∃sl dv,fk s.heap κ sl b∧fk s.heap κ dv l∧tY sl dv=o
noncomputable def P3(s:Shared)(κ:Pl)(kwd:List (Str×V))(o:List (Str×V))(l:List Str)(b:List (Str×Value)×List Str):Prop:=b.2=[]∧∃sl,fk s.heap κ sl b.1∧gJ kwd sl l=some o
theorem P1.end(h:P1 s κ al o [] (a,b)):fk s.heap κ o a:=by
 obtain⟨_,sl,kv,r1,r2,r3⟩:=h
 obtain rfl:=xX r2
 obtain rfl:=sI r3;exact r1
theorem P2.end(h:P2 s κ o [] a):fk s.heap κ o a:=by
 obtain⟨sl,kv,r1,r2,r3⟩:=h
 obtain rfl:=xX r2
 subst r3;exact r1
theorem P3.end{b:List Str}(h:P3 s κ kwd o [] (a,b)):b=[]∧fk s.heap κ o a:=by
 obtain⟨e,sl,r1,r3⟩:=h
 obtain rfl:=sI r3;exact⟨e,r1⟩
theorem P1.step(h:P1 s κ al o ((x,cv)::l) (a,b)):al.contains x=true∧¬(a.lookup x).isSome=true∧P1 s κ al o l (a++[(x,cv)],b):=by
 refine hG fun _ kk=>?_
 obtain⟨he,sl,kv,r1,r2,r3⟩:=h
 refine kk ?_
 cases tn r2 with
 |mk rv r4=>
  obtain⟨⟨h1,h2⟩,h3⟩:=vg r3
  exact⟨h1,B4 ((iN (dg x r1)).symm.trans h2),he,_,_,lR r1 (qQ rv),r4,h3⟩
theorem P2.step(h:P2 s κ o ((x,cv)::l) a):P2 s κ o l (if(a.lookup x).isNone then a++[(x,cv)]else a):=by
 refine hG fun _ kk=>?_
 obtain⟨sl,kv,r1,r2,r3⟩:=h
 refine kk ?_
 cases tn r2 with
 | @mk v l' rv r4=>
  have r3:(if(sl.lookup x).isNone then tY (sl++[(x,v)]) l' else tY sl l')=_:=r3
  refine(iN (dg x r1))▸?_
  cases hq:(sl.lookup x).isNone with
  |true=>rw[hq]at r3;exact⟨_,_,lR r1 (qQ rv),r4,r3⟩
  |false=>rw[hq]at r3;exact⟨_,_,r1,r4,r3⟩
inductive Me (s:Shared) (κ:Pl) (kwd:List (Str×V)) (kd:Value) (o:List (Str×V)) (x:Str) (l:List Str) (a:List (Str×Value)) (b:List Str):Prop where
 |new {d:Addr} {m:Str→Option Value} {cv:Value} (h1:(a.lookup x).isNone=true) (e:kd=.ref d) (hm:s.heap.Ns d m) (hv:m x=some cv) (n:P3 s κ kwd o l (a++[(x,cv)],b))
 |old (h1:¬(a.lookup x).isNone=true) (n:P3 s κ kwd o l (a,b))
theorem P3.step{l b:List Str}(h:P3 s κ kwd o (x::l) (a,b))(hk:kwd=[]∧kd=.none∨∃d m,kd=.ref d∧s.heap.Ns d m∧∀x,kx s.heap κ (kwd.lookup x) (m x)):Me s κ kwd kd o x l a b:=by
 obtain⟨he,sl,r1,r3⟩:=h
 have hn:=iN (dg x r1)
 rcases tX r3 with⟨h1,v,hv,h2⟩|⟨h1,h2⟩
 ·rcases hk with⟨rfl,_⟩|⟨d,m,e,hm,hr⟩
  ·exact nN hv
  ·obtain⟨cv,hmx,this⟩:=kx.some (hv▸hr x)
   exact .new (hn.symm.trans h1) e hm hmx ⟨he,_,lR r1 (qQ this),h2⟩
 ·exact .old (by rw[←hn,h1];exact Bool.false_ne_true) ⟨he,_,r1,h2⟩
end
inductive FO (ps:Arguments) (dfl:List V) (kwd:List (Str×V)) (a:List V) (ks:List (Str×V)):List (Str×V)→Prop where
 |mk {slots fin:List (Str×V)} (po:ps.posonlyargs=[]) (va:ps.vararg=none) (ka:ps.kwarg=none) (len:a.length≤(ps.args.map (·.arg)).length) (h6:nQ (ps.args.map (·.arg)++ps.kwonlyargs.map (·.arg)) ((ps.args.map (·.arg)).zip a) ks=some slots)
  (hem:((((ps.args.map (·.arg)).take ((ps.args.map (·.arg)).length-(dfl.drop (dfl.length-(ps.args.map (·.arg)).length)).length)).filter fun n=>(slots.lookup n).isNone).isEmpty)=true)
  (h7:gJ kwd (tY slots (((ps.args.map (·.arg)).drop ((ps.args.map (·.arg)).length-(dfl.drop (dfl.length-(ps.args.map (·.arg)).length)).length)).zip (dfl.drop (dfl.length-(ps.args.map (·.arg)).length)))) (ps.kwonlyargs.map (·.arg))=some fin):
  FO ps dfl kwd a ks ((ps.args.map (·.arg)++ps.kwonlyargs.map (·.arg)).filterMap fun n=>(fin.lookup n).map (n,·))
theorem yu{ps:Arguments}{a:List V}(h:fC ps dfl kwd a ks=some vars):FO ps dfl kwd a ks vars:=by
 unfold fC at h
 obtain⟨hc,h⟩:=iS h
 obtain⟨slots,h6,h⟩:=bS h
 obtain⟨hem,h⟩:=iS h
 obtain⟨fin,h7,h⟩:=mS h
 subst h
 have hc:=(aB hc).1
 have h3:=(aB hc).1
 have h2:=(aB h3).1
 exact .mk (isEmpty_iff.mp (aB h2).1) (isNone_iff_eq_none.mp (aB h2).2) (isNone_iff_eq_none.mp (aB h3).2) (of_decide_eq_true (aB hc).2) h6 hem h7
theorem DG{s:Shared}{κ:Pl}{sl:List (Str×Value)}(hod:dfl.length=dv.length)(r:fk s.heap κ slots sl)(hem:(((N.take (N.length-(dfl.drop (dfl.length-N.length)).length)).filter fun n=>(slots.lookup n).isNone).isEmpty)=true):
 ¬(!((N.take (N.length-(dv.drop (dv.length-N.length)).length)).filter fun n=>(sl.lookup n).isNone).isEmpty)=true:=by
 have e:(N.take (N.length-(dv.drop (dv.length-N.length)).length)).filter (fun n=>(sl.lookup n).isNone)=(N.take (N.length-(dfl.drop (dfl.length-N.length)).length)).filter (fun n=>(slots.lookup n).isNone):=by
  rw[length_drop,length_drop, ←hod]
  exact List.filter_congr fun n _=>(iN (dg n r)).symm
 rw[e,hem];decide
theorem CJ{s:Shared}{κ:Pl}(hod:dfl.length=dv.length)(rd:ag s.heap κ dfl dv):fk s.heap κ ((N.drop (N.length-(dfl.drop (dfl.length-N.length)).length)).zip (dfl.drop (dfl.length-N.length))) ((N.drop (N.length-(dv.drop (dv.length-N.length)).length)).zip (dv.drop (dv.length-N.length))):=by
 refine Eq.symm (length_drop)▸Eq.symm (length_drop)▸(hod)▸?_
 exact qP _ (jc _ rd)
theorem ve{M:Model}{A:Around}{E:Value→Shared→Prop}{s:Shared}{κ:Pl}{nm qn:Str}{bd:FuncBody}{sc:Scope}{gl:Addr}{cl:List (Str×Addr)}{df dc pm:Value}{an:Option Addr}{co ct:Value}{bu:Addr}{ar ko:List Arg}{kdf:List (Option Expr)}{dfs:List Expr}
 {a:List V} {fin:List (Str×V)} (len:a.length≤(ar.map (·.arg)).length) (h6:nQ (ar.map (·.arg)++ko.map (·.arg)) ((ar.map (·.arg)).zip a) ks=some slots)
 (hem:((((ar.map (·.arg)).take ((ar.map (·.arg)).length-(dfl.drop (dfl.length-(ar.map (·.arg)).length)).length)).filter fun n=>(slots.lookup n).isNone).isEmpty)=true)
 (h7:gJ kwd (tY slots (((ar.map (·.arg)).drop ((ar.map (·.arg)).length-(dfl.drop (dfl.length-(ar.map (·.arg)).length)).length)).zip (dfl.drop (dfl.length-(ar.map (·.arg)).length)))) (ko.map (·.arg))=some fin)
 (Ra:ag s.heap κ a ca) (Rk:fk s.heap κ ks cks) (hd:dfl=[]∧df=.none∨∃t cvals,df=.ref t∧IsTup s.heap t cvals∧ag s.heap κ dfl cvals.toList)
 (hk:kwd=[]∧kd=.none∨∃d m,kd=.ref d∧s.heap.Ns d m∧∀x,kx s.heap κ (kwd.lookup x) (m x)) (hQ:∀binds,fk s.heap κ ((ar.map (·.arg)++ko.map (·.arg)).filterMap fun n=>(fin.lookup n).map (n,·)) binds→Q binds s):
 wpAny M A (bindArgs ⟨nm,qn,⟨[],ar,none,ko,kdf,none,dfs⟩,bd,sc,gl,cl,df,kd,dc,pm,an,co,ct,bu⟩ ⟨ca,cks⟩) Q E s:=by
 have hlen:=de Ra
 refine wpAny_bind (IT (P1 s κ (ar.map (·.arg)++ko.map (·.arg)) slots) (fun x cv l a b h=>?_) cks _ ⟨rfl,_,ks,qP _ Ra,Rk,h6⟩ fun sl ex hP=>?_)
 ·have h1:((ar.map (·.arg)).contains x||(ko.map (·.arg)).contains x)=true:=by rw[←List.contains_append];exact h.step.1
  exact wI h1 (wE h.step.2.1 (wpAny_pure ⟨rfl,_,rfl,h.step.2.2⟩))
 refine wpAny_bind (yS hd fun od rd=>?_)
 have hod:=de rd
 refine wE (fun e=>absurd (of_decide_eq_true (aB e).1) (Nat.not_lt.mpr (hlen▸len))) (wE (DG hod hP.end hem) (wpAny_bind (IU (P2 s κ _) (fun x cv l b h=>?_) _ _ ⟨slots,_,hP.end,CJ hod rd,rfl⟩ fun sl2 hP2=>wpAny_bind (IV (P3 s κ kwd fin) (fun x l b c h=>?_) _ _ ⟨rfl,_,hP2.end,h7⟩ fun sl5 ms hP3=>?_))))
 ·have h2:=h.step
  by_cases hq:(b.lookup x).isNone=true
  ·rw[if_pos hq]at h2
   exact wI hq (wpAny_pure ⟨rfl,_,rfl,h2⟩)
  ·rw[if_neg hq]at h2
   exact wE hq (wpAny_pure ⟨rfl,_,rfl,h2⟩)
 ·cases h.step hk with
  |new h1 e hm hv n=>
   clear hk hP2
   subst e
   exact wI h1 (wpAny_bind (wpAny_nsGet hm (hv▸wpAny_pure ⟨rfl,_,rfl,n⟩)))
  |old h1 n=>exact wE h1 (wpAny_pure ⟨rfl,_,rfl,n⟩)
 ·exact wE (hP3.end.1▸Bool.false_ne_true) (wpAny_pure (hQ _ (fQ hP3.end.2 _)))
theorem dj{M:Model}{A:Around}{E:Value→Shared→Prop}{s:Shared}{κ:Pl}{fd:FuncData}{a:List V}
 (h:fC fd.params dfl kwd a ks=some vars) (Ra:ag s.heap κ a ca) (Rk:fk s.heap κ ks cks)
 (hd:dfl=[]∧fd.defaults=.none∨∃t cvals,fd.defaults=.ref t∧IsTup s.heap t cvals∧ag s.heap κ dfl cvals.toList)
 (hk:kwd=[]∧fd.kwdefaults=.none∨∃d m,fd.kwdefaults=.ref d∧s.heap.Ns d m∧∀x,kx s.heap κ (kwd.lookup x) (m x)) (hQ:∀binds,fk s.heap κ vars binds→Q binds s):
 wpAny M A (bindArgs fd ⟨ca,cks⟩) Q E s:=by
 cases fd with
 |mk nm qn ps bd sc gl cl df kd dc pm an co ct bu=>
  cases ps with
  |mk po ar va ko kdf ka dfs=>
   cases yu h with
   |mk e1 e2 e3 len h6 hem h7=>
    clear h
    cases e1
    cases e2
    cases e3
    exact ve len h6 hem h7 Ra Rk hd hk hQ
end
section
variable {x qual:Str} {h0:Heap} {F2 r:List Fr} {f:Fr} {names:af} {lam:Bool} {up:Nat} {cl:List (Str×Addr)} {scope:Scope} {binds:List (Str×Value)} {func:Option Addr} {code:Value} {Q:Env→Shared→Prop} {vars:List (Str×V)} {A0:Around} {o:aT} {κ0:Pl} {p:FP} {O2:Oj}
theorem fM:∀(names:af) (n:Nat) (a c:List (Str×Addr)),cellsFrom n names (a++c)=cellsFrom n names a++c
 |[],_,_,_=>rfl
 |(x,k)::r,n,a,c=>by
  unfold cellsFrom
  split
  ·exact fM r (n+1) ((x,n)::a) c
  ·exact fM r n a c
theorem eP{α:Type}(c:List (Str×α))(x:Str):∀(a:List (Str×α)),(a++c).lookup x=(a.lookup x).or (c.lookup x)
 |[]=>rfl
 |(k,v)::r=>by
  rw[cons_append,lookup_cons,lookup_cons]
  cases x==k
  ·exact eP c x r
  ·rfl
theorem ic(names:af):∀{n:Nat} {a:List (Str×Addr)},(x,NameKind.cell)∈names∨(∃c,a.lookup x=some c)→∃c,(cellsFrom n names a).lookup x=some c:=by
 induction names with
 |nil=>exact fun h=>h.elim (fun h=>nomatch h) id
 |cons y r ih=>
  intro n a h
  unfold cellsFrom
  split
  ·rename_i hk
   refine ih (h.elim (fun h=>(mem_cons.mp h).elim (fun q=>.inr ⟨n,q▸List.lookup_cons_self⟩) .inl) fun⟨c,hc⟩=>.inr ?_)
   rw[lookup_cons]
   split
   ·exact⟨_,rfl⟩
   ·exact⟨c,hc⟩
  ·rename_i hk
   exact ih (h.imp_left fun h=>(mem_cons.mp h).elim (fun q=>absurd (congrArg Prod.snd q.symm) (fun e=>hk (beq_iff_eq.mpr e))) id)
theorem km{c:Addr}(names:af):∀{n:Nat} {a:List (Str×Addr)},(x,c)∈cellsFrom n names a→(x,NameKind.cell)∈names∨(x,c)∈a:=by
 induction names with
 |nil=>exact .inr
 |cons y r ih=>
  intro n a h
  unfold cellsFrom at h
  split at h
  ·rename_i hk
   have hk:y.2=.cell:=beq_iff_eq.mp hk
   exact(ih h).elim (fun q=>.inl (mem_cons_of_mem _ q)) fun q=>(mem_cons.mp q).imp (fun e=>by injection e with h9 h8;subst h9 h8;obtain⟨y1,y2⟩:=y;cases hk;exact mem_cons_self ..) id
  ·exact(ih h).imp_left fun q=>mem_cons_of_mem _ q
noncomputable abbrev cY(h:Heap)(names:af)(lam:Bool)(up:Nat):FP:=⟨names,h.objs.size,cellsFrom (h.objs.size+1) names [],lam,up⟩
section
variable {w:World} {A:Around} {n b:Nat} {κ κ1:Pl} {F F1:List Fr} {O O1:Oj} {s s1 s2:Shared} {env:Env} {J:WI} {E:Value→Shared→Prop}
noncomputable abbrev iF(h:Heap)(cl:Value)(names:af):Heap:=pushCells (h.push { cls:=cl,data:=.dict #[] }) names
theorem iE(h:Heap)(cl:Value)(names:af):∀b o,h.get? b=some o→(iF h cl names).get? b=some o:=fun b o e=>pushCells_keeps _ _ b o (get?_push_of_some _ e)
theorem cS.lay{h:Heap}(R:cS w h0 κ F O h)(names:af)(cl:Value)(lam:Bool)(up:Nat){κ':Pl}{P2:List FP}(ob:κ'.ob=κ.ob)(fr:κ'.fr=cY h names lam up::P2)(mt:κ'.mt=(cY h names lam up).addrs++κ.mt)(len:P2.length=F2.length)(sf:∀q∈P2,∀r,q::r <:+κ.fr→q::r <:+κ'.fr)
 (old:∀(i:Nat) f q,F2[i]? =some f→P2[i]? =some q→bZ h κ f q):cS w h0 κ' (⟨names,[],lam,up,none⟩::F2) O (iF h cl names)∧bj h κ (iF h cl names) κ':=by
 have ok:=cellsFrom_ok names (h.push { cls:=cl,data:=.dict #[] }) (h.objs.size+1) [] ⟨fun _ _ hm=>(nomatch hm),List.Pairwise.nil⟩ (by rw[Heap.size_push];exact le_refl _)
 rw[Heap.size_push]at ok
 have kk:=iE h cl names
 have hns:=(Ns.new h cl).keeps (pushCells_keeps names _)
 refine R.more (List.Perm.of_eq mt) (ob▸prefix_rfl) kk (fun a ha=>?_) (nodup_cons.mpr ⟨fun hm=>?_,List.pairwise_map.mpr ok.apart⟩) (ob▸R.len) (by rw[fr,length_cons,length_cons,len]) (fun x i o c e e'=>R.objs_mono kk x e (ob▸e')) fun x i f p e e'=>?_
 ·rcases mem_cons.mp ha with rfl|ha
  ·exact⟨bY (le_refl _),(by obtain⟨o,_,_,ho,_⟩:=hns;exact⟨o,ho⟩)⟩
  ·obtain⟨⟨x,c⟩,hm,rfl⟩:=mem_map.mp ha
   obtain⟨⟨o,ho,_⟩,hlo⟩:=ok.empty x c hm
   exact⟨bY (Nat.le_of_succ_le hlo),o,ho⟩
 ·obtain⟨⟨x,c⟩,hm,e⟩:=mem_map.mp hm
  exact absurd ((show c=h.objs.size from e)▸(ok.empty x c hm).2) (Nat.not_succ_le_self _)
 ·rw[fr]at e'
  cases i with
  |zero=>
   obtain rfl:=sI e;obtain rfl:=sI e'
   exact⟨rfl,rfl,⟨_,hns,fun y hy=>trivial⟩,fun y hy=>(by obtain⟨c,hc⟩:=ic names (n:=h.objs.size+1) (a:=[]) (.inl (mem_of_lookup hy));exact⟨c,none,hc,(ok.empty y c (mem_of_lookup hc)).1,trivial⟩),rfl,fun c hc=>nomatch hc⟩
  |succ i=>exact cD x (sf _ (mem_of_getElem? e')) (fun b _ ob q=>kk b ob q) (old i f p e e')
theorem cS.relook{h:Heap}{f':Fr}(R:cS w h0 κ (f::r) O h)(e1:f'.names=f.names)(e2:f'.lam=f.lam)(e3:f'.up=f.up)(e4:f'.clo=f.clo)(l:∀x,f.get x=f'.get x):cS w h0 κ (f'::r) O h:=
 { R with frs:=fun i g p e e'=>match i,e,e' with
   |0,rfl,e'=>let q:=R.frs 0 f p rfl e';⟨e1.trans q.nm,e2.trans q.lm,by obtain⟨m,hm,hl⟩:=q.loc;exact⟨m,hm,fun x hx=>l x▸hl x (e1▸hx)⟩,fun x hx=>by obtain⟨c,cv,h1,h2,h3⟩:=q.cell x (e1▸hx);exact⟨c,cv,h1,h2,l x▸h3⟩,e3.trans q.up,fun c hc=>by obtain⟨a,r,o,fd,cl,h1,h2,h3,h4,h5,h6,h7⟩:=q.clo c (e4▸hc);exact⟨a,r,o,fd,cl,(l c.name).symm.trans h1,e1▸h2,h3,h4,h5,h6,h7⟩⟩
   |i+1,e,e'=>R.frs (i+1) g p e e' }
theorem m9{h:Heap}{P2:List FP}{env':Env}(hL:env'.locals=h.objs.size)(hc:env'.cells=cellsFrom (h.objs.size+1) names cl)
 (kinds:∀x k,names.lookup x=some k→(k≠ .free→env'.kindOf x=some k)∧(k=.free→env'.kindOf x=some .cell∨env'.kindOf x=some .free))
 (frees:∀x,names.lookup x=some .free→(x,NameKind.cell)∉names∧∃c,cl.lookup x=some c∧cW P2 up x=some c):Ja (cY h names lam up) P2 env':=by
 have hc':env'.cells=cellsFrom (h.objs.size+1) names []++cl:=hc.trans (fM names _ [] cl)
 refine⟨hL,fun x hx=>(kinds x _ hx).1 nofun,fun x hx=>⟨(kinds x _ hx).1 nofun,?_⟩,fun x hx=>⟨(kinds x _ hx).2 rfl,?_⟩,fun x hx=>(kinds x _ hx).1 nofun⟩
 ·obtain⟨c,hq⟩:=ic names (n:=h.objs.size+1) (a:=[]) (.inl (mem_of_lookup hx))
  exact⟨c,hq,by rw[hc',eP,hq];rfl⟩
 ·obtain⟨hn,c,h1,h2⟩:=frees x hx
  refine⟨c,?_,h2⟩
  rw[hc',eP]
  cases hq:(cellsFrom (h.objs.size+1) names []).lookup x with
  |none=>exact h1
  |some c'=>exact(km names (mem_of_lookup hq)).elim (fun q=>absurd q hn) fun q=>nomatch q
theorem gW{globals:Addr}{around:Option Env}{builtins:Addr}{M:Model}
 (h:∀env',env'=newEnv scope s.heap.objs.size globals (cellsFrom (s.heap.objs.size+1) scope.names cl) qual func code around builtins→
  wpAny M A (forIn binds PUnit.unit fun x (_:PUnit)=>do storeName env' x.1 x.2;pure (ForInStep.yield PUnit.unit)) (fun _=>Q env') E
   { s with heap:=iF s.heap (.type (if around.isSome then "dict" else "frame")) scope.names }):
 wpAny M A (newFunctionEnv scope globals cl binds qual func code around builtins) Q E s:=by
 unfold newFunctionEnv
 refine wpAny_bind (wpAny_alloc ?_)
 refine wpAny_bind (wpAny_layCells _ (fun name kind cells=>by cases hkc:kind==NameKind.cell<;>simp[hkc]) _ _ _ _ ?_)
 refine Eq.symm (show({ s with heap:=s.heap.push { cls:=.type (if around.isSome then "dict" else "frame"),data:=.dict #[] } }:Shared).heap.objs.size=s.heap.objs.size+1 from Heap.size_push ..)▸?_
 have:=h _ rfl
 clear h
 cases around with
 |none=>exact wpAny_bind (wpAny_mono this (fun _ _ q=>wpAny_pure q) fun _ _ e=>e)
 |some o=>exact wpAny_bind (wpAny_mono this (fun _ _ q=>wpAny_pure q) fun _ _ e=>e)
theorem gF(y:Str):∀(vars:List (Str×V)) (aK:fP),(vars.map (·.1)).Nodup→(vars.foldl (fun a x=>dF a x.1 x.2) aK).lookup y=((vars.lookup y).map some).or (aK.lookup y)
 |[],aK,_=>rfl
 |(x,v)::r,aK,nd=>by
  obtain⟨n1,n2⟩:=nodup_cons.mp nd
  rw[foldl_cons,gF y r _ n2,lookup_cons,cK]
  by_cases hyx:y=x
  ·subst hyx
   rw[if_pos rfl,beq_self_eq_true]
   cases hq:r.lookup y with
   |none=>rfl
   |some z=>exact absurd (mem_map_of_mem (f:=(·.1)) (mem_of_lookup hq)) n1
  ·rw[if_neg hyx,beq_false_of_ne hyx]
theorem lB(names:af)(y:Str)(lam:Bool)(up:Nat)(clo:Option gN):∀vars:List (Str×V),Fr.get ⟨names,pW names vars,lam,up,clo⟩ y=vars.lookup y:=fun vars=>by
 have h1:(vars.map fun x=>(x.1,some x.2)).lookup y=(vars.lookup y).map some:=by
  induction vars with
  |nil=>rfl
  |cons e r ih=>
   rw[map_cons,lookup_cons,lookup_cons,ih]
   cases y==e.1<;>rfl
 have h2:∀l:af,ss ((l.map fun x=>(x.1,(none:Option V))).lookup y)=none:=fun l=>by
  induction l with
  |nil=>rfl
  |cons e r ih=>
   rw[map_cons,lookup_cons]
   cases y==e.1
   ·exact ih
   ·rfl
 show ss (List.lookup y (_++_))=_
 rw[List.lookup_append,h1]
 cases vars.lookup y with
 |none=>exact h2 _
 |some v=>rfl
theorem fT{slots:List (Str×V)}:∀(ns:List Str),ul ns=true→((ns.filterMap fun n=>(slots.lookup n).map (n,·)).map (·.1)).Nodup∧∀x∈(ns.filterMap fun n=>(slots.lookup n).map (n,·)).map (·.1),x∈ns
 |[],_=>⟨nodup_nil,fun _ h=>nomatch h⟩
 |n::ns,h=>by
  obtain⟨h0,h⟩:=aB h
  obtain⟨h1,h2⟩:=fT ns h
  refine Eq.symm (filterMap_cons)▸?_
  cases hq:slots.lookup n with
  |none=>exact⟨h1,fun x hx=>mem_cons_of_mem _ (h2 x hx)⟩
  |some v=>exact⟨nodup_cons.mpr ⟨fun hm=>absurd (contains_iff_mem.mpr (h2 _ hm)) (by simpa using h0),h1⟩,fun x hx=>(mem_cons.mp hx).elim (fun e=>e▸mem_cons_self ..) fun hx=>mem_cons_of_mem _ (h2 x hx)⟩
theorem dk{ps:Arguments}{dfl:List V}{kwd:List (Str×V)}{a:List V}{ks:List (Str×V)}(h:fC ps dfl kwd a ks=some vars):(vars.map (·.1)).Nodup:=by
 obtain⟨hc,h⟩:=iS h
 obtain⟨slots,h6,h⟩:=bS h
 obtain⟨_,h⟩:=iS h
 obtain⟨fin,h7,h⟩:=mS h
 exact h▸(fT _ (aB hc).2).1
theorem kY(vars:List (Str×V)):∀{binds:List (Str×Value)} {aK:fP} {s:Shared},fk s.heap κ vars binds→fG names vars=true→St w A n b κ (⟨names,aK,lam,up,none⟩::r) O s env→
 wpAny (MW w) A0 (forIn binds PUnit.unit fun x (_:PUnit)=>do storeName env x.1 x.2;pure (ForInStep.yield PUnit.unit))
  (fun _ s2=>dp w b κ O s κ (⟨names,vars.foldl (fun a x=>dF a x.1 x.2) aK,lam,up,none⟩::r) O s2) E s:=by
 induction vars with
 |nil=>intro binds aK s k _ t;cases k;rw[forIn_nil];exact wpAny_pure (Go.refl t.rel)
 |cons e vars ih=>
  intro binds aK s k okv t
  obtain⟨cv,r,rfl,rv,k⟩:=k
  rw[forIn_cons]
  obtain⟨h1,h2⟩:=aB okv
  have hx:bn (⟨names,aK,lam,up,none⟩::‹List Fr›) e.1 e.2=some (⟨names,dF aK e.1 e.2,lam,up,none⟩::‹List Fr›):=if_pos (by
   rcases or_eq_true_iff.mp h1 with h|h
   ·rw[beq_iff_eq.mp h];rfl
   ·rw[beq_iff_eq.mp h];rfl)
  exact wpAny_bind (wpAny_bind (bB t hx rv fun s1 g=>wpAny_pure (wpAny_mono (ih (je g.ext k) h2 (t.next g)) (fun _ s2 g2=>g.trans g2) fun _ _ e=>e)))
theorem Ok.deeper(h:Ok A (n+1)):Ok (A.deeper env) n:=⟨by have:=h.dep;show A.depth+1+n≤690;exact le_trans (le_of_eq (succ_add _ _)) this,by have:=h.uni;show A.units+3+10*n≤9800;exact le_trans (add_le_add_right (add_le_add_left (by decide:3≤10) _) _) (le_trans (le_of_eq (add_right_comm _ 10 _)) this),h.hd,h.fr.elim fun l hl=>⟨_,Around.frames_deeper hl⟩⟩
noncomputable abbrev Pl.in(κ:Pl)(p:FP):Pl:=⟨[p],κ.ob,κ.fr.flatMap FP.addrs++κ.hid⟩
theorem Pl.in_mt(κ:Pl)(p:FP):(κ.in p).mt=p.addrs++κ.mt:=by
 show(p.addrs++[])++((_++_)++_)=_
 rw[append_nil,Pl.mt,append_assoc]
theorem g0(R:aH w κ F O s.heap)(hup:up=1→A.frames=some [])(ok:∀env,Ok (A.deeper env) n)(ok0:Ok A n)(hk:scope.kind=.function)
 (k:fk s.heap κ vars binds) (okv:fG scope.names vars=true) (hn:(vars.map (·.1)).Nodup) (nf:dw scope.names=true)
 (hcode:lam=false→∃c p,code=.ref c∧CodeHd (HW w) c p∧p<(HW w).objs.size∧(HW w).get? p=none)
 (hQ:∀{env' s' p},St w (A.deeper env') n O.length (κ.in p) [⟨scope.names,pW scope.names vars,lam,up,none⟩] O s' env'→bj s.heap κ s'.heap (κ.in p)→am s s'→(∀a∈(κ.in p).hid,∀o,s.heap.get? a=some o→s'.heap.get? a=some o)→Q env' s'):
 wpAny (MW w) A0 (newFunctionEnv scope mainGlobals [] binds qual func code none builtinsNs) Q E s:=by
 refine gW fun env' he=>?_
 obtain⟨R1,x1⟩:=R.lay scope.names (.type "frame") lam up (κ':=κ.in (cY s.heap scope.names lam up)) (F2:=[]) (P2:=[]) rfl rfl (κ.in_mt _) rfl (fun _ q=>nomatch q) fun i f q e=>nomatch e
 have kk:=iE s.heap (.type "frame") scope.names
 have hkind:∀x,env'.kindOf x=scope.names.lookup x:=fun x=>by rw[he];rfl
 have noFr:∀{x},scope.names.lookup x≠some .free:=fun hx=>absurd nf (by simp only[dw,not_eq_true',Bool.not_eq_false];exact List.any_eq_true.mpr ⟨_,mem_of_lookup hx,rfl⟩)
 have hc:env'.code=code:=by rw[he];rfl
 have stk:∀p,(κ.in (cY s.heap scope.names lam up)).fr=[p]→env'.frame=some p.L∧∃l,(A.deeper env').frames=some (env'::l)∧(p.up=1→l=[]):=fun p h=>by
  injection h with h9 h8;subst h9
  obtain⟨l,hl⟩:=ok0.fr
  exact⟨by rw[he];rfl,l,Around.frames_deeper hl,fun h1=>Option.some.inj (hl.symm.trans (hup h1))⟩
 have ER:nX w (κ.in (cY s.heap scope.names lam up)).fr env':={
  kind:=by rw[he];exact hk
  glob:=by rw[he];rfl
  blt:=by rw[he];rfl
  code:=fun q=>hc▸hcode (by cases lam with|false=>rfl|true=>exact aj q)
  top:=⟨_,_,rfl,m9 (cl:=[]) (by rw[he];rfl) (by rw[he];rfl) (fun x k hx=>⟨fun _=>(hkind x).trans hx,fun e=>absurd (e▸hx) noFr⟩) fun x hx=>absurd hx noFr⟩ }
 refine wpAny_mono (kY (b:=O.length) (aK:=[]) vars (je x1 k) okv ⟨ok env',R1,ER,le_refl _,stk⟩) (fun _ s2 g=>?_) fun _ _ e=>e
 have R3:=g.rel.relook (f':=⟨scope.names,pW scope.names vars,lam,up,none⟩) rfl rfl rfl rfl fun x=>by
  rw[lB]
  show ss _=_
  rw[gF x vars [] hn]
  cases vars.lookup x<;>rfl
 exact hQ ⟨ok _,R3,ER,le_refl _,stk⟩ (x1.trans g.ext) ⟨g.rest.1,g.rest.2.1,g.rest.2.2⟩ fun a ha o e=>(g.hid a ha).2 o (kk a o e)
end
mutual
theorem tj{h:Heap}{κ:Pl}:∀{v:V} {cv:Value},RV h κ v cv→v.under κ.ob.length=true
 |.none,_,_=>rfl
 |.bool _,_,_=>rfl
 |.int _,_,_=>rfl
 |.str _,_,_=>rfl
 |.tup l,_,q2=>by obtain⟨_,_,_,_,_,m⟩:=q2;exact eK m
 |.lst l,_,q2=>by obtain⟨_,_,_,_,_,m⟩:=q2;exact eK m
 |.ref n,_,q2=>by obtain⟨_,_,e⟩:=q2;exact decide_eq_true (List.getElem?_eq_some_iff.mp e).1
 |.rng _ _ _,_,_=>rfl
 |.lam _ _ _,_,_=>rfl
 |.cst _,_,_=>rfl
 |.opq _,_,_=>rfl
theorem eK{h:Heap}{κ:Pl}:∀{l:List V} {r:List Value},ag h κ l r→dz κ.ob.length l=true
 |[],_,_=>rfl
 |_::_,_,q2=>by obtain⟨_,_,_,a,b⟩:=q2;exact and_eq_true_iff.mpr ⟨tj a,eK b⟩
end
theorem i9{h:Heap}{κ:Pl}{c:C}(r:gM w h κ o c):o.Under κ.ob.length:=by
 cases c with
 |obj a=>cases o with
  |list l=>obtain⟨_,_,hv⟩:=r;exact eK hv
  |iter l=>obtain⟨_,_,_,_,_,_,hv⟩:=r;exact eK hv
  |dS l=>obtain⟨_,_,_,hv⟩:=r;exact eK hv
  |dead=>trivial
  |tab=>trivial
 |tab a=>cases o with
  |tab=>trivial
  |_=>exact r.elim
structure qU (κ κ2:Pl):Prop where
 pre:κ.ob <+:κ2.ob
 mt:∀a∈κ.mt,a∈κ2.mt
 off:∀(k:Nat) (a:Addr),κ.ob.length≤k→κ2.ob[k]? =some (.obj a)→a∉κ.mt
theorem zg{α:Type}{l l':List α}(p:l <+:l'){i:Nat}{c:α}(h:i<l.length)(e:l'[i]? =some c):l[i]? =some c:=by
 obtain⟨t,rfl⟩:=p
 rwa[getElem?_append_left h]at e
theorem qU.of{κ κ2:Pl}(nd:κ2.mt.Nodup)(pre:κ.ob <+:κ2.ob)(fh:∀a∈κ.fr.flatMap FP.addrs++κ.hid,a∈κ2.fr.flatMap FP.addrs++κ2.hid):qU κ κ2 where
 pre:=pre
 mt a h:=by
  obtain⟨l,e⟩:=pre
  rw[Pl.mt, ←append_assoc]at h ⊢
  exact(mem_append.mp h).elim (fun h=>mem_append_left _ (fh a h)) fun h=>mem_append_right _ (by rw[←e,map_append];exact mem_append_left _ h)
 off k a hk e h:=by
  rw[Pl.mt, ←append_assoc]at h
  rw[Pl.mt, ←append_assoc]at nd
  have hm:a∈κ2.ob.map C.addr:=mem_map.mpr ⟨_,mem_of_getElem? e,rfl⟩
  rcases mem_append.mp h with h|h
  ·exact(nodup_append.mp nd).2.2 a (fh a h) a hm rfl
  ·obtain⟨c,hc,ea⟩:=mem_map.mp h
   obtain⟨j,hj⟩:=List.mem_iff_getElem?.mp hc
   have hjl:=(List.getElem?_eq_some_iff.mp hj).1
   refine absurd ((List.getElem?_inj (i:=j) (j:=k) ?_ (nodup_append.mp nd).2.1).mp ?_) (ne_of_lt (lt_of_lt_of_le hjl hk))
   ·rw[length_map];exact lt_of_lt_of_le hjl pre.length_le
   ·rw[getElem?_map,getElem?_map,e,cR pre hj];exact congrArg some ea
mutual
theorem io{b:Nat}:∀{v:V},v.pure=true→v.under b=true
 |.none,_=>rfl
 |.bool _,_=>rfl
 |.int _,_=>rfl
 |.str _,_=>rfl
 |.tup l,h=>d9 (l:=l) h
 |.lst l,h=>d9 (l:=l) h
 |.rng _ _ _,_=>rfl
 |.lam _ _ _,_=>rfl
 |.cst _,_=>rfl
 |.opq _,_=>rfl
theorem d9{b:Nat}:∀{l:List V},d0 l=true→dz b l=true
 |[],_=>rfl
 |v::l,h=>and_eq_true_iff.mpr ⟨io (aB h).1,d9 (aB h).2⟩
end
section
variable {h:Heap} {κ κ2:Pl}
theorem kC(C:qU κ κ2){cv:Value}(r:kc h κ2 cv):kc h κ cv:=by obtain⟨c,oc,vs,q,t,e,a,g,r⟩:=r;exact⟨c,oc,vs,q,t,e,fun z=>a (C.mt _ z),g,r⟩
mutual
theorem qO(C:qU κ κ2):∀{v:V} {cv:Value},v.under κ.ob.length=true→RV h κ2 v cv→RV h κ v cv
 |.none,_,_,e=>e
 |.bool _,_,_,e=>e
 |.int _,_,_,e=>e
 |.str _,_,_,e=>e
 |.tup l,_,u,q3=>by obtain⟨a,aA,e,ho,ha,m⟩:=q3;exact⟨a,aA,e,ho,fun z=>ha (C.mt _ z),gK C u m⟩
 |.lst l,_,u,q3=>by obtain⟨a,aA,e,ho,ha,m⟩:=q3;exact⟨a,aA,e,ho,fun z=>ha (C.mt _ z),gK C u m⟩
 |.ref n,_,u,q3=>by obtain⟨a,e,hi⟩:=q3;exact⟨a,e,zg C.pre (of_decide_eq_true u) hi⟩
 |.rng _ _ _,_,u,q3=>by obtain⟨a,t1,t2,t3,e,ha,r⟩:=q3;exact⟨a,t1,t2,t3,e,fun z=>ha (C.mt _ z),r⟩
 |.lam _ _ _,_,u,q3=>by obtain⟨a,o,fd,e,ha,ho,l⟩:=q3;exact⟨a,o,fd,e,fun z=>ha (C.mt _ z),ho,{ l with code:=kC C l.code }⟩
 |.cst _,_,_,e=>e
 |.opq _,_,_,q3=>by obtain⟨e,ha,q⟩:=q3;exact⟨e,fun z=>ha (C.mt _ z),q⟩
theorem gK(C:qU κ κ2):∀{l:List V} {r:List Value},dz κ.ob.length l=true→ag h κ2 l r→ag h κ l r
 |[],_,_,e=>e
 |v::l,_,u,q3=>by obtain⟨cv,r,e,a,b⟩:=q3;exact⟨cv,r,e,qO C (aB u).1 a,gK C (aB u).2 b⟩
end
theorem CA(C:qU κ κ2){c:Mine.C}(u:o.Under κ.ob.length)(r:gM w h κ2 o c):gM w h κ o c:=by
 cases c with
 |obj a=>cases o with
  |list l=>obtain⟨aA,hl,hv⟩:=r;exact⟨aA,hl,gK C u hv⟩
  |iter l=>obtain⟨b,k,aA,h1,h2,h3,hv⟩:=r;exact⟨b,k,aA,h1,h2,fun z=>h3 (C.mt _ z),gK C u hv⟩
  |dS l=>obtain⟨kvs,h1,h2,hv⟩:=r;exact⟨kvs,h1,h2,gK C u hv⟩
  |dead=>trivial
  |tab=>exact r.elim
 |tab a=>cases o with
  |tab=>obtain⟨ps,h1,h2,h3⟩:=r;exact⟨ps,h1,h2,fun p' cv e=>kC C (h3 p' cv e)⟩
  |_=>exact r.elim
theorem tm(C:qU κ κ2)(e0:κ0.ob=κ.ob){o:Option V}{cv cv0:Option Value}(r0:hY h0 κ0 o cv0)(r:hY h κ2 o cv):hY h κ o cv:=by
 cases o with
 |none=>trivial
 |some v=>
  obtain⟨_,_,u⟩:=hY.some r0
  obtain⟨cv,rfl,r⟩:=hY.some r
  exact qO C (e0▸tj u) r
theorem CC(C:qU κ κ2){c:gN}(sf:∀r,p::r <:+κ2.fr→p::r <:+κ.fr)(y:zB h κ2 f p c):zB h κ f p c:=
 by obtain⟨a,r,o,fd,cl,h1,h2,h3,h4,h5,h6,h7⟩:=y;exact⟨a,r,o,fd,cl,h1,h2,sf r h3,fun z=>h4 (C.mt _ z),h5,{ h6 with code:=kC C h6.code },h7⟩
theorem nV(C:qU κ κ2)(e0:κ0.ob=κ.ob)(sf:∀r,p::r <:+κ2.fr→p::r <:+κ.fr)(r0:bZ h0 κ0 f p)(r:bZ h κ2 f p):bZ h κ f p where
 nm:=r.nm
 lm:=r.lm
 loc:=by obtain⟨_,_,h0⟩:=r0.loc;obtain⟨m,hm,hl⟩:=r.loc;exact⟨m,hm,fun x hx=>tm C e0 (h0 x hx) (hl x hx)⟩
 cell x hx:=by obtain⟨_,_,_,_,h0⟩:=r0.cell x hx;obtain⟨c,cv,h1,h2,h3⟩:=r.cell x hx;exact⟨c,cv,h1,h2,tm C e0 h0 h3⟩
 up:=r.up
 clo c hc:=CC C sf (r.clo c hc)
theorem cS.cutTo{F:List Fr}(R2:cS w h0 κ2 F2 O2 h)(C:qU κ κ2)(nd:κ.mt.Nodup)(u:∀(i:Nat) o,i<κ.ob.length→O2[i]? =some o→o.Under κ.ob.length)(tab:∀p:Addr,p<h0.objs.size→h0.get? p=none→∃k:Nat,κ.ob[k]? =some (.tab p))
 (flen:κ.fr.length=F.length) (frs:∀(i:Nat) f p,F[i]? =some f→κ.fr[i]? =some p→bZ h κ f p):cS w h0 κ F (O2.take κ.ob.length) h where
 len:=by rw[length_take, ←R2.len];exact(min_eq_left C.pre.length_le).symm
 flen:=flen
 base:=R2.base
 off a ha:=R2.off a (C.mt a ha)
 nd:=nd
 ex a ha:=R2.ex a (C.mt a ha)
 objs i o c e e':=by
  have hi:=(List.getElem?_eq_some_iff.mp e').1
  rw[List.getElem?_take,if_pos hi]at e
  exact CA C (u i o hi e) (R2.objs i o c e (cR C.pre e'))
 frs:=frs
 tab:=tab
theorem jU(R2:cS w h0 κ2 F2 O2 h)(C:qU κ κ2)(n:Nat):∀{v v':V} {cv:Value},cB O2 κ.ob.length n v=some v'→RV h κ2 v cv→RV h κ v' cv:=by
 induction n with
 |zero=>intro v v' cv e;exact nN e
 |succ n ih=>
  have ihs:∀{l l':List V} {r:List Value},l.mapM (cB O2 κ.ob.length n)=some l'→ag h κ2 l r→ag h κ l' r:=by
   intro l
   induction l with
   |nil=>intro l' r e m;obtain rfl:=sI e;exact m
   |cons x l ihl=>
    intro l' r e m
    rw[mapM_cons]at e
    obtain⟨y,e1,e⟩:=bS e
    obtain⟨l'',e2,e⟩:=bS e
    obtain rfl:=sI e
    obtain⟨c,r,rfl,a,b⟩:=m
    exact⟨c,r,rfl,ih e1 a,ihl e2 b⟩
  intro v v' cv e r
  cases v with
  |ref k=>
   dsimp only[cB]at e
   by_cases hk:k<κ.ob.length
   ·rw[if_pos hk]at e;obtain rfl:=sI e
    exact qO C (decide_eq_true hk) r
   ·rw[if_neg hk]at e
    obtain⟨l,h1,e⟩:=bS e
    obtain⟨l',e1,e⟩:=mS e
    subst e
    obtain⟨a,aA,rfl,hi,hl,hv⟩:=R2.list h1 r
    exact⟨a,aA,rfl,hl,C.off k a (Nat.le_of_not_lt hk) hi,ihs e1 hv⟩
  |tup l=>
   obtain⟨l',e1,e⟩:=mS e
   subst e
   obtain⟨a,aA,e,ho,ha,m⟩:=r;exact⟨a,aA,e,ho,fun z=>ha (C.mt _ z),ihs e1 m⟩
  |lst l=>
   obtain⟨l',e1,e⟩:=mS e
   subst e
   obtain⟨a,aA,e,ho,ha,m⟩:=r;exact⟨a,aA,e,ho,fun z=>ha (C.mt _ z),ihs e1 m⟩
  |_=>obtain rfl:=sI e;exact qO C rfl r
end
end
section
variable {Q:V→Oj→Prop} {a:List V} {ca:List Value} {sc:Scope}
section
variable {w:World} {A:Around} {n b:Nat} {κ κ2:Pl} {F F2:List Fr} {O O2:Oj} {s s1 s2:Shared} {env:Env} {J:WI} {E:Value→Shared→Prop} {p:FP}
theorem Ix(R:aH w κ F O s.heap)(hb:b≤O.length)(x:bj s.heap κ s1.heap (κ.in p))(q:am s s1)(kh:∀a∈(κ.in p).hid,∀o,s.heap.get? a=some o→s1.heap.get? a=some o)(g:dp w O.length (κ.in p) O s1 κ2 F2 O2 s2):dp w b κ O s κ F (O2.take O.length) s2∧qU κ κ2:=by
 have hid:∀a∈(κ.in p).hid,a∈κ2.hid∧∀o,s.heap.get? a=some o→s2.heap.get? a=some o:=fun a ha=>⟨(g.hid a ha).1,fun o e=>(g.hid a ha).2 o (kh a ha o e)⟩
 have C:qU κ κ2:=qU.of g.rel.nd g.ext.pre fun a ha=>mem_append_right _ (hid a ha).1
 have y:=x.trans g.ext
 have z:bj s.heap κ s2.heap κ:=⟨prefix_rfl,y.keep,fun b hb hn=>absurd hb hn⟩
 have u:∀(i:Nat) o,i<κ.ob.length→O2[i]? =some o→o.Under κ.ob.length:=fun i o hi e=>by
  have hi':i<O.length:=R.len▸hi
  obtain⟨c,_,r⟩:=R.get (getElem?_eq_getElem hi')
  obtain⟨o',e',k⟩:=g.mono i _ hi' (getElem?_eq_getElem hi')
  obtain rfl:=sI (e.symm.trans e')
  exact k _ (i9 r)
 have R3:=g.rel.cutTo C R.nd u R.tab R.flen fun i f p e e'=>cD z (fun _ q=>q) (fun b hb o ho=>(hid b (mem_append_left _ (mem_flatMap.mpr ⟨p,mem_of_getElem? e',hb⟩))).2 o ho) (R.frs i f p e e')
 rw[R.len]at R3
 refine⟨⟨R3,z,rfl,⟨g.rest.1.trans q.1,g.rest.2.1.trans q.2.1,g.rest.2.2.trans q.2.2⟩,fun i o hi e=>?_,fun a ha=>⟨ha,(hid a (mem_append_right _ ha)).2⟩⟩,C⟩
 have hi':=lt_of_lt_of_le hi hb
 obtain⟨o',e',k⟩:=g.mono i o hi' e
 exact⟨o',by rw[List.getElem?_take,if_pos hi'];exact e',k⟩
theorem tT{v v':V}{cv:Value}(R:aH w κ F O s.heap)(hb:b≤O.length)(x:bj s.heap κ s1.heap (κ.in p))(q:am s s1)(kh:∀a∈(κ.in p).hid,∀o,s.heap.get? a=some o→s1.heap.get? a=some o)(g:dp w O.length (κ.in p) O s1 κ2 F2 O2 s2)
 (h:leave O.length v O2=some v') (r:RV s2.heap κ2 v cv) (hq:Q v' (O2.take O.length)):aG w b κ F O s RV Q cv s2:=
 (by obtain⟨g',C⟩:=Ix R hb x q kh g;exact .mk hq g' (jU g.rel C 4 (R.len▸h) r))
theorem vu{h:Heap}:∀l:List Value,ag h κ (l.map lU) l
 |[]=>rfl
 |x::l=>⟨x,l,rfl,iA _ _ _,vu l⟩
theorem Ok.room(h:Ok A n):A.depth<recursionLimit:=lt_of_le_of_lt (le_trans (le_add_right _ _) h.dep) (by decide)
theorem kW{up:Nat}(hup:up=1→A.frames=some [])(B:bI w)(S:d6 w n J){ad:Addr}{ks:List (Str×V)}{cks:List (Str×Value)}(h:Lf (GG.fns.lookup ad) fun fi=>Lf (fC fi.params fi.dfl fi.kwd a ks) fun vars=>J3 J up fi vars Q O)(ok:Ok A (n+1))(R:aH w κ F O s.heap)(hb:b≤O.length)
 (Ra:ag s.heap κ a ca) (Rk:fk s.heap κ ks cks):wpAny (MW w) A (call (.ref ad) ca cks) (aG w b κ F O s RV Q) E s:=by
 refine hG fun _ kk=>?_
 obtain⟨fi,h1,h⟩:=h.out
 obtain⟨vars,h2,h⟩:=h.out
 obtain⟨hch,hx⟩:=h.out
 obtain⟨okv,hnf⟩:=aB hch
 obtain⟨o,fd,K⟩:=B.fns ad fi h1
 refine kk ?_
 refine wpAny_call (codeAny_call_function ok.room (R.base _ _ K.get) K.data (K.scope.symm▸K.cor) (K.scope.symm▸K.gen) K.body (K.crec.keeps R.base) ?_)
 refine dj (K.params.symm▸h2) Ra Rk ?_ ?_ fun binds kb=>?_
 ·exact K.dfl.imp id fun x9=>(by obtain⟨t,aA,q1,⟨ot,hot,r⟩,q3⟩:=x9;exact⟨t,aA,q1,⟨ot,R.base _ _ hot,r⟩,q3▸vu _⟩)
 ·refine K.kwd.imp id fun⟨d,m,q1,q2,q3⟩=>⟨d,m,q1,q2.keeps R.base,fun x=>?_⟩
  rw[←q3]
  cases m x with
  |none=>trivial
  |some cv=>exact iA _ _ _
 refine Eq.symm (K.glob)▸Eq.symm (K.blt)▸Eq.symm (K.clos)▸Eq.symm (K.scope)▸?_
 refine g0 (A:=A) (n:=n) (up:=up) R hup (fun env=>ok.deeper) ok.dn K.kind kb okv (dk h2) hnf (fun _=>K.code) fun {env' s1 p} t x q kh=>⟨B.nolimit.keeps t.rel.base,codeAny_func (dQ.seq (cp S hx t) fun {f F2 κ2 O2 cf s2} hq g r=>?_)⟩
 cases f with
 |next=>cases r;exact .mk hq (Ix R hb x q kh g).1 rfl
 |ret v=>obtain⟨cv,rfl,rv⟩:=r;obtain⟨v',h3,hq⟩:=hq.out;exact tT R hb x q kh g h3 rv hq
 |_=>exact hq.elim
theorem iZ{R:Result→Shared→Prop}{a:Addr}{args:Args}{o oc:Obj}{fd:FuncData}{body:Expr}{c:Addr}{vs:Array Value}{q:Str}{t:Tok}(hroom:A.depth<recursionLimit)
 (ho:s.heap.get? a=some o) (hd':o.data=.func fd) (hco:fd.scope.isCoroutine=false) (hgen:fd.scope.isGenerator=false) (hbody:fd.body=.expr body)
 (hc:fd.code=.ref c) (hoc:s.heap.get? c=some oc) (hdc:oc.data=.fields vs) (hq:vs[1]? =some (.str q t))
 (h:wpAny (MW w) A.in1 (bindArgs fd args) (fun binds s₁=>
  wpAny (MW w) A.in1 (newFunctionEnv fd.scope fd.globals fd.closure binds (q++".<locals>.") (some a) fd.code none fd.builtins)
   (fun env s₂=>s₂.heap.NoLimit∧codeAny (MW w) A (.expr body env) R s₂) (fun e s'=>R (.error e) s') s₁) (fun e s'=>R (.error e) s') s):
 codeAny (MW w) A (.call (.ref a) args) R s:=by
 refine codeAny_of_tree ?_
 show wpAny _ A.in1 (callAny (.ref a) args) _ _ s
 refine wpAny_bind (m:=load a) (wpAny_load ho ?_)
 rw[hd']
 show wpAny _ _ (callFunction a fd args) _ _ _
 delta callFunction
 refine Eq.symm (hco)▸Eq.symm (hgen)▸Eq.symm (hbody)▸Eq.symm (hc)▸?_
 rw[hc]at h
 refine wpAny_bind (m:=field (.ref c) 1) (wpAny_field hoc hdc hq (wpAny_bind (wpAny_pure ?_)))
 exact wpAny_bind (wpAny_mono h (fun binds s₁ h₁=>wpAny_bind (wpAny_mono h₁ (fun env s₂ h₂=>wpAny_bind (wpAny_enterFrame h₂.1 hroom
  (wpAny_pure (And.intro rfl h₂.2)))) fun _ _ h'=>h')) fun _ _ h'=>h')
theorem f9(h:dh sc=true):sc.kind=.function∧sc.isGenerator=false∧sc.isCoroutine=false:=by
 obtain⟨h,_⟩:=aB h
 obtain⟨h,h3⟩:=aB h
 obtain⟨h1,h2⟩:=aB h
 exact⟨beq_iff_eq.mp h1,by simpa using h2,by simpa using h3⟩
theorem tL(B:bI w)(S:d6 w n J){as:Arguments}{bd:Expr}{cf:Value}
 (h:Lf (fC as [] [] a []) fun vars=>Gd (fG sc.names vars&&dh sc&&dw sc.names) (J.e bd [⟨sc.names,pW sc.names vars,true,0,none⟩] O.length (fun v O1=>Lf (leave O.length v O1) fun r=>Q r (O1.take O.length)) O)) (ok:Ok A (n+1))
 (R:aH w κ F O s.heap) (hb:b≤O.length) (rf:RV s.heap κ (.lam as bd sc) cf) (Ra:ag s.heap κ a ca):wpAny (MW w) A (call cf ca []) (aG w b κ F O s RV Q) E s:=by
 refine hG fun _ kk=>?_
 obtain⟨vars,h2,h⟩:=h.out
 obtain⟨hch,hx⟩:=h.out
 obtain⟨hch,hnf⟩:=aB hch
 obtain⟨okv,hsc⟩:=aB hch
 obtain⟨s1,s2,s3⟩:=f9 hsc
 obtain⟨ad,o,fd,rfl,ha,ho,K⟩:=rf
 obtain⟨c,oc,vs,q,t,k1,k2,k3,k4,k5⟩:=K.code
 refine kk ?_
 refine wpAny_call (iZ ok.room ho K.data (K.sc.symm▸s3) (K.sc.symm▸s2) K.bd k1 k3 k4 k5 ?_)
 refine dj (K.params.symm▸h2) Ra (show fk _ _ [] _ from rfl) (.inl ⟨rfl,K.dfl⟩) (.inl ⟨rfl,K.kwd⟩) fun binds kb=>?_
 refine Eq.symm (K.glob)▸Eq.symm (K.blt)▸Eq.symm (K.clos)▸Eq.symm (K.sc)▸?_
 exact g0 (A:=A) (n:=n) (lam:=true) (up:=0) R nofun (fun env=>ok.deeper) ok.dn s1 kb okv (dk h2) hnf nofun fun {env' s1 p} t x q kh=>⟨B.nolimit.keeps t.rel.base,kla_codeExpr (aG.seq (S.e hx t) fun {v κ2 O2 cv s2} hq g r=>(by obtain⟨v',h3,hq⟩:=hq.out;exact tT R hb x q kh g h3 r hq))⟩
end
end
section
variable {x:Str} {scope:Scope} {v:V} {f:Fr} {r:List Fr}
noncomputable def dY(env:Env):af→List (Str×Addr)→List (Str×Addr)
 |[],aK=>aK
 |y::r,aK=>if y.2== .free then dY env r ((y.1,(env.cells.lookup y.1).getD 0)::aK)else dY env r aK
theorem ib{env:Env}(names:af):∀{aK:List (Str×Addr)},(x,NameKind.free)∈names∨aK.lookup x=some ((env.cells.lookup x).getD 0)→(dY env names aK).lookup x=some ((env.cells.lookup x).getD 0):=by
 induction names with
 |nil=>exact fun h=>h.elim (fun h=>nomatch h) id
 |cons y r ih=>
  intro aK h
  show(if y.2== .free then dY env r ((y.1,(env.cells.lookup y.1).getD 0)::aK)else dY env r aK).lookup x=_
  split
  ·rename_i hk
   refine ih (h.elim (fun h=>(mem_cons.mp h).elim (fun q=>.inr (by rw[←q,List.lookup_cons_self])) .inl) fun h=>.inr ?_)
   rw[lookup_cons]
   split
   ·rename_i hxy;rw[beq_iff_eq.mp hxy]
   ·exact h
  ·rename_i hk
   exact ih (h.imp_left fun h=>(mem_cons.mp h).elim (fun q=>absurd (congrArg Prod.snd q.symm) (fun e=>hk (beq_iff_eq.mpr e))) id)
theorem tG{env:Env}(names:af)(h:dw names=true):∀aK,dY env names aK=aK:=by
 induction names with
 |nil=>exact fun _=>rfl
 |cons y r ih=>
  intro aK
  simp only[dw,any_cons,not_eq_true',Bool.or_eq_false_iff]at h
  show(if y.2== .free then _ else dY env r aK)=aK
  rw[h.1,if_neg Bool.false_ne_true]
  exact ih (by rw[dw,h.2];rfl) aK
theorem fL{env:Env}(h:∀x∈scope.names,x.2=.free→∃c,env.cells.lookup x.1=some c):closureFor scope env=pure (dY env scope.names []):=by
 unfold closureFor
 have:∀(names:af) (aK:List (Str×Addr)),(∀x∈names,x.2=.free→∃c,env.cells.lookup x.1=some c)→
  (forIn names aK fun x (cs:List (Str×Addr))=>(if x.2==NameKind.free then do let a ←cellOf env x.1;pure (ForInStep.yield ((x.1,a)::cs))else pure (ForInStep.yield cs):Sem _))=pure (dY env names aK):=by
  intro names
  induction names with
  |nil=>intro aK _;rfl
  |cons x r ih=>
   intro aK hx
   rw[forIn_cons]
   show _=(pure (if x.2== .free then dY env r ((x.1,(env.cells.lookup x.1).getD 0)::aK)else dY env r aK):Sem _)
   split
   ·rename_i hk
    obtain⟨c,hc⟩:=hx x mem_cons_self (beq_iff_eq.mp hk)
    unfold cellOf
    rw[hc,pure_bind,pure_bind]
    exact ih _ fun y hy=>hx y (mem_cons_of_mem _ hy)
   ·rw[pure_bind]
    exact ih _ fun y hy=>hx y (mem_cons_of_mem _ hy)
 dsimp only
 rw[bind_pure]
 exact this scope.names [] h
theorem pe(c:Str→NameKind→Bool)(d:NameKind)(x:Str)(names:af):(names.map fun y=>if c y.1 y.2=true then(y.1,d)else(y.1,y.2)).lookup x=(names.lookup x).map fun k=>if c x k=true then d else k:=by
 induction names with
 |nil=>rfl
 |cons y r ih=>
  have e:(if c y.1 y.2=true then(y.1,d)else(y.1,y.2))=(y.1,if c y.1 y.2=true then d else y.2):=by split<;>rfl
  rw[map_cons,e,lookup_cons,ih,lookup_cons (k:=y.1)]
  by_cases hx:x=y.1
  ·rw[←hx,beq_self_eq_true];rfl
  ·rw[beq_false_of_ne hx]
section
variable {w:World} {A:Around} {n b m:Nat} {κ κ1 κ2:Pl} {F F1 F2:List Fr} {O O1 O2:Oj} {s s1 s2:Shared} {env:Env} {J:WI} {E:Value→Shared→Prop} {p:FP} {FR:List FP} {src:gV} {I D:Addr} {H:List Addr}
theorem fH{sc:Scope}(h:dh sc=true):∀x∈sc.names,x.2=.free∨x.2=.globalImplicit∨((x.2=.local∨x.2=.cell)∧sc.names.lookup x.1=some x.2):=fun x hx=>by
 have:=all_eq_true.mp (aB h).2 x hx
 rcases or_eq_true_iff.mp this with h|h
 ·exact(or_eq_true_iff.mp h).imp beq_iff_eq.mp fun h=>.inl (beq_iff_eq.mp h)
 ·exact .inr (.inr ⟨(or_eq_true_iff.mp (aB h).1).imp beq_iff_eq.mp beq_iff_eq.mp,beq_iff_eq.mp (aB h).2⟩)
theorem mq(R:aH w κ F O s.heap)(ER:nX w κ.fr env){names:af}(hf:mu F names=true):∀x∈names,x.2=.free→∃c,env.cells.lookup x.1=some c∧cW κ.fr 0 x.1=some c:=by
 intro x hx hk
 have hfa:=all_eq_true.mp hf x hx
 rw[hk]at hfa
 have hfa:vP F x.1=true:=hfa
 obtain⟨p,r,hp,T⟩:=ER.top
 clear hf
 cases F with
 |nil=>exact aj hfa
 |cons f rF=>
  have fr:bZ s.heap κ f p:=R.frs 0 f p rfl (hp▸rfl)
  dsimp only[vP]at hfa
  rw[fr.nm]at hfa
  refine Eq.symm (hp)▸?_
  cases hn:p.names.lookup x.1 with
  |none=>rw[hn]at hfa;exact aj hfa
  |some kd=>
   rw[hn]at hfa
   cases kd with
   |cell=>
    obtain⟨_,c,h1,h2⟩:=T.cell _ hn
    exact⟨c,h2,(Bj hn).trans h1⟩
   |free=>
    obtain⟨_,c,h1,h2⟩:=T.free _ hn
    exact⟨c,h1,(Bi hn).trans h2⟩
   |_=>exact aj hfa
theorem BO{h:Heap}(ER:nX w FR env)(hs:dh scope=true)(hf:∀x∈scope.names,x.2=.free→∃c,env.cells.lookup x.1=some c∧cW FR 0 x.1=some c){cenv:Env}(e1:cenv.scope=relabel scope env)(e2:cenv.globals=env.globals)(e3:cenv.builtins=env.builtins)(e4:cenv.locals=h.objs.size)
 (e5:cenv.cells=cellsFrom (h.objs.size+1) scope.names (dY env scope.names [])) (e6:cenv.code=env.code):nX w (cY h scope.names false 0::FR) cenv:=by
 have hkd:∀x,cenv.kindOf x=(scope.names.lookup x).map fun k=>if(k==NameKind.free&&env.scope.kind== .function&&env.kindOf x==some .cell)then NameKind.cell else k:=fun x=>by
  unfold Env.kindOf;rw[e1];exact pe (fun n k=>k==NameKind.free&&env.scope.kind== .function&&env.kindOf n==some .cell) .cell x scope.names
 refine⟨by rw[e1];exact(f9 hs).1,e2.trans ER.glob,e3.trans ER.blt,fun q=>e6▸ER.code q,_,_,rfl,m9 e4 e5 (fun x k hx=>?_) fun x hx=>⟨fun hm=>?_,?_⟩⟩
 ·rw[hkd,hx]
  refine⟨fun hk=>?_,fun hk=>?_⟩
  ·have:(k==NameKind.free)=false:=beq_false_of_ne hk
   show some (if(k==NameKind.free&&_&&_)=true then NameKind.cell else k)=some k
   rw[this];rfl
  ·subst hk
   show some (if(_:Bool)=true then NameKind.cell else .free)=_∨some (if(_:Bool)=true then NameKind.cell else .free)=_
   split
   ·exact .inl rfl
   ·exact .inr rfl
 ·rcases fH hs _ hm with q|q|⟨_,q⟩
  ·cases q
  ·cases q
  ·exact nomatch hx.symm.trans q
 ·obtain⟨c,h1,h2⟩:=hf (x,.free) (mem_of_lookup hx) rfl
  exact⟨c,by rw[ib scope.names (.inl (mem_of_lookup hx)),h1];rfl,h2⟩
theorem bv.low(hb:b≤m)(g:bv m O O1):bv b O O1:=fun i o hi e=>g i o (lt_of_lt_of_le hi hb) e
theorem xa.low(hb:b≤m)(g:xa w (HW w) m FR κ O s κ1 F1 O1 s1):xa w (HW w) b FR κ O s κ1 F1 O1 s1:={ g with mono:=g.mono.low hb }
theorem qL{cv:Value}{P:Value→Shared→Prop}(R:aH w κ F O s.heap)(h:pU O m v=some O1)(hD:κ.ob[m]? =some (.obj D))(r:RV s.heap κ v cv)(k:∀s',dp w m κ O s κ F O1 s'→P .none s'):wpAny (MW w) A (call (.builtin "list.append") [.ref D,cv]) P E s:=by
 obtain⟨l,hl,h⟩:=bS h
 obtain⟨hlen,h⟩:=iS h
 obtain rfl:=sI h
 obtain⟨aA,hp,rs⟩:=R.at' (b9 hl) hD
 refine wpAny_list_append_plain (hsz:=aR rs▸le_trans (aZ hlen) (by decide)) hp fun h' hp' hs'=>?_
 obtain⟨R',x',hk⟩:=R.setO (o':=.list (l++[v])) (b9 hl) hD (fun b ob hn e=>(hs'.2 b hn).trans e) ((by obtain⟨n,hn⟩:=hp';exact⟨_,hn⟩)) fun x=>⟨_,hp',by
  rw[Array.toList_push];exact eF (iT x rs) (jd (rM x r) lQ)⟩
 exact k { s with heap:=h' } ⟨R',x',rfl,⟨rfl,rfl,rfl⟩,bv.set_high (le_refl _),hk⟩
theorem kG(h:bn (f::r) x v=some F1):∃f',F1=f'::r:=by obtain⟨_,h⟩:=iS h;exact⟨_,(Option.some.inj h).symm⟩
theorem kI{tgt:Expr}(h:dG (f::r) tgt v=some F1):∃f',F1=f'::r:=by
 cases tgt with
 |Name x p=>exact kG h
 |Tuple es _ p=>
  cases v with
  |tup l=>
   have:∀(es:List Expr) {l:List V} {f:Fr},ge (f::r) es l=some F1→∃f',F1=f'::r:=by
    intro es
    induction es with
    |nil=>intro l f h;cases l with|nil=>obtain rfl:=sI h;exact⟨_,rfl⟩|cons=>exact nN h
    |cons e es ih=>
     intro l f h
     obtain⟨x,p,v,r',F2,rfl,rfl,h1,h2⟩:=gc h
     obtain⟨f',rfl⟩:=kG h1
     exact ih h2
   exact this es h
  |_=>exact nN h
 |_=>exact nN h
theorem kR:∀{ifs:List Expr},(forIn ifs false fun c r=>if r=true then do let ok ←isTrue c env (eval c env);pure (ForInStep.yield ok)else pure (ForInStep.yield r))=(pure false:Sem Bool)
 |[]=>rfl
 |c::ifs=>by
  rw[forIn_cons,if_neg Bool.false_ne_true,pure_bind]
  exact kR
theorem qc(S:d6 w n J){Q:Bool→Oj→Prop}(ifs:List Expr):∀{κ:Pl} {O:Oj} {s:Shared},CL J ifs F b Q O→St w A n b κ F O s env→
 wpAny (MW w) A (forIn ifs true fun c r=>if r=true then do let ok ←isTrue c env (eval c env);pure (ForInStep.yield ok)else pure (ForInStep.yield r)) (aG w b κ F O s EB Q) ba s:=by
 induction ifs with
 |nil=>intro κ O s h t;rw[forIn_nil];exact wpAny_pure (aG.here t.rel h rfl)
 |cons e es ih=>
  intro κ O s h t
  rw[forIn_cons,if_pos rfl]
  refine wpAny_bind (wpAny_bind (aG.seq (S.t h t) fun {u _ _ _ _} q g r=>wpAny_pure ?_))
  cases r
  cases u with
  |true=>exact aG.on g (ih q (t.next g))
  |false=>dsimp only;rw[kR];exact wpAny_pure (.mk q g rfl)
end
end
section
variable {scope:Scope} {pos:Pos} {g:Comprehension} {gs:List Comprehension} {use:Option (Value→Sem Unit)} {Q:V→Oj→Prop} {elt target iter t2 i2 tgt:Expr} {ifs:List Expr} {d k:Nat} {obF:List C} {F':List Fr} {P:Value→Shared→Prop}
section
variable {w:World} {A:Around} {n b m:Nat} {κ κ1 κ2:Pl} {F F1 F2:List Fr} {O O1 O2 OF:Oj} {s s1 s2:Shared} {env:Env} {J:WI} {E:Value→Shared→Prop} {p:FP} {FR:List FP} {src:gV} {I D:Addr} {H:List Addr}
noncomputable def lL(w:World)(A:Around)(E:Value→Shared→Prop)(use:Option (Value→Sem Unit))(Q:Value→Shared→Prop)(aK:Value)(C:Addr)(s':Shared):Prop:=
 match use with
 |none=>∃m,s'.heap.Ns C m∧∀h' m',h'.Ns C m'→SameBut C s'.heap h'→Q aK { s' with heap:=h' }
 |some u=>wpAny (MW w) A (u aK) (fun _ s''=>∃m,s''.heap.Ns C m∧∀h' m',h'.Ns C m'→SameBut C s''.heap h'→Q .none { s'' with heap:=h' }) E s'
theorem uG{e:Expr}{pos:Pos}{newAcc first:Sem Value}{cl:List (Str×Addr)}{use:Option (Value→Sem Unit)}
 {Q:Value→Shared→Prop}
 (hcl:clausesOf e=g::gs) (hs:∀x,foldedSetIterable g.iter env x=pure x) (hclos:closureFor scope env=pure cl)
 (hkind:scope.kind=.function) (hnames:∀x∈scope.names,x.2=.local→scope.names.lookup x.1=some .local)
 (h:wpAny (MW w) A first (fun x s₁=>wpAny (MW w) A (pyIter x) (fun it s₂=>wpAny (MW w) A newAcc (fun aK s₃=>
  wpAny (MW w) A (newFunctionEnv scope env.globals cl [] env.qual none .none (some env)) (fun cenv s₄=>
   codeAny (MW w) A (.compStart e 0 it aK { cenv with scope:=relabel scope env }) (fun r s'=>match r with|.ok _=>lL w A E use Q aK cenv.locals s'|.error _=>False) s₄) E s₃) E s₂) E s₁) E s):
 wpAny (MW w) A (comprehension e scope env pos newAcc false first use) Q E s:=by
 unfold comprehension
 refine Eq.symm (hclos)▸Eq.symm (hcl)▸?_
 refine wpAny_bind (wpAny_mono h (fun x s₁ h₁=>wpAny_bind (wpAny_standAt (wpAny_bind (wpAny_of_eq (hs x) (wpAny_bind (wpAny_holding (wpAny_mono h₁ (fun it s₂ h₂=>
  wpAny_standIf (wpAny_bind (wpAny_mono h₂ (fun aK s₃ h₃=>wpAny_bind (wpAny_pure (wpAny_bind (wpAny_mono h₃ (fun cenv s₄ h₄=>?_) fun _ _ h'=>h')))) fun _ _ h'=>h')))
   fun _ _ h'=>h'))))))) fun _ _ h'=>h')
 dsimp only
 have hv:∀x∈(scope.names.filter fun x=>(x.2== .local||x.2== .cell)&&x.1 != (".0":Str)).reverse,x.2=.local→
  Env.kindOf { cenv with scope:=relabel scope env } x.1=some .local:=fun x hx hl=>lookup_relabel_local (hnames x (mem_filter.mp (List.mem_reverse.mp hx)).1 hl)
 have hv':∀x∈(scope.names.filter fun x=>(x.2== .local||x.2== .cell)&&x.1 != (".0":Str)).reverse.drop 1++(scope.names.filter fun x=>(x.2== .local||x.2== .cell)&&x.1 != (".0":Str)).reverse.take 1,
  x.2=.local→Env.kindOf { cenv with scope:=relabel scope env } x.1=some .local:=fun x hx hl=>by
  rcases mem_append.mp hx with h1|h1
  ·exact hv x (List.mem_of_mem_drop h1) hl
  ·exact hv x (List.mem_of_mem_take h1) hl
 refine wpAny_holding (wpAny_bind (wpAny_attempt (wpAny_holding (wpAny_run (codeAny_mono h₄ fun r s' hr=>?_)))))
 cases r with
 |ok f=>
  clear h h₁ h₂ h₃ h₄
  cases use with
  |none=>
   obtain⟨m,hn,hr⟩:=hr
   exact wpAny_bind (wpAny_holding (wpAny_comp_letGo (cenv:={ cenv with scope:=relabel scope env }) hkind _ s' m hv hn fun h' m' hn' hs'=>wpAny_pure (hr h' m' hn' hs')))
  |some u=>
   refine wpAny_bind (wpAny_rule (wpAny_bind (wpAny_holding (wpAny_mono hr (fun _ s'' hr'=>?_) fun _ _ h'=>h'))))
   obtain⟨m,hn,hr'⟩:=hr'
   exact wpAny_bind (wpAny_comp_letGo (cenv:={ cenv with scope:=relabel scope env }) hkind _ s'' m hv' hn fun h' m' hn' hs'=>wpAny_pure (hr' h' m' hn' hs'))
 |error x=>exact hr.elim
noncomputable def wy(elt target iter:Expr)(ifs:List Expr)(self:Code)(it aK:Value)(env:Env):Sem PySem.Fin:=do
 standAt iter.pos
 match ←pyNext it with
 |none=>pure (.done .next)
 |some v=>
  letOwnedTupleGo target it v
  assign target env v
  let mut ok:=true
  for c in ifs do
   if ok then ok ←isTrue c env (eval c env)
  if ok then(do let _ ←call (.builtin "list.append") [aK, ←eval elt env]:Sem Unit)
  again self
theorem p9(it aK:Value):
 compTurn (.ListComp elt [⟨target,iter,ifs,0⟩] scope pos) 0 it aK env=wy elt target iter ifs (.compLoop (.ListComp elt [⟨target,iter,ifs,0⟩] scope pos) 0 it aK env) it aK env:=by
 unfold compTurn
 rfl
theorem tF(it aK:Value):
 compTurn (.ListComp elt [g,⟨target,iter,ifs,0⟩] scope pos) 1 it aK env=wy elt target iter ifs (.compLoop (.ListComp elt [g,⟨target,iter,ifs,0⟩] scope pos) 1 it aK env) it aK env:=by
 unfold compTurn
 rfl
theorem p8(it aK:Value):
 compTurn (.ListComp elt [⟨target,iter,[],0⟩,⟨t2,i2,ifs,0⟩] scope pos) 0 it aK env=(do
  standAt iter.pos
  match ←pyNext it with
  |none=>pure (.done .next)
  |some v=>
   letOwnedTupleGo target it v
   assign target env v
   let x ←eval i2 env
   standAt i2.pos
   let x ←foldedSetIterable i2 env x
   let _ ←runOwn (.compStart (.ListComp elt [⟨target,iter,[],0⟩,⟨t2,i2,ifs,0⟩] scope pos) 1 (←holding [x] (pyIter x)) aK env) env
   again (.compLoop (.ListComp elt [⟨target,iter,[],0⟩,⟨t2,i2,ifs,0⟩] scope pos) 0 it aK env)):=by
 unfold compTurn
 rfl
theorem j8.self{h:Heap}{Q:Value→Shared→Prop}(x:j8 w s.heap κ src I H)(hh:A.handled=none)(h:Q (.ref I) s):wpAny (MW w) A (pyIter (.ref I)) Q E s:=by
 cases x with
 |walk W cls st len fps aA=>exact(W A hh).self _ _ _ _ st h
 |live it at_=>exact wpAny_pyIter_listiter it h
 |keys it at_=>exact wpAny_pyIter_keyiter it h
 |enum hei he hit hl o3 aA=>exact wpAny_pyIter_enum he h
theorem iY{aK:Value}{R:Result→Shared→Prop}(hd:gs[d]? =some g)(hg:g.is_async=0)
 (sr:j8 w s.heap κ src I H) (hh:A.handled=none) (h:codeAny (MW w) A (.compLoop (.ListComp elt gs scope pos) d (.ref I) aK env) R s):
 codeAny (MW w) A (.compStart (.ListComp elt gs scope pos) d (.ref I) aK env) R s:=by
 refine codeAny_of_tree ?_
 show wpAny _ _ ((compStart (.ListComp elt gs scope pos) d (.ref I) aK env).onRaise (fun x=>do noteFrame x env;standAt theWindowsPlace)) _ _ s
 refine wpAny_notedAt ?_
 unfold compStart
 rw[show(clausesOf (.ListComp elt gs scope pos))[d]? =some g from hd]
 show wpAny _ _ (if(g.is_async != 0)=true then _ else _) _ _ s
 rw[hg,if_neg (by decide)]
 refine wpAny_bind (wpAny_askSetting (wpAny_ite ?_))
 split
 ·first
   |exact wpAny_bind (wpAny_pure (wpAny_pure (And.intro rfl h)))
   |exact wpAny_pure (And.intro rfl h)
 ·refine wpAny_bind (wpAny_rule ?_)
  show wpAny _ _ (do
   standAt g.iter.pos
   again (.compLoop (.ListComp elt gs scope pos) d (←pyIter (.ref I)) aK env)) _ _ s
  exact wpAny_bind (wpAny_standAt (wpAny_bind (sr.self (h:=s.heap) hh (wpAny_pure (And.intro rfl h)))))
inductive CI (w:World) (b:Nat) (FR:List FP) (κ:Pl) (O:Oj) (s:Shared) (I:Addr) (H:List Addr) (m:Nat) (obF:List C) (OF:Oj) (F':List Fr) (P:gV→List Fr→Oj→Prop):Shared→Prop
 |mk {src:gV} {f:Fr} {κ1:Pl} {O1:Oj} {s1:Shared} (h:P src (f::F') O1) (T:db w b FR κ O s src I H (f::F') O1 κ1 s1) (mF:bv m OF O1) (hm:m≤O1.length) (pF:obF <+:κ1.ob):CI w b FR κ O s I H m obF OF F' P s1
inductive CE (w:World) (b:Nat) (FR:List FP) (κ:Pl) (O:Oj) (s:Shared) (m:Nat) (obF:List C) (OF:Oj) (F':List Fr) (Q:List Fr→Oj→Prop):Shared→Prop
 |mk {f:Fr} {κ2:Pl} {O2:Oj} {s2:Shared} (q:Q (f::F') O2) (g:xa w (HW w) b FR κ O s κ2 (f::F') O2 s2) (mF:bv m OF O2) (pF:obF <+:κ2.ob):CE w b FR κ O s m obF OF F' Q s2
theorem oz(S:d6 w n J)(ok:Ok A n)(R0:aH w κ F O s.heap)(ER:nX w FR env)(stk:∀p,FR=[p]→env.frame=some p.L∧∃l,A.frames=some (env::l)∧(p.up=1→l=[])){Q:List Fr→Oj→Prop}(hD:obF[m]? =some (.obj D))(hb:b≤m)(ht:pA I H tgt)
 (hT:compTurn (.ListComp elt gs scope pos) d (.ref I) (.ref D) env=wy elt tgt iter ifs (.compLoop (.ListComp elt gs scope pos) d (.ref I) (.ref D) env) (.ref I) (.ref D) env)
 (h:CI w b FR κ O s I H m obF OF F' (iX J tgt ifs elt m Q k) s1):
 codeAny (MW w) A (.compLoop (.ListComp elt gs scope pos) d (.ref I) (.ref D) env) (fun r s'=>match r with|.ok f=>CE w b FR κ O s m obF OF F' Q s'|.error _=>False) s1:=by
 refine codeAny_loop rfl (fun k=>CI w b FR κ O s I H m obF OF F' (iX J tgt ifs elt m Q k)) (fun k s1 h=>?_) k h
 obtain⟨h,T,mF,hm,pF⟩:=h
 cases k with
 |zero=>exact False.elim h
 |succ k=>
  show wpAny _ A ((compTurn (.ListComp elt gs scope pos) d (.ref I) (.ref D) env).onRaise (fun x=>do noteFrame x env;theTreesLotGoes x)) _ _ _
  refine wpAny_noted ?_
  refine Eq.symm (hT)▸?_
  unfold wy
  refine wpAny_bind (wpAny_standAt (wpAny_bind (T.step R0 ok.hd ht h (fun q e0 g=>wpAny_pure (.mk q g mF (e0▸pF))) fun q hs=>wpAny_bind (wpAny_mono hs (fun _ s3 T3=>?_) fun _ _ e=>e))))
  refine hG fun _ kk=>?_
  obtain⟨T3,rv⟩:=T3
  obtain⟨F2,h3,q⟩:=q.out
  obtain⟨f2,rfl⟩:=kI h3
  refine kk ?_
  have t3:St w A n m _ _ _ s3 env:=⟨ok,T3.go.rel,T3.go.frs.symm▸ER,hm,fun p h=>stk p (T3.go.frs.symm.trans h)⟩
  refine wpAny_bind (d8 t3 h3 rv fun s4 g4=>wpAny_bind (aG.seq (qc S ifs q (t3.next g4)) fun {u κ5 O5 cb s5} q5 g5 r5=>?_))
  cases r5
  have t5:=(t3.next g4).next g5
  have T5:=(T3.on (g4.low hb)).on (g5.low hb)
  have m5:=mF.trans (g4.trans g5).mono
  have p5:=pF.trans (g4.trans g5).ext.pre
  cases u with
  |false=>exact wpAny_pure ⟨rfl,k,lt_succ_self k,.mk q5 T5 m5 t5.le p5⟩
  |true=>
   refine wpAny_bind (wpAny_bind (aG.seq (S.e q5 t5) fun {v κ6 O6 ce s6} q6 g6 r6=>wpAny_bind ?_))
   obtain⟨O7,h7,q7⟩:=q6.out
   have p6:=p5.trans g6.ext.pre
   refine qL g6.rel h7 (cR p6 hD) r6 fun s7 g7=>wpAny_pure (wpAny_pure ⟨rfl,k,lt_succ_self k,.mk q7 ((T5.on (g6.low hb)).on (g7.low hb)) (m5.trans (g6.trans g7).mono) ((t5.next g6).next g7).le (p6.trans g7.ext.pre)⟩)
theorem vc(B:bI w)(S:d6 w n J)(ok:Ok A n)(R0:aH w κ F O s.heap)(ER:nX w FR env)(stk:∀p,FR=[p]→env.frame=some p.L∧∃l,A.frames=some (env::l)∧(p.up=1→l=[])){Q:List Fr→Oj→Prop}(hD:obF[m]? =some (.obj D))(hb:b≤m)(ht:pA I H tgt)
 (h:CI w b FR κ O s I H m obF OF F' (jz GG J tgt t2 i2 elt m Q k) s1):
 codeAny (MW w) A (.compLoop (.ListComp elt [⟨tgt,iter,[],0⟩,⟨t2,i2,[],0⟩] scope pos) 0 (.ref I) (.ref D) env) (fun r s'=>match r with|.ok f=>CE w b FR κ O s m obF OF F' Q s'|.error _=>False) s1:=by
 refine codeAny_loop rfl (fun k=>CI w b FR κ O s I H m obF OF F' (jz GG J tgt t2 i2 elt m Q k)) (fun k s1 h=>?_) k h
 obtain⟨h,T,mF,hm,pF⟩:=h
 cases k with
 |zero=>exact False.elim h
 |succ k=>
  show wpAny _ A ((compTurn (.ListComp elt [⟨tgt,iter,[],0⟩,⟨t2,i2,[],0⟩] scope pos) 0 (.ref I) (.ref D) env).onRaise (fun x=>do noteFrame x env;theTreesLotGoes x)) _ _ _
  refine wpAny_noted ?_
  rw[p8]
  refine wpAny_bind (wpAny_standAt (wpAny_bind (T.step R0 ok.hd ht h (fun q e0 g=>wpAny_pure (.mk q g mF (e0▸pF))) fun q hs=>wpAny_bind (wpAny_mono hs (fun _ s3 T3=>?_) fun _ _ e=>e))))
  refine hG fun _ kk=>?_
  obtain⟨T3,rv⟩:=T3
  obtain⟨F2,h3,q⟩:=q.out
  obtain⟨f2,rfl⟩:=kI h3
  refine kk ?_
  have t3:St w A n m _ _ _ s3 env:=⟨ok,T3.go.rel,T3.go.frs.symm▸ER,hm,fun p h=>stk p (T3.go.frs.symm.trans h)⟩
  refine wpAny_bind (d8 t3 h3 rv fun s4 g4=>?_)
  have t4:=t3.next g4
  have m4:=mF.trans g4.mono
  have p4:=pF.trans g4.ext.pre
  obtain⟨hfs,hw⟩:=ij (E:=notedBy (MW w) A env fun _ _=>False) (P:=fun it s5=>wpAny (MW w) A (runOwn (.compStart (.ListComp elt [⟨tgt,iter,[],0⟩,⟨t2,i2,[],0⟩] scope pos) 1 it (.ref D) env) env) (fun _ s6=>∃k',k'<k+1∧CI w b FR κ O s I H m obF OF F' (jz GG J tgt t2 i2 elt m Q k') s6) (notedBy (MW w) A env fun _ _=>False) s5) B S q t4 (fun {src I2 H2 κ5 O5 s5} q T5 ht2=>by
   refine wpAny_runOwn ?_ nofun
   refine iY (g:=⟨t2,i2,[],0⟩) rfl rfl T5.src ok.hd (codeAny_mono (oz S ok t4.rel t4.env t4.stk hD (le_refl _) ht2 (tF _ _) (.mk q.is T5 (m4.trans T5.go.mono) (le_trans t4.le (Go.le t4.rel T5.go)) (p4.trans T5.go.ext.pre))) fun r s' hr=>?_)
   cases r with
   |error e=>exact hr.elim
   |ok f=>
    obtain⟨q6,g6,m6,p6⟩:=hr
    exact⟨k,lt_succ_self k,.mk q6 ((T3.on (g4.low hb)).on (g6.low hb)) m6 (t4.next g6).le p6⟩)
  refine wpAny_bind (wpAny_mono hw (fun x s5 h5=>?_) fun _ _ e=>e)
  refine wpAny_bind (wpAny_standAt ?_)
  refine wpAny_bind (wpAny_of_eq (hfs x) ?_)
  refine wpAny_bind (wpAny_holding (wpAny_mono h5 (fun it s6 h6=>?_) fun _ _ e=>e))
  exact wpAny_bind (wpAny_mono h6 (fun _ s7 h7=>wpAny_pure ⟨rfl,h7⟩) fun _ _ e=>e)
theorem cS.pop{h0 h:Heap}{f:Fr}{r:List FP}(R:cS w h0 κ (f::F) O h)(e:κ.fr=p::r):cS w h0 ⟨r,κ.ob,p.addrs++κ.hid⟩ F O h∧bj h κ h ⟨r,κ.ob,p.addrs++κ.hid⟩∧(∀a,a∈κ.mt→a∈(Pl.mt ⟨r,κ.ob,p.addrs++κ.hid⟩)):=by
 have pm:(r.flatMap FP.addrs++((p.addrs++κ.hid)++κ.ob.map C.addr)).Perm κ.mt:=by
  rw[Pl.mt,e,flatMap_cons,append_assoc p.addrs κ.hid,append_assoc p.addrs (r.flatMap _)]
  exact List.perm_append_comm_assoc _ _ _
 have x:bj h κ h ⟨r,κ.ob,p.addrs++κ.hid⟩:=⟨prefix_rfl,fun _ _ e _=>e,fun b hb hn=>absurd (pm.mem_iff.mp hb) hn⟩
 have fl:=R.flen
 rw[e]at fl
 exact⟨{ R with
  flen:=Nat.succ.inj fl
  off:=fun a ha=>R.off a (pm.mem_iff.mp ha)
  nd:=pm.nodup_iff.mpr R.nd
  ex:=fun a ha=>R.ex a (pm.mem_iff.mp ha)
  objs:=fun i o c e e'=>eL x (fun _ e=>e) (R.objs i o c e e')
  frs:=fun i f q e1 e2=>cD x (fun r1 z=>(List.suffix_cons_iff.mp (e▸z)).elim (fun z=>nomatch pz (w9 R.nd) (show κ.fr[0]? =some p by rw[e];rfl) (show κ.fr[i+1]? =some q by rw[e];exact e2) (mem_cons_self ..) (by rw[(List.cons.inj z).1];exact mem_cons_self ..)) id) (fun _ _ _ e=>e) (R.frs (i+1) f q e1 (e▸e2)) },x,fun a h=>pm.mem_iff.mpr h⟩
set_option tactic.hygienic true in
theorem yl(ok:Ok A n){cenv:Env}{κ2:Pl}(T:db w b κ.fr κ O s src I H F O1 κ1 s1)(g2:dp w b κ1 O1 s1 κ2 F (O1++[.list []]) s2)
 (hD:κ2.ob[O1.length]? =some (.obj D)) (hb:b≤O1.length)
 (lp:∀{κ3 s3},db w b (cY s2.heap scope.names false 0::κ.fr) κ O s src I H (⟨scope.names,pW scope.names [],false,0,none⟩::F) (O1++[.list []]) κ3 s3→κ3.ob=κ2.ob→codeAny (MW w) A (.compLoop (.ListComp elt (⟨tgt,iter,ifs,0⟩::gs) scope pos) 0 (.ref I) (.ref D) cenv) (fun r s'=>match r with|.ok _=>CE w b (cY s2.heap scope.names false 0::κ.fr) κ O s O1.length κ2.ob (O1++[.list []]) F (fun _=>kN O1.length Q) s'|.error _=>False) s3)
 {P:Shared→Prop} (fin:∀{v κ' O' s'},Q v O'→dp w b κ O s κ' F O' s'→RV s'.heap κ' v (.ref D)→s2.heap.objs.size∈κ'.hid→s.heap.get? s2.heap.objs.size=none→(∃m,s'.heap.Ns s2.heap.objs.size m)→P s'):
 codeAny (MW w) A (.compStart (.ListComp elt (⟨tgt,iter,ifs,0⟩::gs) scope pos) 0 (.ref I) (.ref D) cenv) (fun r s'=>match r with|.ok _=>P s'|.error _=>False) { s2 with heap:=iF s2.heap (.type "dict") scope.names }:=by
 have T2:=T.on g2
 have kk:=iE s2.heap (.type "dict") scope.names
 obtain⟨R3,x3⟩:=T2.go.rel.lay scope.names (.type "dict") false 0 (κ':=⟨cY s2.heap scope.names false 0::κ2.fr,κ2.ob,κ2.hid⟩) (F2:=F) (P2:=κ2.fr) rfl rfl (append_assoc ..) T2.go.rel.flen (fun q _ r z=>z.trans (List.suffix_cons ..)) fun i f q e e'=>T2.go.rel.frs i f q e e'
 have T3:db w b (cY s2.heap scope.names false 0::κ.fr) κ O s src I H (⟨scope.names,pW scope.names [],false,0,none⟩::F) (O1++[.list []]) ⟨cY s2.heap scope.names false 0::κ2.fr,κ2.ob,κ2.hid⟩ { s2 with heap:=iF s2.heap (.type "dict") scope.names }:=
  ⟨⟨R3.relook (f':=⟨scope.names,pW scope.names [],false,0,none⟩) rfl rfl rfl rfl fun x=>(lB _ x _ _ _ []).symm,T2.go.ext.trans x3,congrArg (_:: ·) T2.go.frs,T2.go.rest,T2.go.mono,fun a h=>⟨(T2.go.hid a h).1,fun o e=>kk a o ((T2.go.hid a h).2 o e)⟩⟩,T2.src.go x3 (fun a h=>⟨h,fun o e=>kk a o e⟩) T2.hid,T2.new,T2.hid⟩
 refine iY (g:=⟨tgt,iter,ifs,0⟩) rfl rfl T3.src ok.hd (codeAny_mono (lp T3 rfl) fun r s' hr=>?_)
 cases r with
 |error e=>exact hr.elim
 |ok f=>
  obtain⟨q,g,mF,pF⟩:=hr
  rename_i fe κe Oe
  refine hG fun _ kk=>?_
  obtain⟨l,hl,q⟩:=q.out
  obtain⟨R4,x4,mt4⟩:=g.rel.pop g.frs
  have hDe:=cR pF hD
  have nC:s.heap.get? s2.heap.objs.size=none:=Go.old T2.go (bY (le_refl _))
  obtain⟨m,hm,_⟩:=(g.rel.frs 0 fe (cY s2.heap scope.names false 0) rfl (by rw[g.frs];rfl)).loc
  obtain⟨a,aA,ea, -,hp,rs⟩:=g.rel.list hl ⟨D,rfl,hDe⟩
  refine kk ?_
  injection ea with h9;subst h9
  cases hpu:d0 l with
  |false=>
   rw[hpu]at q
   exact fin q ⟨R4,g.ext.trans x4,rfl,g.rest,g.mono,fun a h=>⟨mem_append_right _ (g.hid a h).1,(g.hid a h).2⟩⟩ ⟨_,rfl,hDe⟩ (mem_cons_self ..) nC ⟨m,hm⟩
  |true=>
   rw[hpu]at q
   have p1:=g2.ext.pre.trans pF
   have C5:qU ⟨κ.fr,κ1.ob,(cY s2.heap scope.names false 0).addrs++κe.hid⟩ ⟨κ.fr,κe.ob,(cY s2.heap scope.names false 0).addrs++κe.hid⟩:=qU.of R4.nd p1 fun a h=>h
   have len:=T.go.rel.len
   have R5:=R4.cutTo C5 (R4.nd.sublist ((Sublist.refl _).append ((Sublist.refl _).append (p1.sublist.map _)))) (fun i o hi e=>by
    have hi':i<O1.length:=len▸hi
    obtain⟨c,_,r⟩:=T.go.rel.get (getElem?_eq_getElem hi')
    obtain⟨o',e',k⟩:=mF i _ hi' (by rw[getElem?_append_left hi'];exact getElem?_eq_getElem hi')
    obtain rfl:=sI (e.symm.trans e')
    have u:=i9 r
    exact k _ u) T.go.rel.tab R4.flen fun i f p e e'=>nV C5 (κ0:=κ1) rfl (fun _ z=>z) (T.go.rel.frs i f p e (T.go.frs.symm▸e')) (R4.frs i f p e e')
   rw[show(Pl.ob ⟨κ.fr,κ1.ob,(cY s2.heap scope.names false 0).addrs++κe.hid⟩).length=O1.length from len]at R5
   refine fin q ⟨R5,⟨T.go.ext.pre,g.ext.keep,fun b hb hn=>(g.ext.trans x4).fresh b (C5.mt b hb) hn⟩,rfl,g.rest,fun i o hi e=>?_,fun a h=>⟨mem_append_right _ (g.hid a h).1,(g.hid a h).2⟩⟩ ⟨_,aA,rfl,hp,C5.off _ _ (le_of_eq len) hDe,gK C5 (d9 hpu) (iT x4 rs)⟩ (mem_cons_self ..) nC ⟨m,hm⟩
   obtain⟨o',e',k⟩:=g.mono i o hi e
   exact⟨o',by rw[List.getElem?_take,if_pos (lt_of_lt_of_le hi hb)];exact e',k⟩
theorem sO(B:bI w)(S:d6 w n J){q0:gV→Oj→Prop}(hsc:dh scope=true)(hfr:mu F scope.names=true)(h:nY GG J tgt iter F b q0 O)(t:St w A n b κ F O s env)
 (lp:∀{src I H D κ1 O1 s1 s2 cenv κ3 s3 FR},q0 src O1→κ3.ob[O1.length]? =some (.obj D)→b≤O1.length→pA I H tgt→nX w FR cenv→(∀p,FR=[p]→cenv.frame=some p.L∧∃l,A.frames=some (cenv::l)∧(p.up=1→l=[]))→FR=cY s2 scope.names false 0::κ.fr→db w b κ.fr κ O s src I H F O1 κ1 s1→db w b FR κ O s src I H (⟨scope.names,pW scope.names [],false,0,none⟩::F) (O1++[.list []]) κ3 s3→
  codeAny (MW w) A (.compLoop (.ListComp elt (⟨tgt,iter,ifs,0⟩::gs) scope pos) 0 (.ref I) (.ref D) cenv) (fun r s'=>match r with|.ok _=>CE w b FR κ O s O1.length κ3.ob (O1++[.list []]) F (fun _=>kN O1.length Q) s'|.error _=>False) s3)
 (fin:∀{v aK C κ' O' s'},Q v O'→dp w b κ O s κ' F O' s'→RV s'.heap κ' v aK→C∈κ'.hid→s.heap.get? C=none→(∃m,s'.heap.Ns C m)→lL w A E use P aK C s'):
 wpAny (MW w) A (comprehension (.ListComp elt (⟨tgt,iter,ifs,0⟩::gs) scope pos) scope env (firstIterPos (⟨tgt,iter,ifs,0⟩::gs) pos) (newList []) (firstAsync (⟨tgt,iter,ifs,0⟩::gs)) (firstIter (⟨tgt,iter,ifs,0⟩::gs) env) use) P E s:=by
 have hfc:=mq t.rel t.env hfr
 obtain⟨hfs,hw⟩:=ij (E:=E) (P:=fun it s₂=>wpAny (MW w) A (newList []) (fun aK s₃=>
  wpAny (MW w) A (newFunctionEnv scope env.globals (dY env scope.names []) [] env.qual none .none (some env)) (fun cenv s₄=>
   codeAny (MW w) A (.compStart (.ListComp elt (⟨tgt,iter,ifs,0⟩::gs) scope pos) 0 it aK { cenv with scope:=relabel scope env }) (fun r s'=>match r with|.ok _=>lL w A E use P aK cenv.locals s'|.error _=>False) s₄) E s₃) E s₂) B S h t (fun {src I H κ1 O1 s1} q T ht=>by
  refine wpAny_newList ?_ (by show 0≤16777216;exact le_trans Nat.le.refl (by decide))
  refine hG fun _ kk=>?_
  obtain⟨q2,g2,r2⟩:=ro (b:=b) (Q:=fun v O2=>v=.ref O1.length∧O2=O1++[.list []]) (vs:=[]) (cvs:=[]) T.go.rel ⟨rfl,rfl⟩ lQ
  obtain⟨rfl,rfl⟩:=q2
  obtain⟨D,e,hD⟩:=r2
  refine kk ?_
  injection e with h9;subst h9
  refine gW fun cenv hcenv=>?_
  rw[forIn_nil]
  refine wpAny_pure ?_
  have hb:=le_trans t.le (Go.le t.rel T.go)
  refine yl (cenv:={ cenv with scope:=relabel scope env }) t.ok T g2 hD hb (fun T3 e3=>?_) fun q g r hC nC m=>by
   refine Eq.symm (show cenv.locals=(gg s1 { cls:=.type "list",data:=.seq ([]:List Value).toArray }).heap.objs.size by rw[hcenv];rfl)▸?_
   exact fin q g r hC nC m
  rw[←e3]at hD ⊢
  exact lp q hD hb ht (BO t.env hsc hfc rfl (by rw[hcenv];rfl) (by rw[hcenv];rfl) (by rw[hcenv];rfl) (by rw[hcenv];rfl) (by rw[hcenv];rfl)) (fun p h=>(by obtain⟨_,_,hp,_⟩:=t.env.top;exact nomatch hp.symm.trans (List.cons.inj h).2)) rfl T T3)
 exact uG (g:=⟨tgt,iter,ifs,0⟩) (gs:=gs) rfl hfs (fL fun x hx hk=>(by obtain⟨c,hc,_⟩:=hfc x hx hk;exact⟨c,hc⟩)) (f9 hsc).1 (fun x hx hl=>by
  rcases fH hsc x hx with q|q|⟨_,q⟩
  ·rw[hl]at q;cases q
  ·rw[hl]at q;cases q
  ·rw[hl]at q;exact q) hw
theorem mW(B:bI w)(S:d6 w n J)(h:HZ GG J elt gs scope F b Q O)(t:St w A n b κ F O s env)
 (fin:∀{v aK C κ' O' s'},Q v O'→dp w b κ O s κ' F O' s'→RV s'.heap κ' v aK→C∈κ'.hid→s.heap.get? C=none→(∃m,s'.heap.Ns C m)→lL w A E use P aK C s'):
 wpAny (MW w) A (comprehension (.ListComp elt gs scope pos) scope env (firstIterPos gs pos) (newList []) (firstAsync gs) (firstIter gs env) use) P E s:=by
 cases gs with
 |nil=>exact h.elim
 |cons g gs=>
  obtain⟨tgt,iter,ifs,a⟩:=g
  obtain⟨hc,h⟩:=h.out
  obtain⟨hc,hfr⟩:=aB hc
  obtain⟨ha,hsc⟩:=aB hc
  obtain rfl:=show a=0 from beq_iff_eq.mp ha
  cases gs with
  |nil=>exact sO B S hsc hfr h t (fun q hD hb ht ER sk e T T3=>oz S t.ok t.rel ER sk hD hb ht (p9 _ _) (.mk q.is T3 (bv.refl _ _) (by rw[length_append];exact le_add_right _ _) prefix_rfl)) fin
  |cons g2 gs=>
   cases gs with
   |cons=>exact h.elim
   |nil=>
    obtain⟨t2,i2,ifs2,a2⟩:=g2
    obtain⟨hc,h⟩:=h.out
    obtain⟨hc,h2⟩:=aB hc
    obtain⟨ha,h1⟩:=aB hc
    clear hc
    obtain rfl:=show a2=0 from beq_iff_eq.mp ha
    cases isEmpty_iff.mp h1
    cases isEmpty_iff.mp h2
    exact sO B S hsc hfr h t (fun q hD hb ht ER sk e T T3=>vc B S t.ok t.rel ER sk hD hb ht (.mk q.is T3 (bv.refl _ _) (by rw[length_append];exact le_add_right _ _) prefix_rfl)) fin
end
end
section
variable {pos:Pos} {cv:Value} {args:Arguments} {body:Expr} {scope:Scope} {cl:List (Str×Addr)} {P:Value→Shared→Prop}
theorem nv{a b:Int}{c:Value}(l:List Value)(h:TriplesOk l)(hn:codeAmong pos (l++[rawInt a,rawInt b,c])=some cv):codeAmong pos l=some cv∨cv=c:=by
 fun_induction TriplesOk l with
 |case1=>
  right
  simp only[nil_append,codeAmong,rawInt]at hn
  split at hn
  ·obtain rfl:=sI hn;rfl
  ·exact nN hn
 |case2 a' t b' u x rest ih=>
  simp only[cons_append,codeAmong]at hn ⊢
  split at hn
  ·rename_i hc;rw[if_pos hc];exact .inl hn
  ·rename_i hc;rw[if_neg hc];exact ih h hn
 |case3 l h1 h2=>exact h.elim
theorem oM{names:af}(h:dw names=true){x:Str×NameKind}(hx:x∈names):x.2≠ .free:=fun e=>by
 have:(names.any fun x=>x.2== .free)=true:=List.any_eq_true.mpr ⟨x,hx,beq_iff_eq.mpr e⟩
 rw[dw,this]at h
 exact aj h
theorem zV{O:Oj}{j:Nat}{o:aT}(h:O[j]? =some o):O.set j o=O:=by
 apply List.ext_getElem?
 intro i
 by_cases hij:j=i
 ·subst hij;rw[getElem?_set_self (List.getElem?_eq_some_iff.mp h).1,h]
 ·rw[getElem?_set_ne hij]
section
variable {w:World} {A:Around} {n b m:Nat} {κ κ1 κ2:Pl} {F F1 F2:List Fr} {O O1 O2 OF:Oj} {s s1 s2:Shared} {env:Env} {J:WI} {E:Value→Shared→Prop}
theorem uy(R:aH w κ F O s.heap)(h:iG F=true):sS κ.fr=true:=all_eq_true.mpr fun p hp=>by
 obtain⟨i,hi⟩:=List.mem_iff_getElem?.mp hp
 have hl:i<F.length:=R.flen▸(List.getElem?_eq_some_iff.mp hi).1
 have e:=getElem?_eq_getElem hl
 refine((R.frs i _ p e hi).lm)▸?_
 exact all_eq_true.mp h _ (mem_of_getElem? e)
theorem cS.tabAt{k:Nat}{p:Addr}(R:aH w κ F O s.heap)(hk:κ.ob[k]? =some (.tab p)):O[k]? =some .tab∧gM w s.heap κ .tab (.tab p):=by
 have hlt:k<O.length:=R.len▸(List.getElem?_eq_some_iff.mp hk).1
 have e:=getElem?_eq_getElem hlt
 have r:=R.objs k _ _ e hk
 cases ho:O[k]with
 |tab=>rw[ho]at r e;exact⟨e,r⟩
 |_=>rw[ho]at r;exact r.elim
theorem sQ{h':Heap}{tk:Tok}{cv ctv pm:Value}{q:Str}{nm:Str}(k:∀{a s2 o fd},dp w b κ O s κ F O s2→a∉κ.mt→s2.heap.get? a=some o→tz s2.heap κ args body scope cl o fd→P (.ref a) s2)(g:dp w b κ O s κ F O { s with heap:=h' })(cr:kc h' κ cv):
 P (.ref h'.objs.size) { s with heap:=h'.push { cls:=.type "function",data:=.func (kla_fn nm q args body scope cl pm cv ctv) },toks:=tk }:=
 have g2:dp w b κ O { s with heap:=h' } κ F O { s with heap:=h'.push { cls:=.type "function",data:=.func (kla_fn nm q args body scope cl pm cv ctv) },toks:=tk }:=Go.grow g.rel (bO _ _) ⟨rfl,rfl,rfl⟩
 k (g.trans g2) g.rel.size_off (get?_push_size _ rfl) ⟨rfl,rfl,rfl,rfl,rfl,rfl,rfl,rfl,rfl,be g2.ext cr,rfl⟩
theorem sR(B:bI w)(hcl:closureFor scope env=pure cl)(hc:pX args scope=true)(hlf:iG F=true)(t:St w A n b κ F O s env)
 (k:∀{a s2 o fd},dp w b κ O s κ F O s2→a∉κ.mt→s2.heap.get? a=some o→tz s2.heap κ args body scope cl o fd→P (.ref a) s2):wpAny (MW w) A (eval (.Lambda args body scope pos) env) P ba s:=by
 obtain⟨c,p,hcd,hcd',hp,hpn⟩:=t.env.code (uy t.rel hlf)
 obtain⟨kk,hk⟩:=t.rel.tab p hp hpn
 obtain⟨hσ,ps,hP,htr,hcs⟩:=t.rel.tabAt hk
 have hdef:defaultsOf args env=([],[]):=by
  obtain⟨hc,_⟩:=aB hc
  obtain⟨hc,_⟩:=aB hc
  obtain⟨hc,_⟩:=aB hc
  obtain⟨hc,_⟩:=aB hc
  obtain⟨hc,_⟩:=aB hc
  obtain⟨h1,h2⟩:=aB hc
  clear k right_1 right_2 right_3 hc right_4
  obtain⟨a1,a2,a3,a4,a5,a6,a7⟩:=args
  cases isEmpty_iff.mp h1
  clear h1
  cases isEmpty_iff.mp h2
  rfl
 refine hG fun _ kk=>?_
 obtain⟨mg,hmg,hbm⟩:=B.bmain
 have hgs:=hmg.keeps t.rel.base
 obtain⟨bm,ob,b1,b2,b3,b4,b5,b6⟩:=hbm p hpn
 refine kk ?_
 have hbs:s.heap.BuiltinsAt mg p:=⟨bm,ob,b1,b2,b3,b4,t.rel.base _ _ b5,b6⟩
 have hgp:mainGlobals≠p:=fun q=>by
  obtain⟨o,_,_,ho,_⟩:=hmg
  rw[q,hpn]at ho;exact nN ho
 refine kla_eval hdef ?_
 cases hca:codeAmong pos ps.toList with
 |some cv=>
  refine kla_makeFunctionHit (mg:=mg) hcl t.env.glob hgs hcd (hcd'.keeps t.rel.base) hP htr hca hbs fun ctv h' tk hk' hsz=>?_
  have g:dp w b κ O s κ F O { s with heap:=h' }:=Go.grow t.rel hk' ⟨rfl,rfl,rfl⟩
  exact sQ k g (be g.ext (hcs _ _ hca))
 |none=>
  refine kla_makeFunction (mg:=mg) hcl t.env.glob hgs hcd (hcd'.keeps t.rel.base) hP htr hca hgp hbs fun c' ctv h' tk hx hge hlt hrec htb=>?_
  refine hG fun _ kk=>?_
  obtain⟨c2,oc,vs,t',e2,hoc,hd,hv⟩:=hrec
  refine kk ?_
  injection e2 with h9;subst h9
  have crn:kc h' κ (.ref c'):=⟨c',oc,vs,_,t',rfl,fun z=>(by obtain⟨o,ho⟩:=t.rel.ex _ z;exact absurd (lt_size ho) (Nat.not_lt.mpr hge)),hoc,hd,hv⟩
  obtain⟨R',x',hh⟩:=t.rel.setO (o':=.tab) hσ hk (fun b ob hn e=>hx b ob hn e) ⟨_,htb⟩ fun x=>⟨_,htb,by
   rw[toList_append];exact TriplesOk_snoc _ _ _ _ htr,fun pos' cv hcv=>by
   rw[toList_append]at hcv
   exact(nv ps.toList htr hcv).elim (fun q=>be x (hcs _ _ q)) fun e=>e▸crn⟩
  rw[zV hσ]at R'
  exact sQ k ⟨R',x',rfl,⟨rfl,rfl,rfl⟩,bv.refl _ _,hh⟩ crn
theorem yO(B:bI w){Q:V→Oj→Prop}(h:Gd (EV args scope&&iG F) (Q (.lam args body scope) O))(t:St w A n b κ F O s env):
 wpAny (MW w) A (eval (.Lambda args body scope pos) env) (aG w b κ F O s RV Q) ba s:=by
 obtain⟨hc,hq⟩:=h.out
 obtain⟨hc,hlf⟩:=aB hc
 obtain⟨hc,hnf⟩:=aB hc
 exact sR B (by rw[fL fun x hx hk=>absurd hk (oM hnf hx),tG _ hnf]) hc hlf t fun g ha ho l=>.mk hq g ⟨_,_,_,rfl,ha,ho,l⟩
end
end
section
variable {f:Fr} {rF:List Fr} {c:gN} {h:Heap} {scope:Scope} {Q:V→Oj→Prop} {x:Str} {a:List V} {ca:List Value}
noncomputable abbrev Pl.push(κ:Pl)(p:FP):Pl:=⟨p::κ.fr,κ.ob,κ.hid⟩
section
variable {w:World} {A:Around} {n b:Nat} {κ κ2:Pl} {F F2:List Fr} {O O2:Oj} {s s1 s2:Shared} {env:Env} {J:WI} {E:Value→Shared→Prop} {p:FP}
inductive LQ (h:Heap) (κ:Pl) (f:Fr) (c:gN):Prop
 |mk (p:FP) (r:List FP) (a:Addr) (o:Obj) (fd:FuncData) (cl:List (Str×Addr)) (k:κ.fr=p::r) (g:f.get c.name=some (.opq a)) (l:f.names.lookup c.name=some .local) (n:a∉κ.mt) (e:h.get? a=some o) (i:tz h κ c.args c.body c.scope cl o fd)
  (x:∀x,(x,NameKind.free)∈c.scope.names→∃b,cl.lookup x=some b∧cW κ.fr c.up x=some b)
theorem qA(R:aH w κ (f::rF) O h)(hc:f.clo=some c):LQ h κ f c:=by
 cases hf:κ.fr with
 |nil=>exact nomatch (hf▸R.flen)
 |cons p r=>
  have h0:κ.fr[0]? =some p:=by rw[hf];rfl
  obtain⟨a,r',o,fd,cl,h1,h2,h3,h4,h5,h6,h7⟩:=(R.frs 0 f p rfl h0).clo c hc
  have e:r'=r:=by
   rcases List.suffix_cons_iff.mp (hf▸h3)with z|z
   ·exact(List.cons.inj z).2
   ·obtain⟨j,hj⟩:=List.mem_iff_getElem?.mp (z.subset (mem_cons_self ..))
    exact nomatch pz (j:=j+1) (w9 R.nd) h0 (by rw[hf];exact hj) (mem_cons_self ..) (mem_cons_self ..)
  exact⟨p,r,a,o,fd,cl,hf,h1,h2,h4,h5,h6,hf▸e▸h7⟩
theorem mw{A0:Around}{qual:Str}{func:Option Addr}{code:Value}{lam:Bool}{up:Nat}{cl:List (Str×Addr)}{vars:List (Str×V)}{binds:List (Str×Value)}{Q:Env→Shared→Prop}(R:aH w κ F O s.heap)(hne:κ.fr≠[])(ok:∀env,Ok (A.deeper env) n)(ok0:Ok A n)(hk:scope.kind=.function)
 (k:fk s.heap κ vars binds) (okv:fG scope.names vars=true) (hn:(vars.map (·.1)).Nodup) (frees:∀x,scope.names.lookup x=some .free→(x,NameKind.cell)∉scope.names∧∃c,cl.lookup x=some c∧cW κ.fr up x=some c)
 (hcode:lam=false→∃c p,code=.ref c∧CodeHd (HW w) c p∧p<(HW w).objs.size∧(HW w).get? p=none)
 (hQ:∀{env' s' p},St w (A.deeper env') n O.length (κ.push p) (⟨scope.names,pW scope.names vars,lam,up,none⟩::F) O s' env'→bj s.heap κ s'.heap (κ.push p)→am s s'→(∀a∈κ.hid,∀o,s.heap.get? a=some o→s'.heap.get? a=some o)→Q env' s'):
 wpAny (MW w) A0 (newFunctionEnv scope mainGlobals cl binds qual func code none builtinsNs) Q E s:=by
 refine gW fun env' he=>?_
 obtain⟨R1,x1⟩:=R.lay scope.names (.type "frame") lam up (κ':=κ.push (cY s.heap scope.names lam up)) (F2:=F) (P2:=κ.fr) rfl rfl (append_assoc ..) R.flen (fun q _ r z=>z.trans (List.suffix_cons ..)) R.frs
 have kk:=iE s.heap (.type "frame") scope.names
 have hkind:∀x,env'.kindOf x=scope.names.lookup x:=fun x=>by rw[he];rfl
 have hc:env'.code=code:=by rw[he];rfl
 have stk:∀p,(κ.push (cY s.heap scope.names lam up)).fr=[p]→env'.frame=some p.L∧∃l,(A.deeper env').frames=some (env'::l)∧(p.up=1→l=[]):=fun p h=>absurd (List.cons.inj h).2 hne
 have ER:nX w (κ.push (cY s.heap scope.names lam up)).fr env':={
  kind:=by rw[he];exact hk
  glob:=by rw[he];rfl
  blt:=by rw[he];rfl
  code:=fun q=>hc▸hcode (by cases lam with|false=>rfl|true=>exact aj q)
  top:=⟨_,_,rfl,m9 (cl:=cl) (by rw[he];rfl) (by rw[he];rfl) (fun x k hx=>⟨fun _=>(hkind x).trans hx,fun e=>.inr ((hkind x).trans (e▸hx))⟩) frees⟩ }
 refine wpAny_mono (kY (b:=O.length) (aK:=[]) vars (je x1 k) okv ⟨ok env',R1,ER,le_refl _,stk⟩) (fun _ s2 g=>?_) fun _ _ e=>e
 have R3:=g.rel.relook (f':=⟨scope.names,pW scope.names vars,lam,up,none⟩) rfl rfl rfl rfl fun x=>by
  rw[lB]
  show ss _=_
  rw[gF x vars [] hn]
  cases vars.lookup x<;>rfl
 exact hQ ⟨ok _,R3,ER,le_refl _,stk⟩ (x1.trans g.ext) ⟨g.rest.1,g.rest.2.1,g.rest.2.2⟩ fun a ha o e=>(g.hid a ha).2 o (kk a o e)
theorem j5{f':Fr}{v v':V}{cv:Value}(R:aH w κ F O s.heap)(hb:b≤O.length)(x:bj s.heap κ s1.heap (κ.push p))(q:am s s1)(kh:∀a∈κ.hid,∀o,s.heap.get? a=some o→s1.heap.get? a=some o)(g:dp w O.length (κ.push p) O s1 κ2 (f'::F) O2 s2)
 (h:leave O.length v O2=some v') (r:RV s2.heap κ2 v cv) (hq:Q v' (O2.take O.length)):aG w b κ F O s RV Q cv s2:=by
 obtain⟨R4,x4,mt4⟩:=g.rel.pop g.frs
 have C:qU ⟨κ.fr,κ.ob,p.addrs++κ2.hid⟩ ⟨κ.fr,κ2.ob,p.addrs++κ2.hid⟩:=qU.of R4.nd g.ext.pre fun a h=>h
 have len:=R.len
 have R5:=R4.cutTo C (R4.nd.sublist ((Sublist.refl _).append ((Sublist.refl _).append (g.ext.pre.sublist.map _)))) (fun i o hi e=>by
  have hi':i<O.length:=len▸hi
  obtain⟨c,_,r⟩:=R.get (getElem?_eq_getElem hi')
  obtain⟨o',e',k⟩:=g.mono i _ hi' (getElem?_eq_getElem hi')
  obtain rfl:=sI (e.symm.trans e')
  have u:=i9 r
  exact k _ u) R.tab R4.flen fun i f p e e'=>nV C (κ0:=κ) rfl (fun _ z=>z) (R.frs i f p e e') (R4.frs i f p e e')
 rw[show(Pl.ob ⟨κ.fr,κ.ob,p.addrs++κ2.hid⟩).length=O.length from len]at R5
 have y:=x.trans g.ext
 refine .mk hq ⟨R5,⟨prefix_rfl,y.keep,fun b hb hn=>(y.trans x4).fresh b (C.mt b hb) hn⟩,rfl,⟨g.rest.1.trans q.1,g.rest.2.1.trans q.2.1,g.rest.2.2.trans q.2.2⟩,fun i o hi e=>?_,fun a ha=>⟨mem_append_right _ (g.hid a ha).1,fun o e=>(g.hid a ha).2 o (kh a ha o e)⟩⟩ (jU R4 C 4 ((show(Pl.ob ⟨κ.fr,κ.ob,p.addrs++κ2.hid⟩).length=O.length from len).symm▸h) (rM x4 r))
 have hi':=lt_of_lt_of_le hi hb
 obtain⟨o',e',k⟩:=g.mono i o hi' e
 exact⟨o',by rw[List.getElem?_take,if_pos hi'];exact e',k⟩
theorem cS.reclo{r:List Fr}(R:aH w κ (f::r) O h)(hp:κ.fr[0]? =some p)(C:zB h κ f p c):aH w κ (⟨f.names,f.vars,f.lam,f.up,some c⟩::r) O h:=
 { R with frs:=fun i g q e e'=>match i,e,e' with
   |0,rfl,e'=>let z:=R.frs 0 f q rfl e';⟨z.nm,z.lm,z.loc,z.cell,z.up,fun c' hc=>by
    obtain rfl:=sI hc
    clear z
    obtain rfl:=sI (hp.symm.trans e')
    obtain⟨a,r,o,fd,cl,h1,h2,h3,h4,h5,h6,h7⟩:=C
    exact⟨a,r,o,fd,cl,h1,h2,h3,h4,h5,h6,h7⟩⟩
   |i+1,e,e'=>R.frs (i+1) g q e e' }
theorem nG(h:fZ F x=some c):∃f r,F=f::r∧f.clo=some c∧c.name=x:=by
 cases F with
 |nil=>exact nN h
 |cons f r=>
  obtain⟨_,h⟩:=iS (show(if f.names.lookup x==some .local then Ew f.clo x else none)=some c from h)
  refine⟨f,r,rfl,?_⟩
  cases hf:f.clo with
  |none=>rw[hf]at h;exact nN h
  |some d=>
   rw[hf]at h
   obtain⟨e,h⟩:=iS (show(if d.name==x then some d else none)=some c from h)
   obtain rfl:=sI h
   exact⟨rfl,eq_of_beq e⟩
theorem tM(B:bI w)(S:d6 w n J){ad:Addr}{ks:List (Str×V)}{nm:Str}{cks:List (Str×Value)}(h:Lf (GG.fns.lookup ad) fun fi=>Lf (fC fi.params fi.dfl fi.kwd a ks) fun vars=>Ha J fi vars nm c F Q O)(hc0:fZ F c.name=some c)(ok:Ok A (n+1))(R:aH w κ F O s.heap)(hb:b≤O.length)
 (Ra:ag s.heap κ a ca) (Rk:fk s.heap κ ks cks):wpAny (MW w) A (call (.ref ad) ca cks) (aG w b κ F O s RV Q) E s:=by
 refine hG fun _ kk=>?_
 obtain⟨fi,h1,h⟩:=h.out
 obtain⟨vars,h2,h⟩:=h.out
 obtain⟨hch,hv,hx⟩:=h.out
 obtain⟨hch,hloc⟩:=aB hch
 obtain⟨okv,hnf⟩:=aB hch
 clear h
 obtain⟨f,rF,rfl,hf,_⟩:=nG hc0
 obtain⟨p0,r0,a0,oc,fdc,cl,hfr,g1,g2,g4,g5,g6,g7⟩:=qA R hf
 obtain⟨o,fd,K⟩:=B.fns ad fi h1
 refine kk ?_
 refine wpAny_call (codeAny_call_function ok.room (R.base _ _ K.get) K.data (K.scope.symm▸K.cor) (K.scope.symm▸K.gen) K.body (K.crec.keeps R.base) ?_)
 refine dj (K.params.symm▸h2) Ra Rk ?_ ?_ fun binds kb=>?_
 ·exact K.dfl.imp id fun x9=>(by obtain⟨t,aA,q1,⟨ot,hot,r⟩,q3⟩:=x9;exact⟨t,aA,q1,⟨ot,R.base _ _ hot,r⟩,q3▸vu _⟩)
 ·refine K.kwd.imp id fun⟨d,m,q1,q2,q3⟩=>⟨d,m,q1,q2.keeps R.base,fun x=>?_⟩
  rw[←q3]
  cases m x with
  |none=>trivial
  |some cv=>exact iA _ _ _
 refine Eq.symm (K.glob)▸Eq.symm (K.blt)▸Eq.symm (K.clos)▸Eq.symm (K.scope)▸?_
 refine mw (A:=A) (n:=n) R (hfr▸nofun) (fun env=>ok.deeper) ok.dn K.kind kb okv (dk h2) (fun x hx=>absurd rfl (oM hnf (mem_of_lookup hx))) (fun _=>K.code) fun {env' s1 p} t x q kh=>⟨B.nolimit.keeps t.rel.base,codeAny_func (dQ.seq (cp S hx { t with rel:=t.rel.reclo rfl ⟨a0,κ.fr,oc,fdc,cl,(lB _ _ _ _ _ vars).trans (hv.trans g1),beq_iff_eq.mp hloc,List.suffix_refl _,x.off g5 g4,x.keep _ _ g5 g4,{ g6 with code:=be x g6.code },fun y hy=>g7 y hy⟩ }) fun {f F2 κ2 O2 cf s2} hq g r=>?_)⟩
 obtain⟨hF,hq⟩:=hq
 cases F2 with
 |nil=>exact nomatch hF
 |cons f' F2=>
  obtain rfl:=(show F2=_ from hF)
  cases f with
  |next=>cases r;exact j5 (v:=.none) R hb x q kh g rfl rfl hq
  |ret v=>obtain⟨cv,rfl,rv⟩:=r;obtain⟨v',h3,hq⟩:=hq.out;exact j5 R hb x q kh g h3 rv hq
  |_=>exact hq.elim
theorem BR(B:bI w)(S:d6 w n J){cf:Value}(hF:F=f::rF)(hf:f.clo=some c)(hcf:RV s.heap κ ((f.get c.name).getD .none) cf)
 (h:Lf (fC c.args [] [] a []) fun vars=>Gd (fG c.scope.names vars&&dh c.scope) (J.e c.body (⟨c.scope.names,pW c.scope.names vars,true,c.up,none⟩::F) O.length (fun v O2=>Lf (leave O.length v O2) fun r=>Q r (O2.take O.length)) O)) (ok:Ok A (n+1))
 (R:aH w κ F O s.heap) (hb:b≤O.length) (Ra:ag s.heap κ a ca):wpAny (MW w) A (call cf ca []) (aG w b κ F O s RV Q) E s:=by
 refine hG fun _ kk=>?_
 subst hF
 obtain⟨vars,h2,h⟩:=h.out
 obtain⟨hch,hx⟩:=h.out
 obtain⟨okv,hsc⟩:=aB hch
 obtain⟨s1,s2,s3⟩:=f9 hsc
 obtain⟨p0,r0,a0,o,fd,cl,hfr,g1,g2,g4,g5,K,g7⟩:=qA R hf
 rw[g1]at hcf
 obtain⟨rfl,_⟩:=hcf
 obtain⟨cc,oc,vs,q,t,k1,k2,k3,k4,k5⟩:=K.code
 refine kk ?_
 refine wpAny_call (iZ ok.room g5 K.data (K.sc.symm▸s3) (K.sc.symm▸s2) K.bd k1 k3 k4 k5 ?_)
 refine dj (K.params.symm▸h2) Ra (show fk _ _ [] _ from rfl) (.inl ⟨rfl,K.dfl⟩) (.inl ⟨rfl,K.kwd⟩) fun binds kb=>?_
 refine Eq.symm (K.glob)▸Eq.symm (K.blt)▸Eq.symm (K.clos)▸Eq.symm (K.sc)▸?_
 exact mw (A:=A) (n:=n) (lam:=true) (up:=c.up) R (hfr▸nofun) (fun env=>ok.deeper) ok.dn s1 kb okv (dk h2) (fun x hx=>⟨fun hm=>(fH hsc _ hm).elim nofun fun z=>z.elim nofun fun z=>(nomatch hx.symm.trans z.2),g7 x (mem_of_lookup hx)⟩) nofun fun {env' s1 p} t x q kh=>⟨B.nolimit.keeps t.rel.base,kla_codeExpr (aG.seq (S.e hx t) fun {v κ2 O2 cv s2} hq g r=>(by obtain⟨v',h3,hq⟩:=hq.out;exact j5 R hb x q kh g h3 r hq))⟩
theorem j7(B:bI w){p pos q:Pos}{args:Arguments}{body:Expr}{Q:Fl→List Fr→Oj→Prop}(h:Gd (pX args scope&&iG F&&mu F scope.names) (∀a,Lf (bn F x (.opq a)) fun F1=>Lf (vm F1 ⟨x,args,body,scope,0⟩) fun F2=>Q .next F2 O))(t:St w A n b κ F O s env):
 wpAny (MW w) A (exec (.Assign [.Name x p] (.Lambda args body scope q) pos) env) (dQ w b κ O s Q) ba s:=by
 obtain⟨hc,h⟩:=h.out
 obtain⟨hc,hfo⟩:=aB hc
 obtain⟨hc,hlf⟩:=aB hc
 have fc:=mq t.rel t.env hfo
 refine wpAny_Assign_Name (sR B (fL fun y hy hk=>(by obtain⟨c,h1,_⟩:=fc y hy hk;exact⟨c,h1⟩)) hc hlf t fun {a s2 o fd} g ha ho l=>?_) rfl
 obtain⟨F1,h1,h⟩:=(h a).out
 obtain⟨F2,h2,hq⟩:=h.out
 refine bB (t.next g) h1 ⟨rfl,ha,o,fd,ho,l.data⟩ fun s1 g2=>?_
 clear h
 cases F1 with
 |nil=>exact nN h2
 |cons f1 r1=>
  obtain⟨hl,h2⟩:=iS h2
  obtain rfl:=sI h2
  have g3:=g.trans g2
  cases hfr:κ.fr with
  |nil=>exact nomatch (hfr▸g3.rel.flen)
  |cons p0 r0=>
   have gx:f1.get x=some (.opq a):=by
    cases F with
    |nil=>exact nN h1
    |cons f0 r'=>
     obtain⟨_,h1⟩:=iS h1
     injection sI h1 with h9 h8;subst h9 h8
     show ss ((dF f0.vars x (.opq a)).lookup x)=_
     rw[cK,if_pos rfl];rfl
   exact .mk hq { g3 with rel:=g3.rel.reclo (p:=p0) (by rw[hfr];rfl) ⟨a,r0,o,fd,_,gx,beq_iff_eq.mp hl,by rw[hfr];exact List.suffix_refl _,ha,g2.ext.keep _ _ ho ha,{ l with code:=be g2.ext l.code },fun y hy=>by
    obtain⟨c,e1,e2⟩:=fc (y,.free) hy rfl
    exact⟨c,by rw[ib scope.names (.inl hy),e1];rfl,hfr▸e2⟩⟩ } rfl
end
end
section
variable {pos p:Pos} {ks:List Keyword} {Q:V→Oj→Prop} {c:gN} {x name:Str} {fv v:V} {cf:Value} {o e:Expr} {args:List Expr}
structure nU (w:World):Prop where
 slot:∀{T name id},dx name T=some id→PlainAttrs T.ty∧Slot T.ty name id∧typeOf (.builtin id)=pure (.type "method_descriptor")
 meth:∀{A s κ F O O1 b name x a r T id cx ca Q},dU GG name x a b O=some r→lu GG O1 x=some T→dx name T=some id→Ok A 1→aH w κ F O s.heap→b≤O.length→RV s.heap κ x cx→ag s.heap κ a ca→Q r.1 r.2→wpAny (MW w) A (call (.builtin id) (cx::ca) []) (aG w b κ F O s RV Q) ba s
 tabO:∀ad,(GG.tabs.lookup ad).isSome=true→∃o,(HW w).get? ad=some o∧o.cls=.type "dict"∧o.dict=none
section
variable {w:World} {A:Around} {n b m:Nat} {κ κ1 κ2:Pl} {F F1 F2:List Fr} {O O1 O2 OF:Oj} {s s1 s2:Shared} {env:Env} {J:WI} {E:Value→Shared→Prop}
theorem qK{f:Value}{es:List Expr}{Q:Args→Shared→Prop}(hs:bA es=true)(hall:(backToKw pos (keywordEach ks env)).all (·.1.isSome)=true)
 (h:wpAny (MW w) A (spliced (backTo pos (starEach es env))) (fun vs s'=>wpAny (MW w) A (evalAll ((backToKw pos (keywordEach ks env)).map (·.2))) (fun cs s''=>Q ⟨vs,((backToKw pos (keywordEach ks env)).filterMap (·.1)).zip cs⟩ s'') E s') E s):
 wpAny (MW w) A (evalArgs f true (backTo pos (starEach es env)) (backToKw pos (keywordEach ks env))) Q E s:=by
 rcases gZ (env:=env) (pos:=pos) es hs with e|⟨x,rest,e⟩
 ·rw[e]at h ⊢
  exact evalArgs_kw_nil hall fun Γ p hΓ=>(h Γ p hΓ) Γ p hΓ
 ·rw[e]at h ⊢;exact evalArgs_kw hall h
theorem BS{n m:Str}{r:Option (Str×gN)}(h:Ev m (fZ F x) r=some (n,c))(k:r=some (n,c)→fZ F c.name=some c):fZ F c.name=some c:=by
 cases hc:fZ F x with
 |none=>rw[hc]at h;exact k h
 |some d=>
  rw[hc]at h
  clear k
  obtain⟨rfl,rfl⟩:=sP h
  obtain⟨f,r',rfl,_,e⟩:=nG hc
  rw[e];exact hc
theorem BU{n:Str}(ks:List Keyword):o0 F ks=some (n,c)→fZ F c.name=some c:=by
 induction ks with
 |nil=>exact fun h=>nN h
 |cons k r ih=>
  intro h
  obtain⟨m,_,h⟩:=bS (show(k.arg).bind (fun n=>BV F n k.value (o0 F r))=some (n,c)from h)
  clear left
  cases k with
  |mk arg value pos=>cases value<;>first|exact BS h ih|exact ih h
theorem jY(S:d6 w n J){a:Addr}{o:Obj}{fd:FuncData}{pos:Pos}{Q:V→Oj→Prop}(hs:bA args=true)(hk:(ks.all fun k=>k.arg.isSome)=true)(rf:RV s.heap κ fv cf)(hcf:cf=.ref a)(hd:o.data=.func fd)
 (hfd:∀{h' κ'},bj s.heap κ h' κ'→(∀b o,(HW w).get? b=some o→h'.get? b=some o)→h'.get? a=some o) (h:uI J.e args F b (fun a O2=>HX J ks F b (fun k O3=>match o0 F ks with
  |some e=>xb J fv a k e.1 e.2 F b Q O3
  |none=>bw J fv a k b Q O3) O2) O) (t:St w A n b κ F O s env):
 wpAny (MW w) A (callWith pos cf [] (backTo pos (starEach args env)) (backToKw pos (keywordEach ks env))) (aG w b κ F O s RV Q) ba s:=by
 subst hcf
 refine callWith_function_kw (o:=o) (fd:=fd) (qK hs (pD ks hk) (aG.seq (bh S.e h hs t) fun q g r=>aG.seq (ny S ks q (t.next g)) fun q2 g2 r2=>?_))
 have g3:=g.trans g2
 refine⟨⟨hfd g3.ext g3.rel.base,hd⟩,aG.on g3 ?_⟩
 cases hq:o0 F ks with
 |none=>simp only[hq]at q2;exact S.c (q2.is) t.ok g2.rel (t.next g3).le (rM g3.ext rf) (iT g2.ext r.1) r2
 |some e=>obtain⟨n,c⟩:=e;simp only[hq]at q2;exact S.k (q2.is) (BU _ hq) t.ok g2.rel (t.next g3).le (rM g3.ext rf) (iT g2.ext r.1) r2
theorem qG(S:d6 w n J)(hs:bA args=true)(rf:RV s.heap κ fv cf)(hcf:(∃id,cf=.builtin id)∨∃T,cf=.type T)
 (h:uI J.l args F b (fun a O2=>J.c fv a [] b Q O2) O) (t:St w A n b κ F O s env):wpAny (MW w) A (callWith pos cf [] (backTo pos (starEach args env)) (backToKw pos (keywordEach [] env))) (aG w b κ F O s RV Q) ba s:=by
 have tail:wpAny (MW w) A (spliced (backTo pos (starEach args env))) (fun vs s'=>wpAny (MW w) A (call cf vs []) (aG w b κ F O s RV Q) ba s') ba s:=
  aG.seq (bh S.l h hs t) fun q g r=>aG.on g (S.c q t.ok g.rel (t.next g).le (rM g.ext rf) r.1 rfl)
 rcases hcf with⟨id,rfl⟩|⟨T,rfl⟩
 ·exact Calls.callWith_builtin (bT _ hs) (ja hs tail)
 ·exact PySem.callWith_type (bT _ hs) (ja hs tail)
theorem tK(B:bI w)(S:d6 w n J){f:Fr}{rF:List Fr}(hf:f.clo=some c)(h:pE GG J (some c) c.name p args ks (f::rF) b Q O)(t0:St w A (n+1) b κ (f::rF) O s env):
 wpAny (MW w) A (eval (.Call (.Name c.name p) args ks pos) env) (aG w b κ (f::rF) O s RV Q) ba s:=by
 obtain⟨hc,h2⟩:=Gd.out h
 clear h
 obtain⟨hs,hk⟩:=aB hc
 obtain rfl:=isEmpty_iff.mp hk
 refine wpAny_Call_ofName (aG.seq (S.e h2 t0.dn) fun {fv κ1 O1 cf s1} q g r=>aG.on g ?_)
 obtain⟨p0,r0,a0,o,fd,cl,hfr,g1,g2,g4,g5,K,g7⟩:=qA g.rel hf
 obtain rfl:fv=.opq a0:=sI (q.1.trans g1)
 obtain rfl:=r.1
 exact callWith_function_kw (o:=o) (fd:=fd) (qK hs (pD [] rfl) (aG.seq (bh S.e q.2 hs (t0.dn.next g)) fun q2 g3 r2=>wpAny_pure ⟨⟨g3.ext.keep _ _ g5 g4,K.data⟩,aG.on g3 (BR B S rfl hf (by rw[g1];exact rM g3.ext r) q2 t0.ok g3.rel ((t0.dn.next g).next g3).le r2.1)⟩))
inductive Mj (v:V) (u:Bool):Prop
 |lam (as:Arguments) (bd:Expr) (sc:Scope) (e:v=.lam as bd sc) (h:u=true)
 |bi (d:Value) (e:v=.cst d) (h:u=false) (k:(∃id,d=.builtin id)∨∃T,d=.type T)
 |fn (ad:Addr) (e:v=.cst (.ref ad)) (h:u=true) (k:(GG.fns.lookup ad).isSome=true)
theorem Dc{u:Bool}(h:IN GG v=some u):Mj v u:=by
 cases v with
 |lam as bd sc=>exact .lam as bd sc rfl (sI h).symm
 |cst d=>cases d with
  |builtin id=>exact .bi _ rfl (sI h).symm (.inl ⟨_,rfl⟩)
  |type id=>exact .bi _ rfl (sI h).symm (.inr ⟨_,rfl⟩)
  |ref ad=>obtain⟨k,h⟩:=iS h;exact .fn ad rfl (sI h).symm k
  |_=>exact nN h
 |_=>exact nN h
theorem tJ(B:bI w)(S:d6 w n J)(h:pE GG J none x p args ks F b Q O)(t:St w A n b κ F O s env):
 wpAny (MW w) A (eval (.Call (.Name x p) args ks pos) env) (aG w b κ F O s RV Q) ba s:=by
 obtain⟨hc,h2⟩:=Gd.out h
 clear h
 obtain⟨hs,hk⟩:=aB hc
 refine wpAny_Call_ofName (aG.seq (S.e h2 t) fun {fv κ1 O1 cf s1} q g r=>aG.on g ?_)
 obtain⟨u,h1,q⟩:=q.out
 have t:=t.next g
 have h1:=Dc h1
 rcases h1 with⟨as,bd,sc,e,rfl⟩|⟨d,e,rfl,k⟩|⟨ad,e,rfl,k⟩
 ·obtain⟨a,o,fd,e,ha,ho,l⟩:=(show RV _ _ (.lam as bd sc) cf from e▸r)
  exact jY S hs hk r e l.data (fun x _=>x.keep _ _ ho ha) q t
 ·obtain⟨rfl,q⟩:=Gd.nil q
  exact qG S hs r ((show cf=d from(e▸r:RV _ _ (.cst d) cf))▸k) q t
 ·obtain⟨fi,hfi⟩:=isSome_iff_exists.mp k
  obtain⟨o,fd,K⟩:=B.fns ad fi hfi
  exact jY S hs hk r (e▸r:RV _ _ (.cst (.ref ad)) cf) K.data (fun _ k=>k _ _ K.get) q t
theorem tN(B:bI w)(S:d6 w n J)(h:EE GG J (.Name x p) args ks pos F b Q O)(t0:St w A (n+1) b κ F O s env):
 wpAny (MW w) A (eval (.Call (.Name x p) args ks pos) env) (aG w b κ F O s RV Q) ba s:=by
 have h:pE GG J (fZ F x) x p args ks F b Q O:=h
 cases hcl:fZ F x with
 |some c=>
  obtain⟨f,rF,rfl,hf,rfl⟩:=nG hcl
  exact tK B S hf (hcl▸h) t0
 |none=>exact tJ B S (hcl▸h) t0.dn
theorem rI{whole:Sem Value}(h:zr o=true):attributeBase o name env whole=whole:=by
 cases o with
 |Call f args ks p=>
  cases f with
  |Name x q=>
   cases args with
   |nil=>
    cases ks with
    |nil=>exact aj h
    |cons=>rfl
   |cons=>rfl
  |_=>rfl
 |_=>rfl
theorem xq(M:nU w){T:MT}{cx:Value}(h:lu GG O v=some T)(R:aH w κ F O s.heap)(r:RV s.heap κ v cx):s.TypeIs cx T.ty∧∀a,cx=.ref a→∃ob,s.heap.get? a=some ob∧ob.dict=none:=by
 have lst:∀{a:Addr} {aA:Array Value},s.heap.PlainList a aA→s.TypeIs (.ref a) "list"∧∀a',Value.ref a=.ref a'→∃ob,s.heap.get? a'=some ob∧ob.dict=none:=fun x9=>(by obtain⟨_,ho⟩:=x9;exact⟨⟨_,ho,rfl⟩,fun a' e=>by injection e with h9;subst h9;exact⟨_,ho,rfl⟩⟩)
 cases v with
 |str l=>obtain rfl:=sI h;obtain⟨t,rfl⟩:=r;exact⟨typeIs_str _ _ _,fun _ e=>nomatch e⟩
 |ref k=>
  obtain⟨l,h1,h⟩:=mS h
  subst h
  obtain⟨a,aA,rfl,_,hl,_⟩:=R.list h1 r
  exact lst hl
 |cst d=>
  cases d with
  |ref ad=>
   obtain⟨ht,h⟩:=iS h
   obtain rfl:=sI h;cases r
   obtain⟨ob,hob,hcl,hdi⟩:=M.tabO ad ht
   have ho:=R.base _ _ hob
   exact⟨⟨ob,ho,hcl⟩,fun a' e=>by injection e with h9;subst h9;exact⟨ob,ho,hdi⟩⟩
  |_=>exact nN h
 |_=>exact nN h
theorem ur(M:nU w)(S:d6 w n J){apos:Pos}(h:ED GG J o name apos args pos F b Q O)(t:St w A n b κ F O s env)(ok:Ok A 1):
 wpAny (MW w) A (eval (.Call (.Attribute o name apos) args [] pos) env) (aG w b κ F O s RV Q) ba s:=by
 refine hG fun _ kk=>?_
 obtain⟨hc,h⟩:=h.out
 obtain⟨hc,hlen⟩:=aB hc
 obtain⟨hc,hs⟩:=aB hc
 obtain⟨hl,hb⟩:=aB hc
 refine kk ?_
 have hfew:((backTo pos (starEach args env)).all (fun x=> !x.1)&&(backToKw pos (keywordEach [] env)).all (fun x=>x.1.isSome)
  && decide (args.length+([]:List Keyword).length+(if([]:List Keyword).isEmpty then 0 else 1)<30))=true:=by
  have h1:(backTo pos (starEach args env)).all (fun x=> !x.1)=true:=all_eq_true.mpr fun y hy=>by
   have:=List.any_eq_false.mp (bT (env:=env) (pos:=pos) args hs) y hy
   simpa using this
  refine Eq.symm (h1)▸?_
  exact decide_eq_true (lt_trans (of_decide_eq_true hlen) (by decide))
 refine wpAny_Call_method_lateS (rI hb) hfew hl (aG.seq (S.e h t) fun {v κ1 O1 cx s1} q g r=>?_)
 refine hG fun _ kk=>?_
 obtain⟨id,h1,q⟩:=q.out
 obtain⟨T,hT,h1⟩:=bS h1
 obtain⟨p1,p2,p3⟩:=M.slot h1
 obtain⟨p4,p5⟩:=xq M hT g.rel r
 refine kk ?_
 have t1:=t.next g
 have fin:∀{cvs s2 κ2 O2 a},Lf (dU GG name v a b O2) (fun r=>Q r.1 r.2)→dp w b κ1 O1 s1 κ2 F O2 s2→ag s2.heap κ2 a cvs→wpAny (MW w) A (call (.builtin id) (cx::cvs) []) (aG w b κ F O s RV Q) ba s2:=fun h g2 ra=>(by obtain⟨_,h2,q⟩:=h.out;exact aG.on (g.trans g2) (M.meth h2 hT h1 ok g2.rel (t1.next g2).le (rM g2.ext r) ra q))
 refine⟨T.ty,id,p1,p2,p3,p4,p5,Calls.callWith_builtin (bT _ hs) (ja hs ?_)⟩
 cases hi:isStr v with
 |true=>rw[hi]at q;exact aG.seq (bh S.l q hs t1) fun q g2 r2=>fin q g2 r2.1
 |false=>rw[hi]at q;exact aG.seq (bh S.e q hs t1) fun q g2 r2=>fin q g2 r2.1
theorem Go.touchC{C:Addr}{h':Heap}(R0:aH w κ F O s.heap)(g:dp w b κ O s κ1 F1 O1 s1)(hC:C∈κ1.hid)(nC:s.heap.get? C=none)(hs:SameBut C s1.heap h')(hn:∃m,h'.Ns C m):dp w b κ O s κ1 F1 O1 { s1 with heap:=h' }∧bj s1.heap κ1 h' κ1:=
 g.raw (hid':=κ1.hid) (s2:={ s1 with heap:=h' }) (H:=[C]) (fun a h=>mem_singleton.mp h▸nC) (fun a h=>mem_singleton.mp h▸hC) R0 (Sublist.refl _) (fun a h _=>h) (fun b o hb e=>(hs.2 b (jM hb)).trans e) (fun a _ h=>(by obtain⟨_,o,_,_,ho,_⟩:=hn;exact⟨o,mem_singleton.mp h▸ho⟩)) ⟨rfl,rfl,rfl⟩
theorem yM(B:bI w)(S:d6 w n J){elt:Expr}{gs:List Comprehension}{scope:Scope}(h:HZ GG J elt gs scope F b Q O)(t:St w A n b κ F O s env):wpAny (MW w) A (eval (.ListComp elt gs scope pos) env) (aG w b κ F O s RV Q) ba s:=by
 rw[arm_eval_ListComp]
 refine mW B S h t fun q g r hC nC ⟨m,hm⟩=>⟨m,hm,fun h' m' hm' hs'=>?_⟩
 obtain⟨g',x⟩:=Go.touchC t.rel g hC nC hs' ⟨m',hm'⟩
 exact .mk q g' (rM x r)
theorem cX(B:bI w)(Op:uF w)(M:nU w)(S:d6 w n J)(h:la GG J e F b Q O)(t:St w A (n+1) b κ F O s env):wpAny (MW w) A (eval e env) (aG w b κ F O s RV Q) ba s:=by
 have ok:=t.ok.one
 have t0:=t
 have t:=t.dn
 cases e with
 |Constant c k p=>
  cases c with
  |none=>exact wpAny_Constant_none (aG.here t.rel h rfl)
  |bool c=>exact wpAny_Constant_bool (aG.here t.rel h rfl)
  |int i=>exact wpAny_Constant_int (aG.tok t.rel h ⟨_,rfl⟩)
  |str x=>exact wpAny_Constant_str (aG.tok t.rel h ⟨_,by rw[eY]⟩)
  |_=>exact h.elim
 |Name x p=>exact mP B t h
 |BoolOp op vs p=>rw[arm_eval_BoolOp];exact yy S vs h t
 |BinOp l op r p=>exact wpAny_BinOp (aG.seq (S.l h t) fun q g r=>aG.seq (S.l q (t.next g)) fun q2 g2 r2=>(by obtain⟨_,h1,q⟩:=q2.out;exact aG.on (g.trans g2) (Op.bin h1 ok g2.rel (rM g2.ext r) r2 q)))
 |UnaryOp op x p=>
  cases op with
  |Not=>exact wpAny_UnaryOp (aG.seq (S.e h t) fun q g r=>not_value ((by obtain⟨_,h1,q⟩:=q.out;exact aG.seq (ek (b:=b) (Q:=fun u' O'=>Q (.bool (!u')) O') h1 g.rel r q) fun q2 g2 r2=>.mk q2 (g.trans g2) (congrArg (fun u=>Value.bool (!u)) r2))))
  |USub=>
   refine wpAny_UnaryOp (aG.seq (S.e h t) fun {v κ1 O1 cv s1} q g r=>?_)
   obtain⟨u,h1,q⟩:=q.out
   cases v with
   |int i=>
    obtain⟨_,h1⟩:=iS h1
    obtain rfl:=sI h1
    obtain⟨t',rfl⟩:=r
    exact P.neg_int ((aG.tok g.rel q ⟨_,rfl⟩).go g)
   |_=>exact nN h1
  |_=>exact h.elim
 |IfExp c x y p=>
  refine wpAny_IfExp (aG.seq (S.t h t) fun {u _ _ _ _} q g r=>?_)
  cases r
  cases u with
  |true=>exact aG.on g (S.e q (t.next g))
  |false=>exact aG.on g (S.e q (t.next g))
 |Lambda args body scope pos=>exact yO B h t
 |List es p=>exact uw S h t
 |Tuple es c p=>exact qY S h t
 |Dict ks vs p=>
  obtain⟨hc,q⟩:=Gd.out h
  obtain⟨h1,h2⟩:=aB hc
  clear h hc
  obtain rfl:=isEmpty_iff.mp h1
  obtain rfl:=isEmpty_iff.mp h2
  exact wpAny_Dict_empty (pb t.rel q rfl fun κ' x=>⟨[],fun p=>⟨_, #[],get?_push_size _ rfl,⟨rfl,rfl,rfl⟩,rfl,fun _ he=>by simp at he,.nil,nodup_nil⟩,rfl,rfl⟩)
 |ListComp elt gs scope p=>exact yM B S h t
 |Compare l ops rs p=>
  cases ops with
  |nil=>exact h.elim
  |cons op ops=>
   cases ops with
   |cons=>exact h.elim
   |nil=>
    cases rs with
    |nil=>exact h.elim
    |cons r rs=>
     cases rs with
     |cons=>exact h.elim
     |nil=>have h:=Gd.out h;exact wpAny_Compare1 (aG.seq (S.l h.2 t) fun q g r=>aG.seq (S.l q (t.next g)) fun q2 g2 r2=>(by obtain⟨_,h1,q⟩:=q2.out;exact aG.on (g.trans g2) (Op.cmp h1 ok g2.rel (rM g2.ext r) r2 q))) (EX h.1)
 |Call f args ks pos=>
  cases f with
  |Attribute o name apos=>obtain⟨rfl,h⟩:=Gd.nil h;exact ur M S h t ok
  |Name x p=>exact tN B S h t0
  |_=>exact h.elim
 |Subscript v i p=>
  cases i with
  |Slice lo hi st q=>exact xo Op S h t ok
  |_=>exact xj Op S h t ok
 |_=>exact h.elim
theorem kD(B:bI w)(Op:uF w)(M:nU w)(S:d6 w n J)(h:zS GG J e F b Q O)(t:St w A (n+1) b κ F O s env):wpAny (MW w) A (eval e env) (aG w b κ F O s RV Q) ba s:=by
 cases e with
 |List es p=>exact px S h t.dn
 |_=>exact cX B Op M S h t
end
end
section
variable {d a:Addr} {v:V} {Q:Unit→Shared→Prop} {cv:Value} {h:Heap} {p:Program}
section
variable {prog:Program} {w:World} {K:Type} [DecidableEq K] {knd:KeyKind prog w K} {A:Around} {E:Value→Shared→Prop} {s:Shared}
theorem tD{kvs:List (K×Value)}{k:K}{key v:Value}(hkey:knd.is k key=true)(hm:s.heap.DictAt knd d kvs kvs.length)(hsz:kvs.length≤sizeLine)
 (hQ:∀h',h'.DictAt knd d (stored kvs k v) (stored kvs k v).length→SameBut d s.heap h'→Q () { s with heap:=h',toks:=s.toks+1 }):wpAny (model prog w) A (dictSet d key v) Q E s:=by
 refine hG fun _ kk=>?_
 obtain⟨o,es,ho,hc,hd,hk,hp,hn⟩:=hm
 refine kk ?_
 have hes:es.size=kvs.length:=Array.length_toList.symm.trans hp.length
 unfold dictSet
 try with_reducible refine wpAny_holding ?_
 refine wpAny_bind (knd.pyHash hkey ?_)
 unfold dictSetHashed
 try with_reducible refine wpAny_holding ?_
 refine wpAny_bind (wpAny_dictFind_of (s:={ s with toks:=s.toks+1 }) hkey ho hd hk ?_)
 have hidx:(es.findIdx? fun e=>knd.is k e.key)=kvs.findIdx? fun kv=>decide (kv.1=k):=by
  rw[←hp.findIdx k];exact(List.findIdx?_toArray (l:=es.toList) ..)
 cases hi:es.findIdx? fun e=>knd.is k e.key with
 |some i=>
  have e1:stored kvs k v=kvs.map fun kv=>if kv.1=k then(kv.1,v)else kv:=if_pos (any_of_findIdx_some (hidx▸hi))
  refine wpAny_bind (wpAny_rule (wpAny_bind (wpAny_updateDict (s:={ s with toks:=s.toks+1 }) ho hd (wpAny_point (hQ _ ?_ (SameBut.update ..))))))
  rw[e1,length_map]
  refine⟨_,_,get?_update_self _ ho (Obj.isFreed_of_dict (Obj.data_mapDict hd _)),hc.mapDict _,Obj.data_mapDict hd _,hk.modify _ _,?_,by rw[keys_map_store];exact hn⟩
  rw[Array.toList_modify]
  exact hp.modify hn (by rw[hp.findIdx, ←hidx,hi]) v
 |none=>
  have hnot:k∉kvs.map (·.1):=not_mem_of_findIdx_none (hidx▸hi)
  have e1:stored kvs k v=kvs++[(k,v)]:=if_neg fun z=>by
   obtain⟨kv,hkv,he⟩:=List.any_eq_true.mp z
   exact hnot (mem_map.mpr ⟨kv,hkv,of_decide_eq_true he⟩)
  refine wpAny_bind (wpAny_rule (wpAny_updateDictKeys (hz:=hes▸hsz) (s:={ s with toks:=s.toks+1 }) ho hd (hQ _ ?_ (SameBut.update ..))))
  rw[e1,length_append]
  refine⟨_,_,get?_update_self _ ho (Obj.isFreed_of_dict (Obj.data_mapDictKeys hd _)),hc.mapDictKeys _,Obj.data_mapDictKeys hd _,hk.push hkey _,?_,?_⟩
  ·rw[Array.toList_push];exact hp.append hkey (knd.hash k) v
  ·rw[map_append,nodup_append]
   exact⟨hn,nodup_cons.mpr ⟨not_mem_nil,nodup_nil⟩,fun a ha b hb e=>hnot ((show a=k from e.trans (mem_singleton.mp hb))▸ha)⟩
theorem BL{kvs:List (K×Value)}{k:K}{key v:Value}(hkey:knd.is k key=true)(hm:s.heap.DictAt knd d kvs kvs.length)(hsz:kvs.length≤sizeLine)
 (hQ:∀h',h'.DictAt knd d (stored kvs k v) (stored kvs k v).length→SameBut d s.heap h'→Q () { s with heap:=h',toks:=s.toks+1 }):wpAny (model prog w) A (setItem (.ref d) key v) Q E s:=by
 have hT:s.TypeIs (.ref d) "dict":=hm.dictOf.typeIs
 unfold setItem
 try with_reducible refine wpAny_holding ?_
 refine wpAny_bind (wpAny_sequenceKey hT (by decide) ?_)
 refine wpAny_bind (wpAny_callSpecial?_slot (name:=ofString "__setitem__") hT slot_dict_setitem
  (wpAny_call_entry slot_dict_setitem hT entry_dict_setitem ?_ (args_dict_setitem _ _ _)))
 show wpAny _ _ (Builtin.Dict.notOrdered "__setitem__" ⟨[.ref d,key,v],[]⟩>>=_) _ _ s
 refine wpAny_bind (wpAny_notOrdered_dict hT ?_)
 show wpAny _ _ (dictSet d key v>>=_) _ _ s
 exact wpAny_bind (tD hkey hm hsz fun h' hm' hs'=>wpAny_pure ⟨.none,rfl,wpAny_pure (hQ h' hm' hs')⟩)
end
theorem gH{b:Nat}(l:List V):dz b l=true↔∀v∈l,v.under b=true:=by
 induction l with
 |nil=>exact⟨fun _ _ h=>(nomatch h),fun _=>rfl⟩
 |cons v l ih=>
  refine⟨fun h x hx=>?_,fun h=>and_eq_true_iff.mpr ⟨h v (mem_cons_self ..),ih.mpr fun x hx=>h x (mem_cons_of_mem _ hx)⟩⟩
  rcases mem_cons.mp hx with rfl|hx
  ·exact(aB h).1
  ·exact ih.mp (aB h).2 x hx
theorem xK{K K':Type}[DecidableEq K][DecidableEq K']{f:K→K'}(inj:∀a b,f a=f b→a=b)(k:K):∀{l:List (K×V)} {kvs:List (K'×Value)},kvs.map (·.1)=l.map (fun x=>f x.1)→(kvs.any fun kv=>decide (kv.1=f k))=l.any fun e=>decide (e.1=k)
 |[],kvs,e=>by obtain rfl:=List.map_eq_nil_iff.mp e;rfl
 |_::_,[],e=>nomatch e
 |e::l,kv::kvs,h=>by
  obtain⟨h1,h2⟩:=List.cons.inj h
  rw[any_cons,any_cons,xK inj k h2,show kv.1=f e.1 from h1]
  exact congrArg (· ||_) (Bool.eq_iff_iff.mpr ⟨fun z=>decide_eq_true (inj _ _ (of_decide_eq_true z)),fun z=>decide_eq_true (congrArg f (of_decide_eq_true z))⟩)
section
variable {w:World} {A:Around} {n b:Nat} {κ:Pl} {F:List Fr} {O O1:Oj} {s:Shared} {E:Value→Shared→Prop}
theorem xI{K K':Type}[DecidableEq K][DecidableEq K']{f:K→K'}(inj:∀a b,f a=f b→a=b){k:K}{v:V}{cv:Value}{h:Heap}(rv:RV h κ v cv):∀{l:List (K×V)} {kvs:List (K'×Value)},y9 h κ f l kvs→
 y9 h κ f (l.map fun e=>if e.1=k then(e.1,v)else e) (kvs.map fun kv=>if kv.1=f k then(kv.1,cv)else kv)
 |[],kvs,e=>by obtain rfl:=List.map_eq_nil_iff.mp e.1;exact⟨rfl,rfl⟩
 |_::_,[],e=>nomatch e.1
 |e::l,kv::kvs,q2=>by
  refine hG fun _ kk=>?_
  obtain⟨h1,c,r,h2,r1,r2⟩:=q2
  obtain⟨h3,h4⟩:=List.cons.inj h1
  refine kk ?_
  injection h2 with h9 h8;subst h9 h8
  obtain⟨i1,i2⟩:=xI inj rv (k:=k) ⟨h4,r2⟩
  rw[map_cons,map_cons]
  by_cases q:e.1=k
  ·rw[if_pos q,if_pos (h3.trans (congrArg f q))]
   exact⟨congr (congrArg List.cons h3) i1,cv,_,rfl,rv,i2⟩
  ·rw[if_neg q,if_neg fun z=>q (inj _ _ (h3.symm.trans z))]
   exact⟨congr (congrArg List.cons h3) i1,_,_,rfl,r1,i2⟩
theorem Dp{K K':Type}[DecidableEq K][DecidableEq K']{f:K→K'}(inj:∀a b,f a=f b→a=b){k:K}(rv:RV h κ v cv){l:List (K×V)}{kvs:List (K'×Value)}(e:y9 h κ f l kvs):y9 h κ f (x5 l k v) (stored kvs (f k) cv):=by
 unfold x5 stored
 rw[xK inj k e.1]
 by_cases q:(l.any fun e=>decide (e.1=k))=true
 ·rw[if_pos q,if_pos q];exact xI inj rv e
 ·rw[if_neg q,if_neg q]
  refine⟨by rw[map_append,map_append,e.1];rfl,?_⟩
  rw[map_append,map_append]
  exact eF e.2 ⟨cv,[],rfl,rv,rfl⟩
theorem zc{K:Type}[DecidableEq K]{k:K}{x:V}{l:List (K×V)}(h:x∈(x5 l k v).map (·.2)):x∈l.map (·.2)∨x=v:=by
 obtain⟨e,he,rfl⟩:=mem_map.mp h
 unfold x5 at he
 by_cases q:(l.any fun e=>decide (e.1=k))=true
 ·rw[if_pos q]at he
  clear h
  obtain⟨e',h1,rfl⟩:=mem_map.mp he
  by_cases q:e'.1=k
  ·rw[if_pos q];exact .inr rfl
  ·rw[if_neg q];exact .inl (mem_map_of_mem h1)
 ·rw[if_neg q]at he
  rcases mem_append.mp he with h1|h1
  ·exact .inl (mem_map_of_mem h1)
  ·rw[mem_singleton.mp h1];exact .inr rfl
theorem vX{n:Nat}{o o':aT}{h':Heap}{tk:Nat}(ho:O[n]? =some o)(hi:κ.ob[n]? =some (.obj a))(hw:dC b n v=true)(hu:∀k,v.under k=true→o.Under k→o'.Under k)(R:aH w κ F O s.heap)(sb:SameBut a s.heap h')(hx:∃ob,h'.get? a=some ob)(r:bj s.heap κ h' κ→gM w h' κ o' (.obj a)):
 dp w b κ O s κ F (O.set n o') { s with heap:=h',toks:=tk }:=by
 obtain⟨R',x',hh⟩:=R.setO (o':=o') ho hi (fun b ob hn e=>(sb.2 b hn).trans e) hx r
 refine⟨R',x',rfl,⟨rfl,rfl,rfl⟩,?_,hh⟩
 rcases or_eq_true_iff.mp hw with q|q
 ·exact bv.set_high (of_decide_eq_true q)
 ·exact bv.set_pure ho fun k=>hu k (io q)
theorem zm{K:Type}[DecidableEq K]{p':Program}{k1:KeyKind p w K}{k2:KeyKind p' w K}(to:∀k v,k1.is k v=true→k2.is k v=true){es:List DictEntry}{kvs:List (K×Value)}(h:Pairs k1 es kvs):Pairs k2 es kvs:=by
 induction h with
 |nil=>exact .nil
 |cons a b _ ih=>exact .cons (to _ _ a) b ih
theorem DA.ofS{kvs:List (Str×Value)}(x:h.DictAt (strKind p w) a kvs kvs.length):DA w (fun p=>strKind p w) h a kvs:=
 fun p'=>by obtain⟨o,es,ho,hc,hd,hk,hp,hn⟩:=x;exact⟨o,es,ho,hc,hd,hk,zm (k1:=strKind p w) (k2:=strKind p' w) (fun _ _ q=>q) hp,hn⟩
theorem DA.ex{K:Type}[DecidableEq K]{knd:(p:Program)→KeyKind p w K}{kvs:List (K×Value)}(x:DA w knd h a kvs):∃o,h.get? a=some o:=by obtain⟨o,_,ho,_⟩:=x PG;exact⟨o,ho⟩
theorem x0{A0:Around}{d k:V}{cd ck:Value}{P:Unit→Shared→Prop}(h:Cu O b d k v=some O1)(R:aH w κ F O s.heap)(rd:RV s.heap κ d cd)(rk:RV s.heap κ k ck)(rv:RV s.heap κ v cv)(q:∀s1,dp w b κ O s κ F O1 s1→P () s1):wpAny (MW w) A0 (setItem cd ck cv) P E s:=by
 cases d with
 |ref n=>
  obtain⟨hw,h⟩:=iS h
  unfold Cd at h
  obtain⟨a,rfl,ha⟩:=rd
  cases hO:O[n]? with
  |none=>rw[hO]at h;exact nN h
  |some o=>
   rw[hO]at h
   have r:=R.at' hO ha
   cases o with
   |dS l=>
    obtain⟨kvs,hd,e⟩:=r
    have hl:kvs.length=l.length:=by have:=congrArg length e.1;rwa[length_map,length_map]at this
    cases k with
    |str y=>
     obtain⟨ho,h⟩:=iS h
     obtain rfl:=sI h
     obtain⟨t,rfl⟩:=rk
     refine BL (knd:=strKind PG w) (k:=S y) (beq_self_eq_true (S y)) (hd PG) (hl▸le_trans (aZ ho) (by decide)) fun h' hm' hs'=>?_
     have dm:=DA.ofS hm'
     exact q _ (vX hO ha hw (fun j hv hu=>(gH _).mpr fun x hx=>(zc hx).elim ((gH _).mp hu x) fun e=>e▸hv) R hs' dm.ex fun x=>⟨_,dm,Dp (fun _ _ z=>B7 z) (rM x rv) ⟨e.1,iT x e.2⟩⟩)
    |_=>exact nN h
   |_=>exact nN h
 |_=>exact nN h
end
end
section
variable {h:Heap} {p:FP} {x:Str}
section
variable {w:World} {A:Around} {n b:Nat} {κ κ1:Pl} {F F1:List Fr} {O O1:Oj} {s s1 s':Shared} {env:Env} {J:WI} {E:Value→Shared→Prop} {c:Str} {l0:List Env} {e:Value} {Q:Oj→Prop} {H H1 own own1:List Addr} {L:Addr}
inductive Mi (h:Heap) (H:List Addr) (env:Env):Prop
 |mk (k:env.scope.kind=.function) (L:Addr) (o:Obj) (es:Array DictEntry) (ep:Nat) (f:env.frame=some L) (m:L∈H) (g:h.get? L=some o) (d:o.data=.dict es ep)
noncomputable def vl(h:Heap)(H:List Addr)(l:List Env):Prop:=∀env∈l,Mi h H env
theorem vl.keep{h':Heap}(x:vl h H l0)(k:∀a∈H,a∈H1∧∀o,h.get? a=some o→h'.get? a=some o):vl h' H1 l0:=fun env he=>
 by obtain⟨h1,L,o,es,ep,h2,h3,h4,h5⟩:=x env he;exact⟨h1,L,o,es,ep,h2,(k L h3).1,(k L h3).2 o h4,h5⟩
theorem vl.funs{base:Heap}(hb:∀a∈H,base.get? a=none){l:List Env}:vl h H l→h.FunFrames base l:=by
 induction l with
 |nil=>exact fun _=>trivial
 |cons env l ih=>
  intro x
  obtain⟨h1,L,o,es,ep,h2,h3,h4,h5⟩:=x env (mem_cons_self ..)
  exact⟨by rw[h1];decide,⟨L,o,h2,hb L h3,h4,fun vs q=>nomatch h5.symm.trans q⟩,ih fun env he=>x env (mem_cons_of_mem _ he)⟩
theorem vl.cons(t:St w A n b κ F O s env)(hp:κ.fr=[p])(hf:env.frame=some p.L)(x:vl s.heap H l0):vl s.heap (p.L::H) (env::l0):=fun env' he=>by
 rcases mem_cons.mp he with rfl|he
 ·obtain⟨f,hF⟩:∃f,F[0]? =some f:=by
   cases F with
   |nil=>exact nomatch (hp▸t.rel.flen)
   |cons f r=>exact⟨f,rfl⟩
  refine hG fun _ kk=>?_
  obtain⟨m,⟨o,es,ep,h1,h2,_⟩,_⟩:=(t.rel.frs 0 f p hF (by rw[hp];rfl)).loc
  refine kk ?_
  exact⟨t.env.kind,p.L,o,es,ep,hf,mem_cons_self ..,h1,h2⟩
 ·obtain⟨h1,L,o,es,ep,h2,h3,h4,h5⟩:=x env' he
  exact⟨h1,L,o,es,ep,h2,mem_cons_of_mem _ h3,h4,h5⟩
structure LN (w:World) (c:Str) (κ:Pl) (H own:List Addr) (s:Shared) (l0:List Env) (Q:Oj→Prop) (ad t:Addr) (tk:Tok) (κb:Pl) (Fb:List Fr) (Ob:Oj) (sr:Shared) (D:List Addr) (s':Shared):Prop where
 q:Q Ob
 rel:aH w κb Fb Ob sr.heap
 ext:bj s.heap κ sr.heap κb
 rest:am s sr
 hid:∀a∈H,a∈κb.hid∧∀o,s.heap.get? a=some o→sr.heap.get? a=some o
 dm:∀a∈D,a∈κb.fr.flatMap FP.addrs++κb.hid
 dd:∀a∈D,∃o es ep,sr.heap.get? a=some o∧o.data=.dict es ep
 dn:∀a∈D,(∃env∈l0,env.frame=some a)∨a∈own∨s.heap.get? a=none
 fly:Heap.FlyingW (hideAll sr.heap D) l0 ad (.type "ValueError") (.ref t) s'.heap
 tup:s'.heap.TupAt t [.str c tk]
 up:sr.heap.UpToSlots s'.heap
 rest':am sr s'
inductive kB (w:World) (c:Str) (κ:Pl) (H own:List Addr) (s:Shared) (l0:List Env) (Q:Oj→Prop) (e:Value) (s':Shared):Prop
 |mk (ad t:Addr) (tk:Tok) (κb:Pl) (Fb:List Fr) (Ob:Oj) (sr:Shared) (D:List Addr) (h:e=.ref ad) (z:LN w c κ H own s l0 Q ad t tk κb Fb Ob sr D s')
theorem am.trans{s s1 s2:Shared}(x:am s s1)(y:am s1 s2):am s s2:=⟨y.1.trans x.1,y.2.1.trans x.2.1,y.2.2.trans x.2.2⟩
theorem kB.comp(x:bj s.heap κ s1.heap κ1)(hm:∀a∈κ.mt,∃o,s1.heap.get? a=some o)(q:am s s1)(hH:∀a∈H,a∈H1∧∀o,s.heap.get? a=some o→s1.heap.get? a=some o)(ho:∀a∈own1,a∈own∨s.heap.get? a=none)
 (z:kB w c κ1 H1 own1 s1 l0 Q e s'):kB w c κ H own s l0 Q e s':=by
 refine hG fun _ kk=>?_
 obtain⟨ad,t,tk,κb,Fb,Ob,sr,D,rfl,z⟩:=z
 refine kk ?_
 refine⟨ad,t,tk,κb,Fb,Ob,sr,D,rfl,{ z with
  ext:=x.trans z.ext
  rest:=q.trans z.rest
  hid:=fun a ha=>⟨(z.hid a (hH a ha).1).1,fun o e=>(z.hid a (hH a ha).1).2 o ((hH a ha).2 o e)⟩
  dn:=fun a ha=>(z.dn a ha).imp id fun y=>y.elim (ho a) fun y=>.inr ?_ }⟩
 cases hq:s.heap.get? a with
 |none=>rfl
 |some o=>
  by_cases hk:a∈κ.mt
  ·obtain⟨o',e'⟩:=hm a hk;exact nomatch y.symm.trans e'
  ·exact nomatch y.symm.trans (x.keep a o hq hk)
theorem kB.go{b:Nat}(g:dp w b κ O s κ1 F1 O1 s1)(z:kB w c κ1 κ1.hid own s1 l0 Q e s'):kB w c κ κ.hid own s l0 Q e s':=
 z.comp g.ext (fun a ha=>g.rel.ex a (g.mt ha)) ⟨g.rest.1,g.rest.2.1,g.rest.2.2⟩ (fun a ha=>g.hid a ha) fun a ha=>.inl ha
theorem kB.leave(hfr:A.frames=some (env::l0))(hf:env.frame=some L)(z:kB w c κ H own s (env::l0) Q e s'):wpAny (MW w) A (leaving env e) (fun _ s2=>kB w c κ H (L::own) s l0 Q e s2) E s':=by
 refine hG fun _ kk=>?_
 obtain⟨ad,t,tk,κb,Fb,Ob,sr,D,rfl,z⟩:=z
 refine kk ?_
 refine wpAny_leaves_onW hfr hf z.fly fun h' f1 f2=>⟨ad,t,tk,κb,Fb,Ob,sr,D,rfl,{ z with
  dn:=fun a ha=>?_
  fly:=f1
  tup:=z.tup.of_slots f2
  up:=z.up.trans f2
  rest':=z.rest' }⟩
 rcases z.dn a ha with⟨env',h1,h2⟩|h1|h1
 ·rcases mem_cons.mp h1 with rfl|h1
  ·exact .inr (.inl (Option.some.inj (h2.symm.trans hf)▸mem_cons_self ..))
  ·exact .inl ⟨env',h1,h2⟩
 ·exact .inr (.inl (mem_cons_of_mem _ h1))
 ·exact .inr (.inr h1)
noncomputable def hZ(w:World)(A:Around)(c:Str)(env:Env)(κ:Pl)(s:Shared)(l0:List Env)(L:Addr)(Q:Oj→Prop)(e:Value)(s':Shared):Prop:=wpAny (MW w) A (leaving env e) (fun _ s2=>kB w c κ κ.hid [L] s l0 Q e s2) (fun _ _=>False) s'
theorem hZ.go{b:Nat}(g:dp w b κ O s κ1 F1 O1 s1)(z:hZ w A c env κ1 s1 l0 L Q e s'):hZ w A c env κ s l0 L Q e s':=wpAny_mono z (fun _ _ z=>z.go g) fun _ _ z=>z
theorem jt(t:St w A n b κ F O s env)(h:me F x=true):env.kindOf x=some .globalImplicit:=by
 obtain⟨p,r,hp,T⟩:=t.env.top
 cases F with
 |nil=>exact aj h
 |cons f rF=>exact T.glb x ((t.rel.frs 0 f p rfl (hp▸rfl)).nm▸beq_iff_eq.mp h)
theorem jr{fr:List FP}{T:String}{pos:Pos}{P:Value→Shared→Prop}(B:bI w)(hb:∀a o,(HW w).get? a=some o→s.heap.get? a=some o)(ER:nX w fr env)(hk:env.kindOf x=some .globalImplicit)(h:GG.names.lookup x=some (.cst (.type T)))(hx:jk x=true)(k:P (.type T) s):
 wpAny (MW w) A (eval (.Name x pos) env) P E s:=by
 refine hG fun _ kk=>?_
 obtain⟨mg,mb,n1,n2,n3⟩:=B.globals
 obtain⟨cv,e1,hcv⟩:=n3 x _ h
 have e2:cv=.type T:=by
  have e3:=congrArg (fun v=>match v with
   |V.cst d=>some d
   |_=>none) e1
  cases cv<;>first|exact(sI e3).symm|cases e3
 subst e2
 refine kk ?_
 have g1:s.heap.Ns env.globals mg:=ER.glob▸n1.keeps hb
 have g2:s.heap.Ns env.builtins mb:=ER.blt▸n2.keeps hb
 refine wpAny_Name ?_ (jL hx).1
 rw[loadName]
 simp only[Env.blockKind,ER.kind,hk,ScopeKind.isAnnotationScope,Bool.false_and,false_eq_true,if_false]
 exact hcv.elim (fun e=>Calls.loadGlobal_global g1 e k) fun e=>Calls.loadGlobal_builtin g1 e.1 g2 e.2 k
theorem iU{e:Expr}{t:Option Expr}{line:Nat}(h:fI e=true):swapsWith e t line env=pure false:=by
 cases e<;>first|rfl|exact aj h
theorem rA(B:bI w){q0 p1 p2 p3:Pos}{k:Nat}(hg:me F ("ValueError":Str)=true)(hn:GG.names.lookup ("ValueError":Str)=some (.cst (.type "ValueError")))(t:St w A n b κ F O s env)(hp:κ.fr=[p])(hf:env.frame=some p.L)(hfr:A.frames=some (env::l0))(fs:vl s.heap κ.hid l0)(q:Q O):
 wpAny (MW w) A (exec (.Raise (some (.Call (.Name ("ValueError":Str) q0) [.Constant (.str c) k p1] [] p2)) none p3) env) (fun _ _=>False) (hZ w A c env κ s l0 p.L Q) s:=by
 refine Raise_madeB PySem.F.excCall_ValueError PySem.F.excRaise_ValueError t.ok.hd (jr B t.rel.base t.env (jt t hg) hn (by decide) ⟨rfl,wpAny_items_cons (wpAny_Constant_str (wpAny_items_nil ⟨by rw[sizeLine_eq];exact le_trans (show 1≤1 from le_refl 1) (by decide),fun h' e x=>?_⟩))⟩)
 have fa:=vl.cons t hp hf fs
 have hD:∀a∈p.L::κ.hid.filter (fun a=>(l0.filterMap (·.frame)).contains a),a∈p.L::κ.hid:=fun a ha=>(mem_cons.mp ha).elim (fun e=>e▸mem_cons_self ..) fun ha=>mem_cons_of_mem _ (mem_filter.mp ha).1
 have fb:vl s.heap (p.L::κ.hid.filter (fun a=>(l0.filterMap (·.frame)).contains a)) (env::l0):=fun env' he=>by
  refine hG fun _ kk=>?_
  obtain⟨h1,L,o,es,ep,h2,h3,h4,h5⟩:=fa env' he
  refine kk ?_
  refine⟨h1,L,o,es,ep,h2,?_,h4,h5⟩
  rcases mem_cons.mp he with rfl|he
  ·exact Option.some.inj (hf.symm.trans h2)▸mem_cons_self ..
  ·refine(mem_cons.mp h3).elim (fun e=>e▸mem_cons_self ..) fun h3=>mem_cons_of_mem _ (mem_filter.mpr ⟨h3,contains_iff_mem.mpr (List.mem_filterMap.mpr ⟨env',he,h2⟩)⟩)
 unfold hZ
 refine wpAny_leaves_madeW (base:=hideAll s.heap (p.L::κ.hid.filter (fun a=>(l0.filterMap (·.frame)).contains a))) (h:=s.heap) hfr hf (fun b o e=>of_hideAll _ e) (fb.funs fun a ha=>hideAll_none _ ha) ⟨x.keeps,x.new,x.there⟩ fun h2 t2 f1 f2 f3 f4=>⟨e,t2,_,κ,F,O,s,p.L::κ.hid.filter (fun a=>(l0.filterMap (·.frame)).contains a),rfl,{
  q:=q
  rel:=t.rel
  ext:=bj.refl _ _
  rest:=⟨rfl,rfl,rfl⟩
  hid:=fun a ha=>⟨ha,fun o e=>e⟩
  dm:=fun a ha=>(mem_cons.mp (hD a ha)).elim (fun e=>mem_append_left _ (by rw[hp,e];exact mem_append_left _ (mem_cons_self ..))) fun h=>mem_append_right _ h
  dd:=fun a ha=>?_
  dn:=fun a ha=>?_
  fly:=f1
  tup:=f2
  up:=(Heap.UpToSlots.of_keeps x.keeps).trans f4
  rest':=⟨rfl,rfl,rfl⟩ }⟩
 ·rcases mem_cons.mp ha with rfl|ha
  ·obtain⟨_,L,o,es,ep,h2,_,h4,h5⟩:=fa env (mem_cons_self ..)
   exact⟨o,es,ep,Option.some.inj (hf.symm.trans h2)▸h4,h5⟩
  ·obtain⟨env',he,hq⟩:=List.mem_filterMap.mp (contains_iff_mem.mp (mem_filter.mp ha).2)
   refine hG fun _ kk=>?_
   obtain⟨_,L,o,es,ep,h2,_,h4,h5⟩:=fs env' he
   refine kk ?_
   exact⟨o,es,ep,Option.some.inj (hq.symm.trans h2)▸h4,h5⟩
 ·rcases mem_cons.mp ha with rfl|ha
  ·exact .inr (.inl (mem_cons_self ..))
  ·obtain⟨env',he,hq⟩:=List.mem_filterMap.mp (contains_iff_mem.mp (mem_filter.mp ha).2)
   exact .inl ⟨env',he,hq⟩
end
end
section
variable {Bd:List Stmt→List Fr→Nat→(Oj→Prop)→Oj→Prop}
section
variable {w:World} {A:Around} {n m b:Nat} {κ κ1:Pl} {F F1:List Fr} {O O1:Oj} {s s1 s':Shared} {env:Env} {J:WI} {E:Value→Shared→Prop} {c:Str} {l0:List Env} {e:Value} {Q:Oj→Prop} {p:FP}
theorem Ok.le(h:Ok A n)(k:m≤n):Ok A m:=⟨le_trans (add_le_add_left k _) h.dep,le_trans (add_le_add_left (mul_le_mul_left 10 k) _) h.uni,h.hd,h.fr⟩
theorem iL:d6 w 1 WI.bot:=⟨zero_le _,fun h=>h.elim,fun h=>h.elim,fun h=>h.elim,fun h=>h.elim,fun h=>h.elim,fun h=>h.elim⟩
theorem tx(B:bI w)(Op:uF w)(M:nU w):d6 w 2 (J1 GG):=
 ⟨le_succ _,fun h t=>cX B Op M iL h t,fun h t=>kD B Op M iL h t,fun h t=>gY Op iL (fun h=>cX B Op M iL h t) h t,fun h=>h.elim,fun h=>h.elim,fun h=>h.elim⟩
noncomputable abbrev t9(w:World)(n:Nat)(c:Str)(Bd:List Stmt→List Fr→Nat→(Oj→Prop)→Oj→Prop):Prop:=∀{A body κ F O s env l0 b p Q},Bd body F b Q O→St w A n b κ F O s env→κ.fr=[p]→env.frame=some p.L→A.frames=some (env::l0)→vl s.heap κ.hid l0→
 wpAny (MW w) A (execs body env) (fun _ _=>False) (hZ w A c env κ s l0 p.L Q) s
theorem Fm(B:bI w)(Op:uF w)(M:nU w)(hn:3≤n):t9 w n c (fun l F b Q O=>R2 GG F b Q O c l):=fun {A body κ F O s env l0 b p Q} h t hp hf hfr fs=>by
 obtain⟨h1,h2,h⟩:=h
 have t3:St w A 3 b κ F O s env:={ t with ok:=t.ok.le hn }
 refine wpAny_execs_cons (wpAny_If (aG.seq (gY Op (tx B Op M) (fun h=>cX B Op M (tx B Op M) h t3) h t3) fun {u κ1 O1 cb s1} q g r=>?_))
 obtain⟨rfl,q⟩:=q
 cases r
 exact wpAny_execs_cons (wpAny_mono (rA B h1 h2 (t.next g) (g.frs.trans hp) hf hfr (fs.keep g.hid) q) (fun _ _ z=>z.elim) fun _ _ z=>z.go g)
theorem Fj(B:bI w)(hB:t9 w n c Bd){v:V}{a:List V}{ks:List (Str×V)}{cf:Value}{ca:List Value}{cks:List (Str×Value)}(h:RF GG Q O Bd a ks v)(ok:Ok A (n+1))(R:aH w κ F O s.heap)
 (rf:RV s.heap κ v cf) (Ra:ag s.heap κ a ca) (Rk:fk s.heap κ ks cks) (hfr:A.frames=some l0) (fs:vl s.heap (κ.fr.flatMap FP.addrs++κ.hid) l0):wpAny (MW w) A (call cf ca cks) (fun _ _=>False) (fun e s'=>kB w c κ (κ.fr.flatMap FP.addrs++κ.hid) [] s l0 Q e s') s:=by
 refine hG fun _ kk=>?_
 obtain⟨h⟩:=h
 cases rf
 obtain⟨fi,h1,h⟩:=Lf.out h
 obtain⟨vars,h2,h⟩:=h.out
 obtain⟨hch,hx⟩:=h.out
 obtain⟨okv,hnf⟩:=aB hch
 obtain⟨o,fd,K⟩:=B.fns ad fi h1
 refine kk ?_
 refine wpAny_call (codeAny_call_function ok.room (R.base _ _ K.get) K.data (K.scope.symm▸K.cor) (K.scope.symm▸K.gen) K.body (K.crec.keeps R.base) ?_)
 refine dj (K.params.symm▸h2) Ra Rk ?_ ?_ fun binds kb=>?_
 ·exact K.dfl.imp id fun x9=>(by obtain⟨t,aA,q1,⟨ot,hot,r⟩,q3⟩:=x9;exact⟨t,aA,q1,⟨ot,R.base _ _ hot,r⟩,q3▸vu _⟩)
 ·refine K.kwd.imp id fun⟨d,m,q1,q2,q3⟩=>⟨d,m,q1,q2.keeps R.base,fun x=>?_⟩
  rw[←q3]
  cases m x with
  |none=>trivial
  |some cv=>exact iA _ _ _
 refine Eq.symm (K.glob)▸Eq.symm (K.blt)▸Eq.symm (K.clos)▸Eq.symm (K.scope)▸?_
 refine g0 (A:=A) (n:=n) (up:=0) R nofun (fun env=>ok.deeper) ok.dn K.kind kb okv (dk h2) hnf (fun _=>K.code) fun {env' s1 p} t x q kh=>⟨B.nolimit.keeps t.rel.base,codeAny_func (wpAny_mono (hB hx t rfl (t.stk p rfl).1 (Around.frames_deeper hfr) (fs.keep fun a ha=>⟨ha,kh a ha⟩)) (fun _ _ z=>z.elim) fun e s2 z=>wpAny_mono z (fun _ s3 z=>?_) fun _ _ z=>z.elim)⟩
 have nd:=t.rel.nd
 rw[Pl.in_mt]at nd
 exact z.comp x (fun a ha=>t.rel.ex a (by rw[Pl.in_mt];exact mem_append_right _ ha)) q (fun a ha=>⟨ha,kh a ha⟩) fun a ha=>.inr (by
  obtain rfl:=mem_singleton.mp ha
  exact x.fresh _ (by rw[Pl.in_mt];exact mem_append_left _ (mem_cons_self ..)) fun hm=>(nodup_append.mp nd).2.2 _ (mem_cons_self ..) _ hm rfl)
theorem zY(B:bI w)(S:d6 w n J)(hB:t9 w m c Bd){Rr:V→List V→List (Str×V)→(Oj→Prop)→Oj→Prop}{P:Oj→Oj→Prop}(hR:∀{v a k O},Rr v a k Q O→RF GG (P O) O Bd a k v)
 {ex:Expr} (h:RC GG J F b Q O Rr ex) (t:St w A n b κ F O s env) (ok:Ok A (m+1)) (hp:κ.fr=[p]) (hf:env.frame=some p.L) (hfr:A.frames=some (env::l0)) (fs:vl s.heap κ.hid l0):
 fI ex=true∧wpAny (MW w) A (eval ex env) (fun _ _=>False) (fun e s'=>∃κ1 O1 s1,dp w b κ O s κ1 F O1 s1∧kB w c κ1 (κ1.fr.flatMap FP.addrs++κ1.hid) [] s1 (env::l0) (P O1) e s') s:=by
 obtain⟨h⟩:=h
 obtain⟨hcond,h2⟩:=Gd.out h
 clear h
 obtain⟨hs,hk⟩:=aB hcond
 refine⟨rfl,wpAny_Call_ofName (aG.seq (S.e h2 t) fun {fv κ1 O1 cf s1} q g r=>?_)⟩
 obtain⟨hv,q⟩:=q.out
 have t1:=t.next g
 cases fv with
 |cst d=>cases d with
  |ref ad=>
   obtain⟨fi,hfi⟩:=isSome_iff_exists.mp hv
   obtain⟨o,fd,K⟩:=B.fns ad fi hfi
   cases r
   refine callWith_function_kw (o:=o) (fd:=fd) (qK hs (pD _ hk) (aG.seq (bh S.e q hs t1) fun q g2 r2=>aG.seq (ny S _ q (t1.next g2)) fun {vs κ3 O3 cvs s3} q3 g3 r3=>?_))
   have g4:=g.trans (g2.trans g3)
   have t3:=(t1.next g2).next g3
   have hp3:=g4.frs.trans hp
   exact⟨⟨g4.rel.base _ _ K.get,K.data⟩,wpAny_mono (Fj B hB (hR q3) ok t3.rel rfl (iT g3.ext r2.1) r3 hfr ((vl.cons t3 hp3 hf (fs.keep g4.hid)).keep fun a ha=>⟨(mem_cons.mp ha).elim (fun e=>mem_append_left _ (by rw[hp3,e];exact mem_append_left _ (mem_cons_self ..))) fun h=>mem_append_right _ h,fun o e=>e⟩)) (fun _ _ z=>z) fun _ _ z=>⟨κ3,O3,s3,g4,z⟩⟩
  |_=>exact aj hv
 |_=>exact aj hv
theorem Fk(B:bI w)(Op:uF w)(M:nU w)(S:d6 w (m+1) J)(hm:3≤m):t9 w (m+1) c (fun l F b Q O=>RA GG J F b Q O c l):=fun {A body κ F O s env l0 b p Q} h t hp hf hfr fs=>by
 obtain⟨h⟩:=h
 obtain⟨h1,h2⟩:=zY (P:=fun _=>Q) B S (Fm (c:=c) B Op M hm) (fun q=>q) h t t.ok hp hf hfr fs
 refine wpAny_execs_cons (wpAny_Assign_Name (wpAny_mono h2 (fun _ _ z=>z.elim) fun e s2 z=>?_) (iU h1))
 obtain⟨κ1,O1,s1,g,z⟩:=z
 exact wpAny_mono (kB.leave hfr hf z) (fun _ s3 z=>z.comp g.ext (fun a ha=>g.rel.ex a (g.mt ha)) ⟨g.rest.1,g.rest.2.1,g.rest.2.2⟩ (fun a ha=>⟨mem_append_right _ (g.hid a ha).1,(g.hid a ha).2⟩) fun a ha=>.inl ha) fun _ _ z=>z
theorem Fo(B:bI w)(Op:uF w)(M:nU w)(S:d6 w (m+1) J)(hm:3≤m):t9 w (m+1) c (fun l F b Q O=>R1 GG J F b Q O c l):=fun {A body κ F O s env l0 b p Q} h t hp hf hfr fs=>by
 obtain⟨h⟩:=h
 refine wpAny_execs_cons (wpAny_If (aG.seq (S.t h t) fun {u κ1 O1 cb s1} q g r=>?_))
 cases r
 have k:∀{l r},RA GG J F b Q O1 c l→wpAny (MW w) A (execs l env) (fun f s'=>match f with|.next=>wpAny (MW w) A (execs r env) (fun _ _=>False) (hZ w A c env κ s l0 p.L Q) s'|f=>False) (hZ w A c env κ s l0 p.L Q) s1:=fun q=>wpAny_mono (Fk B Op M S hm q (t.next g) (g.frs.trans hp) hf hfr (fs.keep g.hid)) (fun _ _ z=>z.elim) fun _ _ z=>z.go g
 cases u with
 |true=>exact k q
 |false=>exact k q
theorem LN.land{f:Fr}{ad tt:Addr}{tk:Tok}{κb:Pl}{Fb:List Fr}{Ob:Oj}{sr s8:Shared}{D:List Addr}(z:LN w c κ1 (κ1.fr.flatMap FP.addrs++κ1.hid) [] s1 [env] Q ad tt tk κb Fb Ob sr D s')(hO:Ob=O1)(R1:aH w κ1 [f] O1 s1.heap)(hp:κ1.fr=[p])(hf:env.frame=some p.L)
 (st:∀a o,(hideAll sr.heap D).get? a=some o→s8.heap.get? a=some o) (ex:∀a∈D,∃o,s8.heap.get? a=some o) (hm8:∀m,s1.heap.Ns p.L m→∃m8,s8.heap.Ns p.L m8∧∀x v,f.get x=some v→m8 x=m x) (rest:am s1 s8):∃κ',dp w b κ1 O1 s1 κ' [f] O1 s8:=by
 subst hO
 have obE:κ1.ob=κb.ob:=z.ext.pre.eq_of_length (R1.len.trans z.rel.len.symm)
 have Dm:∀a∈D,a∈κb.mt:=fun a ha=>by
  rw[Pl.mt, ←append_assoc];exact mem_append_left _ (z.dm a ha)
 have nb:=z.rel.nd
 rw[Pl.mt, ←append_assoc]at nb
 have n1:=R1.nd
 rw[Pl.mt]at n1
 have Dob:∀c∈κ1.ob,c.addr∉D:=fun c hc hD=>(nodup_append.mp nb).2.2 _ (z.dm _ hD) _ (mem_map_of_mem (obE▸hc)) rfl
 have keep:∀a o,sr.heap.get? a=some o→a∉D→s8.heap.get? a=some o:=fun a o e hn=>st a o (hideAll_get _ e hn)
 have Df:∀a∈D,a∈κ1.fr.flatMap FP.addrs∨s1.heap.get? a=none:=fun a ha=>(z.dn a ha).elim (fun x9=>(by obtain⟨env',h1,h2⟩:=x9;exact .inl (by
  clear z
  obtain rfl:=mem_singleton.mp h1
  obtain rfl:=sI (hf.symm.trans h2)
  rw[hp];exact mem_append_left _ (mem_cons_self ..)))) fun h=>.inr (h.elim (fun h=>nomatch h) id)
 have bM:∀a∈(Pl.mt ⟨κ1.fr,κ1.ob,(κb.fr.flatMap FP.addrs++κb.hid).filter fun a=> !(κ1.fr.flatMap FP.addrs).contains a⟩),a∈κb.mt:=fun a ha=>by
  rcases mem_append.mp ha with h|h
  ·exact Pl.mt_hid (z.hid a (mem_append_left _ h)).1
  ·rw[Pl.mt, ←append_assoc]
   rcases mem_append.mp h with h|h
   ·exact mem_append_left _ (mem_filter.mp h).1
   ·exact mem_append_right _ (obE▸h)
 have X2:bj sr.heap κb s8.heap ⟨κ1.fr,κ1.ob,(κb.fr.flatMap FP.addrs++κb.hid).filter fun a=> !(κ1.fr.flatMap FP.addrs).contains a⟩:=⟨obE▸prefix_rfl,fun a o e hn=>keep a o e fun hD=>hn (Dm a hD),fun a hm hn=>absurd (bM a hm) hn⟩
 have X:=z.ext.trans X2
 refine⟨⟨κ1.fr,κ1.ob,(κb.fr.flatMap FP.addrs++κb.hid).filter fun a=> !(κ1.fr.flatMap FP.addrs).contains a⟩,⟨{
  len:=R1.len
  flen:=R1.flen
  base:=fun a o e=>keep a o (z.rel.base a o e) fun hD=>nomatch (z.rel.off a (Dm a hD)).symm.trans e
  off:=fun a ha=>z.rel.off a (bM a ha)
  nd:=?_
  ex:=fun a ha=>?_
  objs:=fun i o c e e'=>eL X2 (fun ob q=>keep _ ob q (Dob c (mem_of_getElem? e'))) (z.rel.objs i o c e (obE▸e'))
  frs:=fun i f' p' e e'=>?_
  tab:=R1.tab },X,rfl,rest,bv.refl _ _,fun a ha=>⟨mem_filter.mpr ⟨mem_append_right _ (z.hid a (mem_append_right _ ha)).1,?_⟩,fun o e=>?_⟩⟩⟩
 ·refine nodup_append.mpr ⟨(nodup_append.mp n1).1,nodup_append.mpr ⟨((nodup_append.mp nb).1).sublist List.filter_sublist,(nodup_append.mp (nodup_append.mp n1).2.1).2.1,fun a ha c hc q=>?_⟩,fun a ha c hc q=>?_⟩
  ·exact(nodup_append.mp nb).2.2 a (mem_filter.mp ha).1 c (obE▸hc) q
  ·subst q
   rcases mem_append.mp hc with h|h
   ·exact absurd (contains_iff_mem.mpr ha) (by simpa using(mem_filter.mp h).2)
   ·exact(nodup_append.mp n1).2.2 a ha a (mem_append_right _ h) rfl
 ·by_cases hD:a∈D
  ·exact ex a hD
  ·obtain⟨o,ho⟩:=z.rel.ex a (bM a ha);exact⟨o,keep a o ho hD⟩
 ·have hp0:κ1.fr[0]? =some p:=by rw[hp];rfl
  cases i with
  |succ i=>exact nomatch e
  |zero=>
   obtain rfl:=sI e
   obtain rfl:=sI (hp0.symm.trans e')
   have fr:=R1.frs 0 f p rfl hp0
   exact {
    nm:=fr.nm
    lm:=fr.lm
    loc:=by
     obtain⟨m,hm,hl⟩:=fr.loc
     obtain⟨m8,k1,k2⟩:=hm8 m hm
     refine⟨m8,k1,fun x hx=>?_⟩
     have:=hl x hx
     cases hv:f.get x with
     |none=>trivial
     |some v=>rw[hv]at this;rw[k2 x v hv];exact fj X this
    cell:=fun x hx=>by
     obtain⟨a,cv,h1,⟨o,ho,hd⟩,h3⟩:=fr.cell x hx
     have ha:a∈κ1.fr.flatMap FP.addrs:=by rw[hp];exact mem_append_left _ (mem_cons_of_mem _ (mem_map_of_mem (cZ h1)))
     have hs:=(z.hid a (mem_append_left _ ha)).2 o ho
     refine⟨a,cv,h1,⟨o,keep a o hs fun hD=>?_,hd⟩,fj X h3⟩
     obtain⟨o',es,ep,e1,e2⟩:=z.dd a hD
     obtain rfl:=sI (hs.symm.trans e1)
     exact nomatch hd.symm.trans e2
    up:=fr.up
    clo:=fun cl hc=>pC X (fun r q=>q) (fr.clo cl hc) }
 ·rw[not_eq_true']
  refine Bool.eq_false_iff.mpr fun h=>(nodup_append.mp n1).2.2 a (contains_iff_mem.mp h) a (mem_append_left _ ha) rfl
 ·refine keep a o ((z.hid a (mem_append_right _ ha)).2 o e) fun hD=>?_
  rcases Df a hD with h|h
  ·exact(nodup_append.mp n1).2.2 a h a (mem_append_left _ ha) rfl
  ·exact nomatch h.symm.trans e
end
end
section
variable {nm:Str}
section
variable {w:World} {A:Around} {n m b:Nat} {κ κ1:Pl} {F F1:List Fr} {O O1:Oj} {s s1 s':Shared} {env:Env} {J:WI} {E:Value→Shared→Prop} {c:Str} {l0:List Env} {e:Value} {Q:Oj→Prop} {p:FP}
theorem zN{q1 q2 p1 p2 p3:Pos}{k:Nat}{ad tt:Addr}{tk:Tok}{mm:Str→Option Value}{P:Bool→Shared→Prop}(B:bI w){fr:List FP}(hb:∀a o,(HW w).get? a=some o→s.heap.get? a=some o)(ER:nX w fr env)(hk:env.kindOf ("str":Str)=some .globalImplicit)(hn:GG.names.lookup ("str":Str)=some (.cst (.type "str")))
 (hl:env.kindOf nm=some .local) (hm:s.heap.Ns env.locals mm) (hv:mm nm=some (.ref ad)) (hok:jk nm=true) (hu:A.units+2<cLine) (x:s.heap.ExcAt ad "ValueError" (.ref tt)) (ht:s.heap.TupAt tt [.str c tk]) (q:∀k,P false { s with toks:=k }):
 wpAny (MW w) A (isTrue (.Compare (.Call (.Name ("str":Str) q1) [.Name nm q2] [] p1) [.NotEq] [.Constant (.str c) k p2] p3) env (eval (.Compare (.Call (.Name ("str":Str) q1) [.Name nm q2] [] p1) [.NotEq] [.Constant (.str c) k p2] p3) env)) P E s:=by
 show wpAny _ A (do testChain p3 (←eval (.Call (.Name ("str":Str) q1) [.Name nm q2] [] p1) env) [.NotEq] (markedEach [.NotEq] [.Constant (.str c) k p2] (evalEach [.Constant (.str c) k p2] env))) _ E s
 refine wpAny_bind (wpAny_Call_ofName (jr B hb ER hk hn (by decide) (PySem.callWith_type (bT [.Name nm q2] rfl) (ja (es:=[.Name nm q2]) rfl (wpAny_items_cons (wpAny_Name (wpAny_loadName_local ER.kind hl hm hv (wpAny_items_nil (PySem.P.str_of_exc_one PySem.F.excStr_ValueError hu x ht ?_))) (jL hok).1))))))
 show wpAny (MW w) A (do
  let rv ←holding [.str c tk] (eval (.Constant (.str c) k p2) env)
  standAt p3
  let v ←operate [.str c tk,rv] (compareOp .NotEq (.str c tk) rv)
  holding [v] (truthy v)) _ E s
 refine wpAny_bind (wpAny_holding (wpAny_Constant_str (wpAny_bind (wpAny_standAt (wpAny_bind (wpAny_operateT ?_))))))
 refine SeqAt.RcNeAt.str_str c tk c _ PG w E _ ?_
 rw[beq_self_eq_true]
 exact wpAny_holding fun _ _ _=>q _
theorem zM(h:EI F nm=true):∃f,F=[f]∧(jk nm&&f.up==1&&f.names.lookup nm==some .local&&(f.get nm).isNone)=true:=by
 cases F with
 |nil=>exact aj h
 |cons f r=>cases r with
  |nil=>exact⟨f,rfl,h⟩
  |cons=>exact aj h
theorem xg(B:bI w)(Op:uF w)(M:nU w)(S:d6 w n J){body:List Stmt}{hs:List ExceptHandler}{pos:Pos}{Q:Fl→List Fr→Oj→Prop}(h:LJ GG J F b Q O body hs)(t:St w A n b κ F O s env)(ok:Ok A (n+1)):wpAny (MW w) A (exec (.Try body hs [] [] pos) env) (dQ w b κ O s Q) ba s:=by
 obtain⟨h⟩:=h
 obtain⟨hc,hn1,hn2,h4⟩:=Gd.out h
 clear h
 obtain⟨hc,hlv⟩:=aB hc
 obtain⟨hc,hg2⟩:=aB hc
 obtain⟨htu,hg1⟩:=aB hc
 clear hc
 have hlv:9≤n:=le_trans (of_decide_eq_true hlv) S.lv
 obtain⟨f,rfl,htu⟩:=zM htu
 refine hG fun _ kk=>?_
 obtain⟨htu,hnone⟩:=aB htu
 obtain⟨htu,hloc⟩:=aB htu
 obtain⟨hok,hup⟩:=aB htu
 obtain⟨p,r0,hp0,T⟩:=t.env.top
 have hp:κ.fr=[p]:=by
  have:=t.rel.flen
  rw[hp0]at this ⊢
  rw[List.length_eq_zero_iff.mp (Nat.succ.inj this)]
 have fr0:=t.rel.frs 0 f p rfl (by rw[hp];rfl)
 obtain⟨hf,l,hfr,hl0⟩:=t.stk p hp
 obtain rfl:=hl0 (fr0.up.symm.trans (eq_of_beq hup))
 have kl:env.kindOf nm=some .local:=T.loc nm (fr0.nm▸beq_iff_eq.mp hloc)
 obtain⟨m,rfl⟩:∃m,n=m+1:=⟨n-1,((Nat.sub_add_cancel (le_trans (by decide) hlv)).symm)⟩
 obtain⟨k1,k2⟩:=zY (m:=m+1) (P:=fun O3 O4=>O4=O3∧Q .next [f] O3) B S (Fo (c:=c) B Op M S (le_trans (by decide) (Nat.le_of_succ_le_succ hlv))) (fun q=>q) h4 t ok hp hf hfr (fun env he=>nomatch he)
 refine kk ?_
 refine wpAny_Try_except (wpAny_execs_cons (wpAny_Expr (wpAny_mono k2 (fun _ _ z=>z.elim) fun e s' z=>?_) (by unfold interactive;rw[t.env.kind];rfl) (iU k1)))
 refine hG fun _ kk=>?_
 obtain⟨κ1,O1,s1,g,ad,tt,tk,κb,Fb,Ob,sr,D,rfl,z⟩:=z
 refine kk ?_
 have t1:=t.next g
 have hp1:=g.frs.trans hp
 have L1:p.L∈κ1.fr.flatMap FP.addrs:=by rw[hp1];exact mem_append_left _ (mem_cons_self ..)
 refine wpAny_looks_onW hfr hf z.fly fun h4 f4 u4=>?_
 refine wpAny_landsW f4 fun h5 f5 u5=>?_
 have nD:∀{a o},(HW w).get? a=some o→a∉D:=fun e hD=>nomatch (z.rel.off _ (by rw[Pl.mt, ←append_assoc];exact mem_append_left _ (z.dm _ hD))).symm.trans e
 have base:∀{h},(hideAll sr.heap D).StaysIn h→∀a o,(HW w).get? a=some o→h.get? a=some o:=fun k a o e=>k a o (hideAll_get _ (z.rel.base a o e) (nD e))
 obtain⟨ob,hob,hobc⟩:=f5.there
 refine wpAny_handleBy_builtin_as (X:="ValueError") (T:="ValueError") (b:=true) PySem.F.isExc_ValueError PySem.F.notTuple_ValueError (by rw[isSubtype_type];kernel_rfl) (jr B (base f5.1) t.env (jt t hg1) hn1 (by decide) ⟨rfl,⟨ob,hob,hobc⟩,?_⟩)
 refine lands_againW f5 fun h6 f6 u6=>?_
 have U:=z.up.trans (u4.trans (u5.trans u6))
 refine hG fun _ kk=>?_
 obtain⟨m1,⟨oL,es,ep',g1,g2,g3⟩,_⟩:=(t1.rel.frs 0 f p rfl (by rw[hp1];rfl)).loc
 refine kk ?_
 have gL:=(z.hid p.L (mem_append_left _ L1)).2 oL g1
 have n6:h6.Ns env.locals m1:=T.L.symm▸U.ns ⟨oL,es,ep',gL,g2,g3⟩
 have hpf:(env.scope.kind== .class||(env.scope.kind== .module&&env.locals != env.globals))=false:=by rw[t.env.kind];rfl
 refine wpAny_storeName_local kl n6 (fun h7 n7 b7=>?_) hpf
 refine hG fun _ kk=>?_
 obtain⟨oe,ws,he1,he2,he3,he4⟩:=f6.first
 obtain⟨ot,nt,ht1,ht2,ht3⟩:=z.tup.of_slots (u4.trans (u5.trans u6))
 obtain⟨slL,hL6⟩:=U p.L oL gL fun vs q=>nomatch g2.symm.trans q
 refine kk ?_
 have other:∀{a o},h6.get? a=some o→(∀es ep,o.data≠ .dict es ep)→h7.get? a=some o:=fun {a o} e hd=>(b7.2 a (fun q=>by
  rw[T.L]at q
  subst q
  obtain rfl:=sI (hL6.symm.trans e)
  exact hd _ _ g2)).trans e
 have e7:=other he1 fun es ep q=>nomatch he3.symm.trans q
 have t7:=other ht1 fun es ep q=>nomatch ht3.symm.trans q
 have keep7:∀a o,(hideAll sr.heap D).get? a=some o→a≠p.L→h7.get? a=some o:=fun a o e hn=>(b7.2 a (T.L.symm▸hn)).trans (f6.1 a o e)
 have LD:p.L∈D:=Classical.byContradiction fun hn=>by
  obtain⟨_,⟨L',o',x1,x2,_⟩,_⟩:=f6.2.2.1
  obtain rfl:=sI (hf.symm.trans x1)
  exact nomatch (hideAll_get D gL hn).symm.trans x2
 have neL:∀{a o},(hideAll sr.heap D).get? a=some o→a≠p.L:=fun {a o} e q=>by
  subst q
  exact nomatch (hideAll_none D LD).symm.trans e
 refine wpAny_execs_cons (wpAny_If (zN (mm:=fun x=>if x=nm then some (.ref ad)else m1 x) B (fun a o e=>keep7 a o (hideAll_get _ (z.rel.base a o e) (nD e)) (neL (hideAll_get D (z.rel.base a o e) (nD e)))) t.env (jt t hg2) hn2 kl n7 (if_pos rfl) hok ?_ ⟨oe,ws,e7,he2,he3,he4⟩ ⟨ot,nt,t7,ht2,ht3⟩ fun tk'=>?_))
 ·exact lt_of_le_of_lt (le_trans (add_le_add_left (by decide:2≤10*1) _) (ok.le (le_add_left 1 _)).uni) (by decide)
 refine wpAny_execs_nil (wpAny_execs_nil ?_)
 refine wpAny_nameGoes_keeps kl n7 hpf fun h8 v8 n8 b8=>?_
 have hD8:∀a∈D,∃o,h8.get? a=some o:=fun a ha=>by
  by_cases q:a=p.L
  ·obtain⟨o8,_,_,w1,_⟩:=n8
   exact⟨o8,q▸T.L▸w1⟩
  ·obtain⟨o,es',ep2,w1,w2⟩:=z.dd a ha
   obtain⟨sl,w3⟩:=U a o w1 fun vs q=>nomatch w2.symm.trans q
   exact⟨_,(b8.2 a (T.L.symm▸q)).trans ((b7.2 a (T.L.symm▸q)).trans w3)⟩
 have hm8:∀mx,s1.heap.Ns p.L mx→∃m8,h8.Ns p.L m8∧∀x v,f.get x=some v→m8 x=mx x:=fun mx hx=>by
  refine⟨_,T.L▸n8,fun x v hv=>?_⟩
  have hne:x≠nm:=fun q=>by
   rw[←q,hv]at hnone
   exact aj hnone
  refine hG fun _ kk=>?_
  obtain⟨o',es',ep2,w1,w2,w3⟩:=hx
  obtain rfl:=sI (g1.symm.trans w1)
  refine kk ?_
  injection g2.symm.trans w2 with h9 h8;subst h9 h8
  show(if x=nm then v8 else if x=nm then some (Value.ref ad)else m1 x)=mx x
  rw[if_neg hne,if_neg hne, ←g3.2, ←w3.2]
 obtain⟨κ',g8⟩:=z.land (s8:={ s' with heap:=h8,toks:=tk'+1 }) z.q.1 t1.rel hp1 hf (fun a o e=>(b8.2 a (T.L.symm▸neL e)).trans (keep7 a o e (neL e))) hD8 hm8 (z.rest.trans ⟨z.rest'.1,z.rest'.2.1,z.rest'.2.2⟩)
 exact .mk z.q.2 (g.trans g8) rfl
end
end
section
variable {e:Expr} {x:Str} {p pos:Pos} {Q:Fl→List Fr→Oj→Prop} {sw:Option (List Str)} {ts:List Expr} {k:Nat} {f:V} {a:List V} {ks:List (Str×V)} {cf:Value} {ca:List Value} {cks:List (Str×Value)}
structure HD (w:World):Prop where
 del:∀{A s κ F O O1 b v k cl ck} {P:Unit→Shared→Prop},yk O v k=some O1→Ok A 1→aH w κ F O s.heap→RV s.heap κ v cl→RV s.heap κ k ck→(∀s1,dp w b κ O s κ F O1 s1→P () s1)→wpAny (MW w) A (delItem cl ck) P ba s
section
variable {w:World} {A:Around} {n b m:Nat} {κ κ1 κ2:Pl} {F F1 F2:List Fr} {O O1 O2 OF:Oj} {s s1 s2:Shared} {env:Env} {J:WI} {E:Value→Shared→Prop}
theorem gA(h:fI e=true)(t:Option Expr)(line:Nat):swapsWith e t line env=pure false:=by
 cases e<;>first|rfl|exact aj h
theorem fD(S:d6 w n J)(h:Gd (fI e) (J.e e F b (fun v O1=>Lf (bn F x v) fun F1=>Q .next F1 O1) O))(t:St w A n b κ F O s env):wpAny (MW w) A (exec (.Assign [.Name x p] e pos) env) (dQ w b κ O s Q) ba s:=
 wpAny_Assign_Name (aG.seq (S.e h.out.2 t) fun q g r=>(by obtain⟨_,h1,q⟩:=q.out;exact bB (t.next g) h1 r fun s1 g2=>.mk q (g.trans g2) rfl)) (gA h.out.1 _ _)
theorem ku(B:bI w)(S:d6 w n J){q:Pos}{elt:Expr}{gs:List Comprehension}{scope:Scope}(h:HZ GG J elt gs scope F b (fun v O1=>Lf (bn F x v) fun F1=>Q .next F1 O1) O)(t:St w A n b κ F O s env):
 wpAny (MW w) A (exec (.Assign [.Name x p] (.ListComp elt gs scope q) pos) env) (dQ w b κ O s Q) ba s:=by
 have hsw:∃c:Bool,swapsWith (.ListComp elt gs scope q) (some (.Name x p)) pos.line env=pure c:=⟨_,rfl⟩
 obtain⟨c,hc⟩:=hsw
 cases c with
 |false=>
  refine wpAny_Assign_Name ?_ hc
  rw[arm_eval_ListComp]
  refine mW B S h t fun {v aK C κ' O' s'} q g r hC nC ⟨m,hm⟩=>⟨m,hm,fun h' m' hm' hs'=>?_⟩
  obtain⟨g',x⟩:=Go.touchC t.rel g hC nC hs' ⟨m',hm'⟩
  obtain⟨_,h1,q⟩:=q.out
  exact bB (t.next g') h1 (rM x r) fun s1 g2=>.mk q (g'.trans g2) rfl
 |true=>
  rw[exec_Assign_Name_used _ _ _ _ hc]
  refine wpAny_bind (wpAny_standAt (wpAny_bind ?_))
  show wpAny _ A (do let _ ←comprehension (.ListComp elt gs scope q) scope env (firstIterPos gs q) (newList []) (firstAsync gs) (firstIter gs env) (some (assign (.Name x p) env));pure ()) _ ba s
  refine wpAny_bind (mW B S h t fun {v aK C κ' O' s'} q g r hC nC ⟨m,hm⟩=>?_)
  obtain⟨_,h1,q⟩:=q.out
  refine wpAny_assign_Name (bB (t.next g) h1 r fun s1 g2=>?_)
  refine hG fun _ kk=>?_
  obtain⟨o,es,ep,ho,rest⟩:=hm
  have g3:=g.trans g2
  obtain⟨hC',hk⟩:=g2.hid C hC
  refine kk ?_
  refine⟨m,⟨o,es,ep,hk o ho,rest⟩,fun h' m' hm' hs'=>?_⟩
  obtain⟨g',x⟩:=Go.touchC t.rel g3 hC' nC hs' ⟨m',hm'⟩
  exact wpAny_pure (wpAny_pure (.mk q g' rfl))
theorem li{P:Unit→Shared→Prop}(ns:List Str):∀{vs:List V} {cvs:List Value} {F F1:List Fr} {s:Shared},lj F ns vs=some F1→St w A n b κ F O s env→ag s.heap κ vs cvs→(∀s1,dp w b κ O s κ F1 O s1→P () s1)→
 wpAny (MW w) A (assignInOrder (ns.map fun n=>bindName env n) cvs) P E s:=by
 induction ns with
 |nil=>
  intro vs cvs F F1 s h t r k
  cases vs with
  |nil=>obtain rfl:=sI h;cases r;exact wpAny_pure (k _ (Go.refl t.rel))
  |cons=>exact nN h
 |cons x ns ih=>
  intro vs cvs F F1 s h t r k
  cases vs with
  |nil=>exact nN h
  |cons v vs=>
   obtain⟨cv,cvs,rfl,r1,r2⟩:=r
   obtain⟨F2,h1,h⟩:=bS h
   show wpAny _ A (assignInOrder (bindName env x::ns.map fun n=>bindName env n) (cv::cvs)) _ E s
   exact wpAny_assignInOrder_more (wpAny_bindName (bB t h1 r1 fun s1 g=>ih h (t.next g) (iT g.ext r2) fun s2 g2=>k s2 (g.trans g2)))
theorem yP(t:St w A n b κ F O s env)(h:C3 (i0 F x)=true):env.kindOf x=i0 F x:=by
 obtain⟨p,r,hp,T⟩:=t.env.top
 cases F with
 |nil=>exact aj h
 |cons f rF=>
  have fr:bZ s.heap κ f p:=t.rel.frs 0 f p rfl (hp▸rfl)
  dsimp only[i0]at h ⊢
  rw[fr.nm]at h ⊢
  cases hn:p.names.lookup x with
  |none=>rw[hn]at h;exact aj h
  |some kd=>
   rw[hn]at h
   cases kd with
   | «local» =>exact T.loc x hn
   |cell=>exact(T.cell x hn).1
   |_=>exact aj h
theorem g9{α β:Type}{f g:α→Option β}:∀{l:List α},(∀x∈l,f x=g x)→l.filterMap f=l.filterMap g
 |[],_=>rfl
 |x::l,h=>by
  rw[filterMap_cons,filterMap_cons,h x mem_cons_self,g9 fun y hy=>h y (mem_cons_of_mem _ hy)]
theorem Fc{c1 c2 c3 c4 c5:Bool}{ns:List Str}{m:Sem (Option (List Str))}(h:(if c1 then some none else if c2 then some none else if c3 then some none else if c4 then some none else if c5 then none else some (some ns))=some sw):
 (if c1=true then pure none else if c2=true then pure none else if c3=true then pure none else if c4=true then pure none else if c5=true then m else pure (some ns):Sem (Option (List Str)))=pure sw:=by
 cases c1 with
 |true=>exact sI h▸rfl
 |false=>cases c2 with
  |true=>exact sI h▸rfl
  |false=>cases c3 with
   |true=>exact sI h▸rfl
   |false=>cases c4 with
    |true=>exact sI h▸rfl
    |false=>cases c5 with
     |true=>exact nN h
     |false=>exact sI h▸rfl
theorem uO(t:St w A n b κ F O s env)(ht:oK F ts=true)(h:EK (i0 F) ts e=some sw):
 swappedStores [.Tuple ts k p] e env=pure sw:=by
 have hk:env.blockKind=.function:=by
  unfold Env.blockKind;rw[t.env.kind];rfl
 have hfil:bR env.kindOf ((ts.head?.map (·.pos.line)).getD 0) ts=bR (i0 F) ((ts.head?.map (·.pos.line)).getD 0) ts:=g9 fun e htm=>by
  cases e with
  |Name id pos=>dsimp only;rw[yP t (all_eq_true.mp ht _ htm)]
  |_=>rfl
 cases e with
 |Tuple vs k' p'=>
  unfold swappedStores
  dsimp only
  rw[hk,show(ScopeKind.function != ScopeKind.function)=false from rfl,Bool.or_false]
  show(if(!(ts.length==2||ts.length==3)||vs.length != ts.length)=true then pure none else if EO vs=true then pure none
   else if((bR env.kindOf ((ts.head?.map (·.pos.line)).getD 0) ts).length != ts.length||(bR env.kindOf ((ts.head?.map (·.pos.line)).getD 0) ts).eraseDups.length != (bR env.kindOf ((ts.head?.map (·.pos.line)).getD 0) ts).length)=true then pure none
   else if vs.all (foldedForSure 8)=true then pure none else if vs.all (constantsAlone 8)=true then(do unsupported "assign.tuple-of-constant-expressions:order-of-the-stores";pure (some (bR env.kindOf ((ts.head?.map (·.pos.line)).getD 0) ts)))
   else pure (some (bR env.kindOf ((ts.head?.map (·.pos.line)).getD 0) ts)):Sem (Option (List Str)))=pure sw
  refine Eq.symm (hfil)▸?_
  exact Fc h
 |_=>exact congrArg pure (sI h)
theorem tE{line:Nat}:swapsWithSole [.Tuple ts k p] e line env=pure false:=by
 cases e<;>rfl
theorem D7{h:Heap}{κ:Pl}{l:List V}:∀{r:List Value},ag h κ l r→ag h κ l.reverse r.reverse:=by
 induction l with
 |nil=>intro r e;cases e;exact rfl
 |cons x l ih=>
  intro r e
  obtain⟨c,r',rfl,e1,e2⟩:=e
  rw[List.reverse_cons,List.reverse_cons]
  exact eF (ih e2) ⟨c,[],rfl,e1,rfl⟩
theorem i6(S:d6 w n J){es:List Expr}(h:Gd (fI e) (J.e e F b (fun v O1=>Lf (HY es e F v) fun F1=>Q .next F1 O1) O))(t:St w A n b κ F O s env):
 wpAny (MW w) A (exec (.Assign [.Tuple es k p] e pos) env) (dQ w b κ O s Q) ba s:=by
 rw[exec_Assign_arm]
 refine wpAny_bind (wpAny_standAt ?_)
 refine Eq.symm (tE)▸?_
 refine wpAny_bind (wpAny_pure ?_)
 rw[if_neg (by decide)]
 refine wpAny_bind (aG.seq (S.e h.out.2 t) fun {v κ1 O1 cv s1} q g r=>?_)
 obtain⟨F1,h1,q9⟩:=q.out
 obtain⟨ht,h1⟩:=iS h1
 obtain⟨sw,h2,h1⟩:=bS h1
 have t1:=t.next g
 refine Eq.symm (uO t1 ht h2)▸?_
 refine wpAny_bind (wpAny_pure ?_)
 cases v with
 |tup vs=>
  cases sw with
  |none=>
   show wpAny _ A (do assignAll cv [assign (.Tuple es k p) env];pure Flow.next) _ ba s1
   exact wpAny_bind (d8 (tgt:=.Tuple es k p) (v:=.tup vs) t1 h1 r fun s2 g2=>wpAny_pure (.mk q9 (g.trans g2) rfl))
  |some names=>
   obtain⟨hlen,h1⟩:=iS h1
   obtain⟨a,aA,rfl,htup,ha,rs⟩:=r
   have hn:names.length=aA.size:=(beq_iff_eq.mp hlen).symm.trans (aR rs)
   show wpAny _ A (do rule "assign.swapped-stores";let items ←unpackItems (.ref a) names.length none;assignInOrder (names.reverse.map fun n=>bindName env n) items.reverse;pure Flow.next) _ ba s1
   refine wpAny_bind (wpAny_rule (wpAny_bind ?_))
   rw[hn]
   refine wpAny_unpackItems_tuple t.ok.hd htup.isTuple fun h' he=>?_
   have g2:dp w b κ1 O1 s1 κ1 F O1 { s1 with heap:=h' }:=Go.grow g.rel (fun b o e=>he b o (fun q=>by rw[q,bY (le_refl _)]at e;exact nN e) e) ⟨rfl,rfl,rfl⟩
   exact wpAny_bind (li _ h1 (t1.next g2) (D7 (iT g2.ext rs)) fun s2 g3=>wpAny_pure (.mk q9 (g.trans (g2.trans g3)) rfl))
 |_=>cases sw<;>exact nN h1
theorem yw(B:bI w)(Op:uF w)(S:d6 w n J){op:Operator}
 (h:Gd (jk x) (Lf (pn GG F x) fun a=>J.e e F b (fun c O1=>Lf (Br O1 op a c) fun v=>Lf (bn F x v) fun F1=>Q .next F1 O1) O)) (t:St w A n b κ F O s env) (ok:Ok A 1):
 wpAny (MW w) A (exec (.AugAssign (.Name x p) op e pos) env) (dQ w b κ O s Q) ba s:=by
 obtain⟨hx,h⟩:=h.out
 obtain⟨a,h1,h⟩:=h.out
 refine wpAny_AugAssign_Name (aG.seq (mQ (b:=b) (Q:=fun v O'=>v=a∧O'=O) B t h1 (jL hx).2 ⟨rfl,rfl⟩) fun {v κ1 O1 co s1} q g r=>?_)
 clear h1
 obtain⟨rfl,rfl⟩:=q
 refine aG.seq (S.e h (t.next g)) fun {c κ2 O2 cv s2} q2 g2 r2=>?_
 obtain⟨u,h2,q8⟩:=q2.out
 obtain⟨F1,h3,q9⟩:=q8.out
 have g3:=g.trans g2
 clear h q2
 cases v with
 |int i=>
  cases c with
  |int j=>
   refine aG.seq (Op.inpl (b:=b) (Q:=fun v' O'=>v'=u∧O'=O2) h2 ok g2.rel (rM g2.ext r) r2 ⟨rfl,rfl⟩) fun {v' κ3 O3 cr s3} q3 g4 r4=>?_
   clear g2 q8 h2
   obtain⟨rfl,rfl⟩:=q3
   exact bB (t.next (g3.trans g4)) h3 r4 fun s4 g5=>.mk q9 ((g3.trans g4).trans g5) rfl
  |_=>exact nN h2
 |_=>exact nN h2
theorem yj(Op:HD w)(S:d6 w n J){o i:Expr}(h:J.e o F b (fun v O1=>J.e i F b (fun k O2=>Lf (yk O2 v k) fun O3=>Q .next F O3) O1) O)(t:St w A n b κ F O s env)(ok:Ok A 1):
 wpAny (MW w) A (exec (.Delete [.Subscript o i p] pos) env) (dQ w b κ O s Q) ba s:=by
 refine wpAny_Delete (wpAny_deleteEach_cons ?_)
 show wpAny _ A (do
  let ov ←eval o env
  let iv ←holding [ov] (eval i env)
  standAt p
  holding [ov,iv] (delItem ov iv)
  release [ov,iv] []) _ ba s
 refine wpAny_bind (aG.seq (S.e h t) fun q g r=>wpAny_bind (wpAny_holding (aG.seq (S.e q (t.next g)) fun q2 g2 r2=>wpAny_bind (wpAny_standAt (wpAny_bind (wpAny_holding ?_))))))
 obtain⟨_,h1,q⟩:=q2.out
 exact Op.del (b:=b) h1 ok g2.rel (rM g2.ext r) r2 fun s3 g3=>iQ (wpAny_deleteEach_nil (.mk q ((g.trans g2).trans g3) rfl))
theorem qj(B:bI w)(Op:uF w)(M:nU w)(OD:HD w)(S:d6 w n J){st:Stmt}(h:EL GG J st F b Q O)(t:St w A (n+1) b κ F O s env):wpAny (MW w) A (exec st env) (dQ w b κ O s Q) ba s:=by
 have ok:=t.ok.one
 have t1:=t
 have t:=t.dn
 cases st with
 |Expr e p=>
  have h:=Gd.out h
  refine wpAny_Expr (aG.seq (S.e h.2 t) fun {v κ1 O1 cv s1} q g r=>?_) (by unfold interactive;rw[t.env.kind];rfl) (gA h.1 _ _)
  obtain⟨hp,q⟩:=q.out
  cases v with
  |none=>cases r;exact .mk q g rfl
  |int i=>obtain⟨_,rfl⟩:=r;exact .mk q g rfl
  |bool u=>cases r;exact .mk q g rfl
  |str l=>obtain⟨_,rfl⟩:=r;exact .mk q g rfl
  |_=>exact aj hp
 |Pass p=>exact wpAny_Pass (.mk h (Go.refl t.rel) rfl)
 |Break p=>exact wpAny_Break (.mk h (Go.refl t.rel) rfl)
 |Return e p=>
  cases e with
  |none=>exact h.elim
  |some e=>exact wpAny_Return_some (aG.seq (S.e h t) fun q g r=>.mk q g ⟨_,rfl,r⟩)
 |Assign ts e p=>
  cases ts with
  |nil=>exact h.elim
  |cons tg ts=>
   cases ts with
   |cons=>exact h.elim
   |nil=>
    cases tg with
    |Name x p'=>
     cases e with
     |ListComp elt gs scope q=>exact ku B S h t
     |Lambda args body scope q=>
      have h:uT (!scope.names.any (fun x=>x.2== .free)) _ _:=h
      cases hn: !scope.names.any (fun x=>x.2== .free)with
      |true=>rw[hn]at h;exact fD S (show Gd (fI (.Lambda args body scope q)) _ from h) t
      |false=>rw[hn]at h;exact j7 B h t
     |_=>exact fD S h t
    |Tuple es k p'=>exact i6 S h t
    |Subscript o i p'=>
     exact wpAny_Assign_Subscript (aG.seq (S.e h.out.2 t) fun q g r=>aG.seq (S.e q (t.next g)) fun q2 g2 r2=>aG.seq (S.e q2 ((t.next g).next g2)) fun q3 g3 r3=>(by obtain⟨_,h1,q⟩:=q3.out;exact x0 h1 g3.rel (rM g3.ext r2) r3 (rM (g2.trans g3).ext r) fun s1 g4=>.mk q ((g.trans (g2.trans g3)).trans g4) rfl)) (gA h.out.1 _ _)
    |_=>exact h.elim
 |AugAssign tg op e p=>
  cases tg with
  |Name x p'=>exact yw B Op S h t ok
  |_=>exact h.elim
 |Delete ts p=>
  cases ts with
  |nil=>exact h.elim
  |cons tg ts=>
   cases ts with
   |cons=>exact h.elim
   |nil=>
    cases tg with
    |Subscript o i p'=>exact yj OD S h t ok
    |_=>exact h.elim
 |If c x y p=>
  refine wpAny_If (aG.seq (S.t h t) fun {u _ _ _ _} q g r=>?_)
  cases r
  cases u with
  |true=>exact dQ.on g (cp S q (t.next g))
  |false=>exact dQ.on g (cp S q (t.next g))
 |While c body orelse p=>obtain⟨rfl,h2⟩:=Gd.nil h;exact qW S (h2.is) t
 |For tgt it body orelse p=>exact yZ B S h t
 |Try body hs orelse fin p=>
  obtain⟨hc,h2⟩:=Gd.out h
  obtain⟨h3,h4⟩:=aB hc
  clear h hc
  obtain rfl:=isEmpty_iff.mp h3
  obtain rfl:=isEmpty_iff.mp h4
  exact xg B Op M S h2 t t1.ok
 |Assert c msg p=>exact wpAny_Assert_holds (aG.seq (S.t h t) fun q g r=>by obtain⟨rfl,q⟩:=q.out;exact⟨r,.mk q g rfl⟩)
 |_=>exact h.elim
theorem ql(B:bI w)(Op:uF w)(S:d6 w n J){Q:V→Oj→Prop}
 (h:EN GG J f a ks b Q O) (ok:Ok A (n+1)) (R:aH w κ F O s.heap) (hb:b≤O.length) (rf:RV s.heap κ f cf) (Ra:ag s.heap κ a ca) (Rk:fk s.heap κ ks cks):
  wpAny (MW w) A (call cf ca cks) (aG w b κ F O s RV Q) ba s:=by
 cases f with
 |lam as bd sc=>obtain⟨rfl,h⟩:=Gd.nil h;cases Rk;exact tL B S h ok R hb rf Ra
 |cst c=>
  cases c with
  |ref ad=>cases rf;exact kW (up:=0) nofun B S h ok R hb Ra Rk
  |builtin id=>cases rf;obtain⟨rfl,h2⟩:=Gd.nil h;obtain⟨r,h1,q⟩:=h2.out;cases Rk;exact Op.bi h1 ok.one R hb Ra q
  |type id=>cases rf;obtain⟨rfl,h2⟩:=Gd.nil h;obtain⟨r,h1,q⟩:=h2.out;cases Rk;exact Op.ty h1 ok.one R hb Ra q
  |_=>exact h.elim
 |_=>exact h.elim
theorem qk(B:bI w)(S:d6 w n J){nm:Str}{c:gN}{Q:V→Oj→Prop}(h:EM GG J f a ks nm c F b Q O)(hc:fZ F c.name=some c)(ok:Ok A (n+1))(R:aH w κ F O s.heap)(hb:b≤O.length)
 (rf:RV s.heap κ f cf) (Ra:ag s.heap κ a ca) (Rk:fk s.heap κ ks cks):wpAny (MW w) A (call cf ca cks) (aG w b κ F O s RV Q) E s:=by
 cases f with
 |cst d=>cases d with
  |ref ad=>cases rf;exact tM B S h hc ok R hb Ra Rk
  |_=>exact h.elim
 |_=>exact h.elim
theorem xT(B:bI w)(Op:uF w)(M:nU w)(OD:HD w):∀n,d6 w (n+1) (W GG n)
 |0=>⟨zero_le _,fun h=>h.elim,fun h=>h.elim,fun h=>h.elim,fun h=>h.elim,fun h=>h.elim,fun h=>h.elim⟩
 |n+1=>
  have ih:=xT B Op M OD n
  ⟨le_succ _,fun h t=>cX B Op M ih h t,fun h t=>kD B Op M ih h t,fun h t=>gY Op ih (fun h=>cX B Op M ih h t) h t,fun h t=>qj B Op M OD ih h t,fun h ok R hb rf Ra Rk=>ql B Op ih h ok R hb rf Ra Rk,fun h hc ok R hb rf Ra Rk=>qk B ih h hc ok R hb rf Ra Rk⟩
end
end
section
variable {i x y:Int} {op:Operator} {v:V} {l:List V} {v1 v2:Array Value} {cx cy:Value}
theorem vD{k:Int}{n:Nat}(h:k.natAbs<2^n):Builtin.Int.intBits k≤n:=by
 unfold Builtin.Int.intBits
 by_cases hk:(k==0)=true
 ·rw[if_pos hk];exact zero_le _
 ·rw[if_neg hk]
  exact(Nat.log2_lt fun q=>hk (beq_iff_eq.mpr (Int.natAbs_eq_zero.mp q))).mpr h
theorem gD(h:cm i=true):Builtin.Int.intBits i≤4000:=vD (of_decide_eq_true h)
theorem r7(m n:Nat):(m ^^^ n)+(m&&& n)=m|||n:=by
 have h:=nat_or_add_and (m ^^^ n) (m&&& n)
 have e1:(m ^^^ n)|||(m&&& n)=m|||n:=Nat.eq_of_testBit_eq fun i=>by
  rw[Nat.testBit_or,Nat.testBit_xor,Nat.testBit_and,Nat.testBit_or]
  cases m.testBit i<;>cases n.testBit i<;>rfl
 have e2:(m ^^^ n)&&& (m&&& n)=0:=Nat.eq_of_testBit_eq fun i=>by
  rw[Nat.testBit_and,Nat.testBit_xor,Nat.testBit_and,Nat.zero_testBit]
  cases m.testBit i<;>cases n.testBit i<;>rfl
 rw[e1,e2,Nat.add_zero]at h
 exact h.symm
theorem tR(hx:0≤x)(hy:0≤y):Builtin.bitOr x y=((x.toNat|||y.toNat:Nat):Int):=by
 rw[bitOr_and,bitAnd_pp hx hy]
 have:=nat_or_add_and x.toNat y.toNat
 rw[Int.sub_eq_iff_eq_add, ←Int.natCast_add,this,Int.natCast_add,toNat_of_nonneg hx,toNat_of_nonneg hy]
theorem yt(hx:0≤x)(hy:0≤y):Builtin.bitXor x y=((x.toNat ^^^ y.toNat:Nat):Int):=by
 unfold Builtin.bitXor
 rw[tR hx hy,bitAnd_pp hx hy]
 have:=r7 x.toNat y.toNat
 rw[Int.sub_eq_iff_eq_add, ←Int.natCast_add,this]
theorem mM(h:Builtin.Int.intBits y≤4000):Builtin.divisionGoesByPylong x y=false:=by
 unfold Builtin.Int.intBits at h
 unfold Builtin.divisionGoesByPylong
 have:¬((if(y==0)=true then 0 else y.natAbs.log2/30+1)>300):=by
  split
  ·exact Nat.not_lt.mpr (le_trans Nat.le.refl (by decide))
  ·rename_i hy
   rw[if_neg hy]at h
   exact Nat.not_lt.mpr (succ_le_succ (le_trans (Nat.div_le_div_right (Nat.le_of_succ_le_succ h)) (by decide)))
 dsimp only
 rw[decide_eq_false this];rfl
noncomputable def EA(w:World)(A:Around)(op:Operator)(x y z:Int):Prop:=∀{s:Shared} {t u:Tok} {Q:Value→Shared→Prop} {E},(∀t' k,Q (.int z t') { s with toks:=k })→wpAny (MW w) A (binaryOp op (.int x t) (.int y u)) Q E s∧wpAny (MW w) A (inplaceOp op (.int x t) (.int y u)) Q E s
section
variable {w:World} {A:Around} {b:Nat} {κ:Pl} {Fs:List Fr} {O:Oj} {s:Shared} {E:Value→Shared→Prop} {Q:V→Oj→Prop}
theorem bL{p q:Prop}[Decidable p][Decidable q](h:(decide p&&decide q)=true):p∧q:=⟨of_decide_eq_true (aB h).1,of_decide_eq_true (aB h).2⟩
theorem lM(h:dA O op (.int x) (.int y)=some v):∃z,v=.int z∧EA w A op x y z:=by
 cases op with
 |Add=>obtain rfl:=sI h;exact⟨_,rfl,fun k=>⟨P.add_int (k _ _),P.iadd_int (k _ _)⟩⟩
 |Sub=>obtain rfl:=sI h;exact⟨_,rfl,fun k=>⟨P.sub_int (k _ _),P.isub_int (k _ _)⟩⟩
 |Mult=>
  obtain⟨hc,h⟩:=iS h
  obtain rfl:=sI h
  obtain⟨h1,h2⟩:=aB hc
  have hm:IntMulOk x y:=by
   have e1:=gD h1
   have e2:=gD h2
   unfold IntMulOk Builtin.Int.intTooBig
   have:¬(((Builtin.Int.intBits x:Int)+Builtin.Int.intBits y)>PySem.bitsLine):=by
    exact not_lt.mpr (ofNat_le.mpr (le_trans (add_le_add e1 e2) (show 8000≤134217728 by decide)))
   rw[decide_eq_false this,Bool.and_false];exact Bool.false_ne_true
  exact⟨_,rfl,fun k=>⟨P.mul_int (k _ _) hm,P.imul_int (k _ _) hm⟩⟩
 |Mod=>
  obtain⟨hc,h⟩:=iS h
  obtain rfl:=sI h
  have hy:0<y:=hc
  have hy':y≠0:=(Int.ne_of_lt hy).symm
  refine⟨_,rfl,fun k=>?_⟩
  rw[←Int.fmod_eq_emod_of_nonneg x (Int.le_of_lt hy)]at k
  exact⟨mod_int hy' (k _ _),imod_int hy' (k _ _)⟩
 |FloorDiv=>
  obtain⟨hc,h⟩:=iS h
  obtain rfl:=sI h
  obtain⟨h1,h2⟩:=aB hc
  have hy:0<y:=of_decide_eq_true h1
  have hy':y≠0:=(Int.ne_of_lt hy).symm
  have hp:=mM (x:=x) (gD h2)
  refine⟨_,rfl,fun k=>?_⟩
  rw[←Int.fdiv_eq_ediv_of_nonneg x (Int.le_of_lt hy)]at k
  exact⟨floordiv_int hy' (k _ _) (.inl hp),ifloordiv_int hy' (k _ _) (.inl hp)⟩
 |Pow=>
  obtain⟨hc,h⟩:=iS h
  obtain rfl:=sI h
  obtain⟨hc,h2⟩:=aB hc
  obtain⟨hx,h1⟩:=aB hc
  have h1:=of_decide_eq_true h1
  have h2:=of_decide_eq_true h2
  have hsz:(Builtin.Int.intBits x:Int)*y≤2^27:=by
   have:Builtin.Int.intBits x≤7:=by
    simp only[Bool.or_eq_true,beq_iff_eq]at hx
    rcases hx with(((rfl|rfl)|rfl)|rfl)|rfl<;>decide
   exact Int.le_trans (Int.mul_le_mul_of_nonneg_right (ofNat_le.mpr this) h1) (Int.le_trans (Int.mul_le_mul_of_nonneg_left (Int.le_of_lt h2) (by decide)) (by decide))
  exact⟨_,rfl,fun k=>⟨pow_int h1 hsz (k _ _),ipow_int h1 hsz (k _ _)⟩⟩
 |LShift=>
  obtain⟨hc,h⟩:=iS h
  obtain rfl:=sI h
  obtain⟨hc,h3⟩:=aB hc
  obtain⟨hc,h2⟩:=aB hc
  have h1:=of_decide_eq_true (aB hc).2
  have h2:=of_decide_eq_true h2
  have hsz:(Builtin.Int.intBits x:Int)+y≤2^27:=Int.le_trans (Int.add_le_add (ofNat_le.mpr (gD h3)) (Int.le_of_lt h2)) (by decide)
  exact⟨_,rfl,fun k=>⟨lshift_int h1 hsz (k _ _),ilshift_int h1 hsz (k _ _)⟩⟩
 |BitOr=>
  obtain⟨hc,h⟩:=iS h
  obtain rfl:=sI h
  refine⟨_,rfl,fun k=>?_⟩
  rw[←tR (bL hc).1 (bL hc).2]at k
  exact⟨or_int (k _ _),ior_int (k _ _)⟩
 |BitXor=>
  obtain⟨hc,h⟩:=iS h
  obtain rfl:=sI h
  refine⟨_,rfl,fun k=>?_⟩
  rw[←yt (bL hc).1 (bL hc).2]at k
  exact⟨xor_int (k _ _),ixor_int (k _ _)⟩
 |BitAnd=>
  obtain⟨hc,h⟩:=iS h
  obtain rfl:=sI h
  refine⟨_,rfl,fun k=>?_⟩
  rw[←bitAnd_pp (bL hc).1 (bL hc).2]at k
  exact⟨and_int (k _ _),iand_int (k _ _)⟩
 |_=>exact nN h
theorem my{α:Type}(x:Array α)(n:Nat):∀(aK:Array α),((replicate n x).foldl (· ++ ·) aK).toList=aK.toList++(replicate n x.toList).flatten:=by
 induction n with
 |zero=>exact fun aK=>(append_nil _).symm
 |succ n ih=>intro aK;rw[replicate_succ,foldl_cons,ih,replicate_succ,flatten_cons,toList_append,append_assoc]
theorem k9{x:Str}{l:List Nat}(h:x.cps.toList=l):x=S l:=by cases x;subst h;rfl
theorem B8{h:Heap}{r:List Value}(rs:ag h κ l r)(n:Nat):ag h κ (replicate n l).flatten (replicate n r).flatten:=by
 induction n with
 |zero=>exact rfl
 |succ n ih=>rw[replicate_succ,replicate_succ,flatten_cons,flatten_cons];exact eF rs ih
theorem lX{a c:Nat}(h:lO (a+c)=true):a+c≤sizeLine:=le_trans (aZ h) (by decide)
theorem EJ:(v1.toList++v2.toList).toArray=v1++v2:=toList_inj.mp toList_append.symm
theorem ig{r:List V}{a1 a2:Addr}(hl:lO (l.length+r.length)=true)(R:aH w κ Fs O s.heap)(p1:s.heap.PlainList a1 v1)(s1:ag s.heap κ l v1.toList)(p2:s.heap.PlainList a2 v2)(s2:ag s.heap κ r v2.toList)(q:Q (.lst (l++r)) O):
 wpAny (MW w) A (binaryOp .Add (.ref a1) (.ref a2)) (aG w b κ Fs O s RV Q) E s:=by
 obtain⟨n1,p1⟩:=p1
 obtain⟨n2,p2⟩:=p2
 rw[aR s1,aR s2]at hl
 have:=lE (b:=b) (s:=s) R q (eF s1 s2)
 rw[EJ]at this
 exact P.add_list p1 p2 this (lX hl)
theorem rt{h:Heap}{aA:Array Value}(rs:ag h κ l aA.toList)(h:(!l.isEmpty)=true):¬aA.isEmpty=true:=fun q=>by
 rw[←kA rs,q]at h;exact aj h
theorem y5{x y:V}(h:dA O .Add x y=some v)(R:aH w κ Fs O s.heap)(rx:RV s.heap κ x cx)(ry:RV s.heap κ y cy)(q:Q v O):wpAny (MW w) A (binaryOp .Add cx cy) (aG w b κ Fs O s RV Q) E s:=by
 cases x with
 |int x=>
  cases y with
  |int y=>
   obtain⟨t,rfl⟩:=rx;obtain⟨u,rfl⟩:=ry
   obtain⟨z,rfl,k⟩:=lM (w:=w) (A:=A) h
   exact(k fun t' k=>aG.tok R q ⟨_,rfl⟩).1
  |_=>exact nN h
 |str x=>
  cases y with
  |str y=>
   obtain⟨t,rfl⟩:=rx;obtain⟨u,rfl⟩:=ry
   obtain⟨hl,h⟩:=iS h
   obtain rfl:=sI h
   refine SB.add (fun t' k=>aG.tok R q ⟨t',?_⟩) (by rw[sL,sL];exact lX hl)
   exact congrArg (Value.str · t') (k9 toList_append)
  |_=>exact nN h
 |tup x=>
  cases y with
  |tup y=>
   obtain⟨a1,v1,rfl,⟨n1,t1⟩,o1,s1⟩:=rx
   obtain⟨a2,v2,rfl,⟨n2,t2⟩,o2,s2⟩:=ry
   obtain⟨hc,h⟩:=iS h
   obtain rfl:=sI h
   obtain⟨hc,hl⟩:=aB hc
   rw[aR s1,aR s2]at hl
   have:=lD (b:=b) (s:=s) R q (eF s1 s2)
   rw[EJ]at this
   exact P.add_tuple t1 t2 (rt s1 (aB hc).1) (rt s2 (aB hc).2) this (lX hl)
  |_=>exact nN h
 |lst l=>
  obtain⟨r,h1,h⟩:=bS h
  obtain⟨hl,h⟩:=iS h
  obtain rfl:=sI h
  obtain⟨a1,v1,rfl,p1,o1,s1⟩:=rx
  obtain⟨a2,v2,rfl,p2,s2⟩:=cM R h1 ry
  exact ig hl R p1 s1 p2 s2 q
 |ref m=>
  obtain⟨l,h0,h⟩:=bS h
  obtain⟨r,h1,h⟩:=bS h
  obtain⟨hl,h⟩:=iS h
  obtain rfl:=sI h
  obtain⟨a1,v1,rfl,_,p1,s1⟩:=R.list h0 rx
  obtain⟨a2,v2,rfl,p2,s2⟩:=cM R h1 ry
  exact ig hl R p1 s1 p2 s2 q
 |_=>exact nN h
theorem iV{a:Addr}{aA:Array Value}{u:Tok}(h:GH l y=some v)(R:aH w κ Fs O s.heap)(p:s.heap.PlainList a aA)(rs:ag s.heap κ l aA.toList)(q:Q v O):wpAny (MW w) A (binaryOp .Mult (.ref a) (.int y u)) (aG w b κ Fs O s RV Q) E s:=by
 obtain⟨n,hp⟩:=p
 obtain⟨hc,h⟩:=iS h
 obtain rfl:=sI h
 obtain⟨hc,h2⟩:=aB hc
 obtain⟨hn0,h1⟩:=bL hc
 rw[aR rs]at h2
 have h2:=aZ h2
 refine wpAny_binaryOp_repeat_ref (T:="list") (U:="int") (by decide) ⟨_,hp,rfl⟩ (fun s'=>typeIs_int s' y u) noFill_list_mul F.fills_int_mul F.slot_int_rmul repeat_list F.slot_int_index.lookup
  (call_meets F.slot_int_rmul (typeIs_int s y u) F.entry_int_rmul (F.args_int_rmul_2 _ _) (int___rmul___int_list y u a aA n)
   ⟨hp,rfl,⟨_,hp,rfl⟩,call_meets F.slot_list_mul ⟨_,hp,rfl⟩ F.entry_list_mul (F.args_list_mul_2 _ _)
    (AutoListH.list___mul___list_int_3 a aA n y u (by simp[Builtin.List.listFitsIndex];exact⟨Int.le_trans (by decide) hn0,Int.lt_trans h1 (by decide)⟩) (Nat.not_lt.mpr (le_trans h2 (by decide))) (by simp[Builtin.List.listTooLong,sizeLine];exact le_trans (by with_reducible assumption) (by decide))) ⟨hp,?_⟩⟩)
 have:=lE (b:=b) (s:=s) R q (B8 rs y.toNat)
 have e:(replicate y.toNat aA.toList).flatten.toArray=List.foldl (fun x1 x2=>x1++x2) #[] (replicate (if aA.isEmpty=true then 0 else y.toNat) aA):=by
  apply toList_inj.mp
  rw[my]
  split
  ·rename_i q
   rw[Array.isEmpty_iff.mp q]
   simp
  ·rfl
 rw[e]at this
 exact this
theorem pc{x:List Nat}{t u:Tok}(h:dA O .Mult (.str x) (.int y)=some v)(R:aH w κ Fs O s.heap)(q:Q v O):wpAny (MW w) A (binaryOp .Mult (.str (S x) t) (.int y u)) (aG w b κ Fs O s RV Q) E s:=by
 obtain⟨hc,h⟩:=iS h
 obtain rfl:=sI h
 obtain⟨hc,h2⟩:=aB hc
 obtain⟨hn0,h1⟩:=bL hc
 have h2:=aZ h2
 refine SB.mul ⟨?_,fun hn hx=>?_,fun hn hx=>?_⟩ fun t' k=>aG.tok R q ⟨t',?_⟩
 ·rw[decide_eq_false (not_lt.mpr (Int.le_trans (by decide) hn0)),decide_eq_false (not_le.mpr (Int.lt_trans h1 (by decide)))];rfl
 ·rw[sL]
  have:(x.length:Int)≤(2^63-1)/y:=Int.le_ediv_of_mul_le (Int.lt_of_lt_of_le (by decide) (not_lt.mp hn)) (by
   have e:(x.length:Int)*y=((x.length*y.toNat:Nat):Int):=by rw[Int.natCast_mul,toNat_of_nonneg hn0]
   exact Int.le_trans (Int.le_of_eq e) (Int.le_trans (ofNat_le.mpr h2) (by decide)))
  exact not_lt.mpr this
 ·show decide _=false
  rw[decide_eq_false_iff_not,sL]
  show ¬_>16777216
  exact Nat.not_lt.mpr (le_trans h2 (by decide))
 ·refine congrArg (Value.str · t') (k9 ?_)
  unfold Txt.mul
  split
  ·rename_i hy;rw[show y=0 from Int.le_antisymm (Int.le_of_lt_add_one (show y<0+1 from hy)) hn0];rfl
  ·split
   ·rename_i hq
    rcases or_eq_true_iff.mp hq with hq|hq
    ·rw[beq_iff_eq.mp hq]
     show x=(replicate 1 x).flatten
     simp
    ·have:x=[]:=List.length_eq_zero_iff.mp ((sL x).symm.trans (beq_iff_eq.mp hq))
     subst this
     simp[S]
   ·exact my (S x).cps y.toNat #[]
theorem yv{x y:V}(h:dA O op x y=some v)(R:aH w κ Fs O s.heap)(rx:RV s.heap κ x cx)(ry:RV s.heap κ y cy)(q:Q v O):wpAny (MW w) A (binaryOp op cx cy) (aG w b κ Fs O s RV Q) E s:=by
 have hints:∀f,pj x y f=some v→wpAny (MW w) A (binaryOp op cx cy) (aG w b κ Fs O s RV Q) E s:=fun f hf=>by
  cases x with
  |int x=>
   cases y with
   |int y=>
    obtain⟨t,rfl⟩:=rx;obtain⟨u,rfl⟩:=ry
    obtain⟨z,rfl,k⟩:=lM (w:=w) (A:=A) h
    exact(k fun t' k=>aG.tok R q ⟨_,rfl⟩).1
   |_=>exact nN hf
  |_=>exact nN hf
 cases op with
 |Add=>exact y5 h R rx ry q
 |Mult=>
  cases y with
  |int y=>
   cases x with
   |int x=>
    obtain⟨t,rfl⟩:=rx;obtain⟨u,rfl⟩:=ry
    obtain⟨z,rfl,k⟩:=lM (w:=w) (A:=A) h
    exact(k fun t' k=>aG.tok R q ⟨_,rfl⟩).1
   |str x=>obtain⟨t,rfl⟩:=rx;obtain⟨u,rfl⟩:=ry;exact pc h R q
   |lst l=>obtain⟨a,aA,rfl,p,_,rs⟩:=rx;obtain⟨u,rfl⟩:=ry;exact iV h R p rs q
   |ref m=>obtain⟨l,h0,h⟩:=bS h;obtain⟨a,aA,rfl,_,p,rs⟩:=R.list h0 rx;obtain⟨u,rfl⟩:=ry;exact iV h R p rs q
   |_=>exact nN h
  |_=>exact nN h
 |Sub=>exact hints _ h
 |FloorDiv=>exact hints _ h
 |Mod=>exact hints _ h
 |Pow=>exact hints _ h
 |LShift=>exact hints _ h
 |BitAnd=>exact hints _ h
 |BitOr=>exact hints _ h
 |BitXor=>exact hints _ h
 |_=>exact nN h
theorem vG{j:Int}(h:dA O op (.int i) (.int j)=some v)(R:aH w κ Fs O s.heap)(rx:RV s.heap κ (.int i) cx)(ry:RV s.heap κ (.int j) cy)(q:Q v O):wpAny (MW w) A (inplaceOp op cx cy) (aG w b κ Fs O s RV Q) E s:=by
 obtain⟨t,rfl⟩:=rx;obtain⟨u,rfl⟩:=ry
 obtain⟨z,rfl,k⟩:=lM (w:=w) (A:=A) h
 exact(k fun t' k=>aG.tok R q ⟨_,rfl⟩).2
end
end
section
variable {h:Heap} {a:Addr} {x y c:V} {f:V→V→Option Bool} {t:Bool} {cx cc cy:Value} {n:Nat} {Q1:V→Oj→Prop}
set_option backward.match.sparseCases false
section
variable {w:World} {A:Around} {b:Nat} {κ:Pl} {Fs:List Fr} {O:Oj} {s:Shared} {E:Value→Shared→Prop} {Q:V→Oj→Prop}
theorem mD{x y:Array Value}(p:h.PlainList a x)(q:h.PlainList a y):x=y:=by
 obtain⟨n,hn⟩:=p;obtain⟨m,hm⟩:=q
 cases hn.symm.trans hm;rfl
theorem x6{x y:Array Value}(p:vj h a x)(q:vj h a y):x=y:=by
 obtain⟨n,hn⟩:=p;obtain⟨m,hm⟩:=q
 cases hn.symm.trans hm;rfl
theorem l8{a:V}{l1 l2:List V}(e:fR f (a::l1) (c::l2)=some t):∃x y,f a c=some x∧fR f l1 l2=some y∧(x&&y)=t:=
 by obtain⟨x,h1,e⟩:=bS e;obtain⟨y,h2,e⟩:=mS e;exact⟨x,y,h1,h2,e⟩
theorem l7(hf:∀{v1 v2:V} {c:Value} {t:Bool},f v1 v2=some t→RV h κ v1 c→RV h κ v2 c→t=true)(l1:List V):∀{l2:List V} {r:List Value} {t:Bool},fR f l1 l2=some t→ag h κ l1 r→ag h κ l2 r→t=true:=by
 induction l1 with
 |nil=>intro l2 r t e _ _;cases l2 with|nil=>obtain rfl:=sI e;rfl|cons=>exact nN e
 |cons a l1 ih=>
  intro l2 r t e r1 r2
  cases l2 with
  |nil=>exact nN e
  |cons c l2=>
   obtain⟨x,y,h1,h2,rfl⟩:=l8 e
   obtain⟨cv,r,rfl,r1,r3⟩:=r1
   obtain⟨cv',r',e',r2,r4⟩:=r2
   injection e' with h9 h8;subst h9 h8
   rw[hf h1 r1 r2,ih h2 r3 r4];rfl
noncomputable def Hd:Value→Value→Bool
 |.none,.none=>true
 |.bool a,.bool b=>a==b
 |.int a _,.int b _=>a==b
 |.str a _,.str b _=>a==b
 |_,_=>false
structure LP (A:Around) (s:Shared) (c1 c2:Value) (t:Bool):Prop where
 eq:SeqAt.EqAt A s c1 c2 t
 rc:SeqAt.RcAt A s c1 c2 t
 ne:SeqAt.RcNeAt A s c1 c2 (!t)
theorem iz{v:V}{cv:Value}(h:gt v x=some t)(r:RV s.heap κ v cv)(rx:RV s.heap κ x cx):Hd cv cx=t∧(∀A,LP A s cv cx t)∧(cv=cx→t=true):=by
 cases v with
 |none=>cases x with
  |none=>obtain rfl:=sI h;cases r;cases rx;exact⟨rfl,fun A=>⟨SeqAt.EqAt.same _,SeqAt.RcAt.none_none,SeqAt.RcNeAt.none_none⟩,fun _=>rfl⟩
  |_=>exact nN h
 |bool a=>cases x with
  |bool c=>obtain rfl:=sI h;cases r;cases rx;exact⟨rfl,fun A=>⟨SeqAt.EqAt.bool_bool _ _,SeqAt.RcAt.bool_bool _ _,SeqAt.RcNeAt.bool_bool _ _⟩,fun e=>by injection e with h9;subst h9;exact beq_self_eq_true _⟩
  |_=>exact nN h
 |int a=>cases x with
  |int c=>obtain rfl:=sI h;obtain⟨u,rfl⟩:=r;obtain⟨u',rfl⟩:=rx;exact⟨rfl,fun A=>⟨SeqAt.EqAt.int_int _ u _ u',SeqAt.RcAt.int_int _ u _ u',SeqAt.RcNeAt.int_int _ u _ u'⟩,fun e=>by injection e with h9 h8;subst h9 h8;exact decide_eq_true rfl⟩
  |_=>exact nN h
 |str a=>cases x with
  |str c=>
   obtain rfl:=sI h;obtain⟨u,rfl⟩:=r;obtain⟨u',rfl⟩:=rx
   have:decide (a=c)=(S a==S c):=by
    by_cases q:a=c
    ·rw[q,decide_eq_true rfl,beq_self_eq_true]
    ·rw[decide_eq_false q,beq_false_of_ne fun z=>q (B7 z)]
   refine Eq.symm (this)▸?_
   exact⟨rfl,fun A=>⟨SeqAt.EqAt.str_str _ u _ u',SeqAt.RcAt.str_str _ u _ u',SeqAt.RcNeAt.str_str _ u _ u'⟩,fun e=>beq_iff_eq.mpr (Value.str.inj e).1⟩
  |_=>exact nN h
 |_=>exact nN h
theorem mA{v1 v2:V}(e:dq O (n+1) v1 v2=some t):gt v1 v2=some t∨(∃x y,v1=.tup x∧v2=.tup y∧fR (dq O n) x y=some t)∨
 ∃x y,iO O v1=some x∧iO O v2=some y∧(x.length=y.length∧fR (dq O n) x y=some t∨x.length≠y.length∧t=false):=by
 have ls:∀{l},iO O v1=some l→Jq O (dq O n) l v2=some t→∃x y,iO O v1=some x∧iO O v2=some y∧(x.length=y.length∧fR (dq O n) x y=some t∨x.length≠y.length∧t=false):=fun {l} h1 e=>by
  obtain⟨r,h2,e⟩:=bS e
  refine⟨l,r,h1,h2,?_⟩
  by_cases hl:(l.length==r.length)=true
  ·rw[if_pos hl]at e;exact .inl ⟨beq_iff_eq.mp hl,e⟩
  ·rw[if_neg hl]at e;obtain rfl:=sI e;exact .inr ⟨fun q=>hl (beq_iff_eq.mpr q),rfl⟩
 cases v1 with
 |tup x=>
  clear ls
  cases v2 with
  |tup y=>obtain⟨_,e⟩:=iS e;exact .inr (.inl ⟨x,y,rfl,rfl,e⟩)
  |_=>exact nN e
 |lst l=>exact .inr (.inr (ls rfl e))
 |ref k=>obtain⟨l,h1,e⟩:=bS e;exact .inr (.inr (ls h1 e))
 |_=>exact .inl e
theorem xz(R:aH w κ Fs O s.heap)(n:Nat):∀{v1 v2:V} {c:Value} {t:Bool},dq O n v1 v2=some t→RV s.heap κ v1 c→RV s.heap κ v2 c→t=true:=by
 induction n with
 |zero=>intro v1 v2 c t e;exact nN e
 |succ n ih=>
  intro v1 v2 c t e r1 r2
  rcases mA e with e|⟨x,y,rfl,rfl,e1⟩|⟨x,y,h1,h2,e⟩
  ·exact(iz e r1 r2).2.2 rfl
  ·obtain⟨a,aA,rfl,ht,_,rs⟩:=r1
   obtain⟨a',vals',e',ht',_,rs'⟩:=r2
   injection e' with h9;subst h9
   exact l7 ih _ e1 rs (x6 ht ht'▸rs')
  ·obtain⟨a,aA,rfl,hp,rs⟩:=cM R h1 r1
   obtain⟨a',vals',e',hp',rs'⟩:=cM R h2 r2
   injection e' with h9;subst h9
   rcases e with⟨hl,e⟩|⟨hl,_⟩
   ·exact l7 ih _ e rs (mD hp hp'▸rs')
   ·exact absurd ((aR rs).trans ((mD hp hp'▸aR rs').symm)) hl
theorem xy{K:Value→Value→Bool→Prop}(hf:∀{v1 v2:V} {c1 c2:Value} {t:Bool},f v1 v2=some t→RV h κ v1 c1→RV h κ v2 c2→K c1 c2 t)(l1:List V):
 ∀{l2:List V} {r1 r2:List Value} {t:Bool},fR f l1 l2=some t→ag h κ l1 r1→ag h κ l2 r2→∃ts:List Bool,ts.length=r1.length∧r1.length=r2.length∧ts.all id=t∧∀(j:Nat) c1 c2,r1[j]? =some c1→r2[j]? =some c2→K c1 c2 (ts.getD j true):=by
 induction l1 with
 |nil=>intro l2 r1 r2 t e q1 q2;cases l2 with
  |nil=>obtain rfl:=sI e;cases q1;cases q2;exact⟨[],rfl,rfl,rfl,fun j c1 c2 q=>nomatch q⟩
  |cons=>exact nN e
 |cons a l1 ih=>
  intro l2 r1 r2 t e q1 q2
  cases l2 with
  |nil=>exact nN e
  |cons c l2=>
   refine hG fun _ kk=>?_
   obtain⟨x,y,h1,h2,rfl⟩:=l8 e
   obtain⟨cv,r,rfl,q1,q3⟩:=q1
   obtain⟨cv',r',rfl,q2,q4⟩:=q2
   obtain⟨ts,k1,k2,k3,k4⟩:=ih h2 q3 q4
   refine kk ?_
   refine⟨x::ts,congrArg (· +1) k1,congrArg (· +1) k2,congrArg (x&& ·) k3,fun j c1 c2 e1 e2=>?_⟩
   cases j with
   |zero=>obtain rfl:=sI e1;obtain rfl:=sI e2;exact hf h1 q1 q2
   |succ j=>exact k4 j c1 c2 e1 e2
theorem xw{ts:List Bool}(h:ts.length=n):(List.range n).all (fun j=>ts.getD j true)=ts.all id:=by
 subst h
 induction ts with
 |nil=>rfl
 |cons x ts ih=>
  rw[length_cons,List.range_succ_eq_map,all_cons,List.all_map,all_cons, ←ih];rfl
theorem l9(R:aH w κ Fs O s.heap)(n:Nat):∀{A:Around} {v1 v2:V} {c1 c2:Value} {t:Bool},dq O n v1 v2=some t→A.units+n<9900→RV s.heap κ v1 c1→RV s.heap κ v2 c2→LP A s c1 c2 t:=by
 induction n with
 |zero=>intro A v1 v2 c1 c2 t e;exact nN e
 |succ n ih=>
  intro A v1 v2 c1 c2 t e hu r1 r2
  have hcl:A.units<cLine:=lt_of_le_of_lt (le_add_right _ _) hu
  have hin:A.in1.units+n<9900:=by show A.units+1+n<9900;exact lt_of_le_of_lt (le_of_eq (succ_add _ _)) hu
  have same:=fun c=>xz R (n+1) (c:=c) e
  --items,one by one
  have els:∀{x y:List V} {aA vals':Array Value},fR (dq O n) x y=some t→ag s.heap κ x aA.toList→ag s.heap κ y vals'.toList→aA.size=vals'.size∧∃f:Nat→Bool,(List.range aA.size).all f=t∧∀j (h1:j<aA.size) (h2:j<vals'.size),SeqAt.EqAt A.in1 s aA[j] vals'[j] (f j):=fun e rs rs'=>by
   refine hG fun _ kk=>?_
   obtain⟨ts,k1,k2,k3,k4⟩:=xy (K:=fun c1 c2 t=>SeqAt.EqAt A.in1 s c1 c2 t) (fun e q1 q2=>(ih e hin q1 q2).eq) _ e rs rs'
   refine kk ?_
   exact⟨k2,fun j=>ts.getD j true,(xw k1).trans k3,fun j h1 h2=>k4 j _ _ (by rw[getElem?_toList];exact Array.getElem?_eq_getElem h1) (by rw[getElem?_toList];exact Array.getElem?_eq_getElem h2)⟩
  have refs:∀{a a':Addr},c1=.ref a→c2=.ref a'→SeqAt.RcAt A s c1 c2 t→SeqAt.RcNeAt A s c1 c2 (!t)→LP A s c1 c2 t:=fun {a a'} e1 e2 rc ne=>by
   refine⟨?_,rc,ne⟩
   by_cases haa:a=a'
   ·subst haa;subst e1;subst e2
    rw[same _ r1 r2];exact SeqAt.EqAt.same _
   ·subst e1;subst e2;exact SeqAt.EqAt.of_refs haa rc
  rcases mA e with e|⟨x,y,rfl,rfl,e1⟩|⟨x,y,h1,h2,e⟩
  ·exact(iz e r1 r2).2.1 A
  ·obtain⟨a,aA,rfl,ht,_,rs⟩:=id r1
   obtain⟨a',vals',rfl,ht',_,rs'⟩:=id r2
   obtain⟨hs,f,hall,he⟩:=els e1 rs rs'
   have hall:((List.range (min aA.size vals'.size)).all f&&aA.size==vals'.size)=t:=by rw[←hs,Nat.min_self,hall,beq_self_eq_true,Bool.and_true]
   exact refs rfl rfl (hall▸SeqAt.RcAt.tuples ht.isTuple ht'.isTuple hcl he) (hall▸SeqAt.RcNeAt.tuples ht.isTuple ht'.isTuple hcl he)
  ·obtain⟨a,aA,rfl,hp,rs⟩:=cM R h1 r1
   obtain⟨a',vals',rfl,hp',rs'⟩:=cM R h2 r2
   rcases e with⟨hl,e⟩|⟨hl,rfl⟩
   ·obtain⟨hs,f,hall,he⟩:=els e rs rs'
    exact refs rfl rfl (hall▸SeqAt.RcAt.lists hp.isList hp'.isList hs hcl he) (hall▸SeqAt.RcNeAt.lists hp.isList hp'.isList hs hcl he)
   ·have hs:(aA.size != vals'.size)=true:=bne_iff_ne.mpr fun q=>hl ((aR rs).trans (q.trans (aR rs').symm))
    exact refs rfl rfl (SeqAt.RcAt.lists_lengths hp.isList hp'.isList hs hcl) (SeqAt.RcNeAt.lists_lengths hp.isList hp'.isList hs hcl)
theorem yx(rx:RV s.heap κ x cx)(l:List V):∀{r:List Value} {t:Bool},gQ l x=some t→ag s.heap κ l r→(r.any fun y=>Hd y cx)=t∧∀y∈r,SeqAt.EqAt A s y cx (Hd y cx):=by
 induction l with
 |nil=>intro r t h e;obtain rfl:=sI h;cases e;exact⟨rfl,fun _ h=>nomatch h⟩
 |cons v l ih=>
  intro r t h e
  obtain⟨cv,r,rfl,r1,r2⟩:=e
  obtain⟨a,h1,h⟩:=bS h
  obtain⟨c,h2,h⟩:=mS h
  subst h
  obtain⟨e1,e2,_⟩:=iz h1 r1 rx
  obtain⟨k1,k2⟩:=ih h2 r2
  refine⟨by rw[any_cons,e1,k1],fun y hy=>(mem_cons.mp hy).elim (fun e=>?_) (k2 y)⟩
  rw[e,e1];exact(e2 A).eq
noncomputable def j9(w:World):Prop:=∀a l,GG.sets.lookup a=some l→∃n,(HW w).SetOf (intKind PG w) a (fun i=>l.contains i) n
theorem sj(T:j9 w)(h:IP GG O x c=some t)(R:aH w κ Fs O s.heap)(rx:RV s.heap κ x cx)(rc:RV s.heap κ c cc){Q2:V→Oj→Prop}:
 (Q1 (.bool t) O→wpAny (MW w) A (compareOp .In cx cc) (aG w b κ Fs O s RV Q1) E s)∧(Q2 (.bool (!t)) O→wpAny (MW w) A (compareOp .NotIn cx cc) (aG w b κ Fs O s RV Q2) E s):=by
 have arr:∀{l:List V} {aA:Array Value},gQ l x=some t→ag s.heap κ l aA.toList→aA.any (fun y=>Hd y cx)=t∧∀y,y∈aA→SeqAt.EqAt A.in1 s y cx (Hd y cx):=fun h rs=>
  (by obtain⟨k1,k2⟩:=yx (A:=A.in1) rx _ h rs;exact⟨by rw[←k1, ←Array.any_toList],fun y hy=>k2 y (Array.mem_toList_iff.mpr hy)⟩)
 have lists:∀{l:List V} {a:Addr} {aA:Array Value},gQ l x=some t→s.heap.PlainList a aA→ag s.heap κ l aA.toList→
  (Q1 (.bool t) O→wpAny (MW w) A (compareOp .In cx (.ref a)) (aG w b κ Fs O s RV Q1) E s)∧(Q2 (.bool (!t)) O→wpAny (MW w) A (compareOp .NotIn cx (.ref a)) (aG w b κ Fs O s RV Q2) E s):=fun h hp rs=>
  (by obtain⟨e,he⟩:=arr h rs;exact⟨fun q=>SeqAt.in_listAt _ hp.isList he (aG.here R q (congrArg Value.bool e)),fun q=>SeqAt.notIn_listAt _ hp.isList he (aG.here R q (congrArg (fun t=>Value.bool (!t)) e))⟩)
 cases c with
 |str l=>
  clear arr lists
  cases x with
  |str y=>
   obtain rfl:=sI h
   obtain⟨u,rfl⟩:=rx
   obtain⟨u',rfl⟩:=rc
   exact⟨fun q=>P.in_str (aG.here R q (by rw[sL];rfl)),fun q=>P.notIn_str (aG.here R q (by rw[sL];rfl))⟩
  |_=>exact nN h
 |lst l=>obtain⟨a,aA,rfl,hp,_,rs⟩:=rc;exact lists h hp rs
 |ref m=>obtain⟨l,h1,h⟩:=bS h;obtain⟨a,aA,rfl,_,hp,rs⟩:=R.list h1 rc;exact lists h hp rs
 |cst d=>
  cases d with
  |ref a=>
   cases rc
   obtain⟨l,hl,h⟩:=bS h
   clear arr lists
   cases x with
   |int i=>
    refine hG fun _ kk=>?_
    obtain⟨_,h⟩:=iS h
    obtain rfl:=sI h
    obtain⟨u,rfl⟩:=rx
    obtain⟨n,o,es,ep,t,ho,r⟩:=T a l hl
    refine kk ?_
    have hS:s.heap.SetOf (intKind PG w) a (fun i=>l.contains i) n:=⟨o,es,ep,t,R.base _ _ ho,r⟩
    exact⟨fun q=>wpAny_inSet_of (k:=i) (decide_eq_true rfl) rfl hS (aG.tok R q rfl),fun q=>wpAny_notInSet_of (k:=i) (decide_eq_true rfl) rfl hS (aG.tok R q rfl)⟩
   |_=>exact nN h
  |_=>exact nN h
 |_=>exact nN h
theorem oo(B:bI w)(T:j9 w)(h:CG GG O x c=some t)(R:aH w κ Fs O s.heap)(rx:RV s.heap κ x cx)(rc:RV s.heap κ c cc){Q2:V→Oj→Prop}:
 (Q1 (.bool t) O→wpAny (MW w) A (compareOp .In cx cc) (aG w b κ Fs O s RV Q1) E s)∧(Q2 (.bool (!t)) O→wpAny (MW w) A (compareOp .NotIn cx cc) (aG w b κ Fs O s RV Q2) E s):=by
 unfold CG at h
 cases c with
 |ref n=>
  cases hE:dN O n x with
  |none=>simp only[hE]at h;exact sj T h R rx rc
  |some r=>
   simp only[hE]at h
   obtain rfl:=sI h
   obtain⟨a,hi,D⟩:=R.entry hE rx
   obtain⟨a',rfl,hi'⟩:=rc
   injection Option.some.inj (hi.symm.trans hi')with h9;subst h9
   clear T rx hE h hi'
   cases D with
   | @mk K _ knd kvs k da is val=>
    have e:(valueAt kvs k).isSome=r.isSome:=by
     cases r with
     |none=>cases hv:valueAt kvs k with
      |none=>rfl
      |some _=>rw[hv]at val;exact val.elim
     |some v=>obtain⟨cv,hv,_⟩:=kx.some val;rw[hv];rfl
    exact⟨fun q=>wpAny_in_of (is PG) (k8 B R (Pl.mt_ob hi)) (da PG).dictOf.mapOf (aG.tok R q (e▸rfl)),fun q=>wpAny_notIn_of (is PG) (k8 B R (Pl.mt_ob hi)) (da PG).dictOf.mapOf (aG.tok R q (e▸rfl))⟩
 |_=>exact sj T h R rx rc
theorem sa(h:K0 x y=some t)(R:aH w κ Fs O s.heap)(rx:RV s.heap κ x cx)(ry:RV s.heap κ y cy){Q2:V→Oj→Prop}:
 (Q1 (.bool t) O→wpAny (MW w) A (compareOp .Is cx cy) (aG w b κ Fs O s RV Q1) E s)∧(Q2 (.bool (!t)) O→wpAny (MW w) A (compareOp .IsNot cx cy) (aG w b κ Fs O s RV Q2) E s):=by
 have ne:cx≠ .none→cy=.none→t=false→(Q1 (.bool t) O→wpAny (MW w) A (compareOp .Is cx cy) (aG w b κ Fs O s RV Q1) E s)∧(Q2 (.bool (!t)) O→wpAny (MW w) A (compareOp .IsNot cx cy) (aG w b κ Fs O s RV Q2) E s):=fun n e e'=>by
  subst e e'
  exact⟨fun q=>is_none_ne n (aG.here R q rfl),fun q=>isnot_none_ne n (aG.here R q rfl)⟩
 cases y with
 |none=>
  cases ry
  cases x with
  |none=>obtain rfl:=sI h;cases rx;exact⟨fun q=>is_none_none (aG.here R q rfl),fun q=>isnot_none_none (aG.here R q rfl)⟩
  |bool c=>cases rx;exact ne nofun rfl (Option.some.inj h).symm
  |int i=>obtain⟨u,rfl⟩:=rx;exact ne nofun rfl (Option.some.inj h).symm
  |str l=>obtain⟨u,rfl⟩:=rx;exact ne nofun rfl (Option.some.inj h).symm
  |tup l=>obtain⟨a,aA,rfl,_⟩:=rx;exact ne nofun rfl (Option.some.inj h).symm
  |lst l=>obtain⟨a,aA,rfl,_⟩:=rx;exact ne nofun rfl (Option.some.inj h).symm
  |ref k=>obtain⟨a,rfl,_⟩:=rx;exact ne nofun rfl (Option.some.inj h).symm
  |lam _ _ _=>obtain⟨a,o,fd,rfl,_⟩:=rx;exact ne nofun rfl (Option.some.inj h).symm
  |opq a=>obtain⟨rfl,_⟩:=rx;exact ne nofun rfl (Option.some.inj h).symm
  |_=>exact nN h
 |bool d=>
  clear ne
  cases ry
  cases x with
  |bool c=>obtain rfl:=sI h;cases rx;exact⟨fun q=>is_bool (aG.here R q rfl),fun q=>isnot_bool (aG.here R q rfl)⟩
  |none=>obtain rfl:=sI h;cases rx;exact⟨fun q=>wpAny_is_other rfl nofun (aG.here R q rfl),fun q=>wpAny_isNot_other rfl nofun (aG.here R q rfl)⟩
  |_=>exact nN h
 |_=>exact nN h
theorem mi{f:Int→Int→Bool}(h:kQ x y f=some t):∃i j,x=.int i∧y=.int j∧t=f i j:=by
 cases x with
 |int i=>cases y with
  |int j=>obtain rfl:=sI h;exact⟨i,j,rfl,rfl,rfl⟩
  |_=>exact nN h
 |_=>exact nN h
theorem yF(l c:Addr)(x y:Int)(t u:Tok)(v v':Value)(n n2:Nat):Meets (Builtin.«tuple.__lt__» ⟨[.ref l,.ref c],[]⟩)
 (fun A R s=>s.heap.get? l=some { cls:=.type "tuple",data:=.seq #[.int x t,v] n }∧s.heap.get? c=some { cls:=.type "tuple",data:=.seq #[.int y u,v'] n2 }∧x≠y∧R (.ok (.ret (.bool (decide (x<y))))) s):=
 .of_wp fun prog w A R s h=>by
  obtain⟨hl,hc,hne,h⟩:=h
  show wpAny _ _ (isInstance (.ref c) (.type "tuple")>>=_) _ _ s
  refine wpAny_bind (wpAny_isInstance ⟨_,hc,rfl⟩ isSubtype_tuple_tuple ?_)
  simp only[Bool.not_true,false_eq_true,if_false]
  refine wpAny_bind (wpAny_tupleItemsOf hl rfl ?_)
  refine wpAny_bind (wpAny_tupleItemsOf hc rfl ?_)
  rw[show((#[.int x t,v]:Array Value).toList.zip (#[.int y u,v']:Array Value).toList)=[(.int x t,.int y u),(v,v')]from rfl,forIn_cons]
  refine wpAny_bind (wpAny_bind (wpAny_bind (SeqAt.EqAt.int_int x t y u prog w _ _ ?_)))
  refine Eq.symm (show(x==y)=false from beq_false_of_ne hne)▸?_
  simp only[Bool.not_false,if_true]
  refine wpAny_bind (wpAny_rule (wpAny_bind ?_))
  exact P.lt_int (wpAny_bind (wpAny_pure (wpAny_pure (wpAny_pure (wpAny_pure (show ∃v,_ from⟨_,rfl,h⟩))))))
theorem DK{hp:Heap}{κ:Pl}{p q:V×V}(h1:gP x=some p)(h2:gP y=some q){i j:Int}(e1:p.1=.int i)(e2:q.1=.int j)(rx:RV s.heap κ x cx)(ry:RV s.heap κ y cy)(hne:i≠j)(hu:A.units<cLine){P:Value→Shared→Prop}(k:P (.bool (decide (i<j))) s):wpAny (MW w) A (compareOp .Lt cx cy) P E s:=by
 have tp:∀{v:V} {r:V×V},gP v=some r→v=.tup [r.1,r.2]:=fun {v r} h=>by
  cases v with
  |tup l=>cases l with
   |nil=>exact nN h
   |cons x l=>cases l with
    |nil=>exact nN h
    |cons y l=>cases l with
     |nil=>obtain rfl:=sI h;rfl
     |cons=>exact nN h
  |_=>exact nN h
 have arr:∀{v:V} {r:V×V} {cv:Value} {i:Int},gP v=some r→r.1=.int i→RV s.heap κ v cv→∃a n t cw,cv=.ref a∧s.heap.get? a=some { cls:=.type "tuple",data:=.seq #[.int i t,cw] n }:=fun {v r cv i} h e rv=>by
  rw[tp h,e]at rv
  refine hG fun _ kk=>?_
  obtain⟨a,aA,rfl,⟨n,hn⟩,_,c1,r1,e1,⟨t,rfl⟩,c2,r2,e2,_,e3⟩:=rv
  refine kk ?_
  exact⟨a,n,t,c2,rfl,by rw[hn,show aA= #[.int i t,c2]from toList_inj.mp (by rw[e1,e2,show r2=[]from e3])]⟩
 obtain⟨a,n,t,v1,rfl,ha⟩:=arr h1 e1 rx
 obtain⟨c,n2,u,v2,rfl,hc⟩:=arr h2 e2 ry
 exact richCompare_meets_room (op:=.Lt) ⟨_,ha,rfl⟩ ⟨_,hc,rfl⟩ F.slot_tuple_lt F.entry_tuple_lt (F.args_tuple_lt_2 _ _) (yF a c i j t u v1 v2 n n2) ⟨ha,hc,hne,show Value.bool (decide (i<j))≠Value.notImplemented∧P (.bool (decide (i<j))) s from⟨(fun x=>nomatch x),k⟩⟩ hu
theorem ym(B:bI w)(T:j9 w){op:CmpOp}(h:i5 GG O op x y=some t)(ok:Ok A 1)(R:aH w κ Fs O s.heap)(rx:RV s.heap κ x cx)(ry:RV s.heap κ y cy)(q:Q (.bool t) O):wpAny (MW w) A (compareOp op cx cy) (aG w b κ Fs O s RV Q) E s:=by
 have hu:A.units+9<9900:=lt_of_le_of_lt (le_trans (add_le_add_left (by decide) _) ok.uni) (by decide)
 have hi:∀f,kQ x y f=some t→(∀{i j u u'},t=f i j→cx=.int i u→cy=.int j u'→wpAny (MW w) A (compareOp op cx cy) (aG w b κ Fs O s RV Q) E s)→wpAny (MW w) A (compareOp op cx cy) (aG w b κ Fs O s RV Q) E s:=fun f h k=>by
  refine hG fun _ kk=>?_
  obtain⟨i,j,rfl,rfl,e⟩:=mi h
  obtain⟨u,ex⟩:=rx
  obtain⟨u',ey⟩:=ry
  refine kk ?_
  exact k e ex ey
 cases op with
 |Eq=>exact(l9 R 9 h hu rx ry).rc PG w E _ (aG.here R q rfl)
 |NotEq=>obtain⟨u,h1,rfl⟩:=mS h;exact(l9 R 9 h1 hu rx ry).ne PG w E _ (aG.here R q rfl)
 |Is=>exact(sa (Q2:=Q) h R rx ry).1 q
 |IsNot=>obtain⟨u,h1,rfl⟩:=mS h;exact(sa (Q1:=Q) h1 R rx ry).2 q
 |In=>exact(oo B T (Q2:=Q) h R rx ry).1 q
 |NotIn=>obtain⟨u,h1,rfl⟩:=mS h;exact(oo B T (Q1:=Q) h1 R rx ry).2 q
 |Lt=>
  have h:Kn x y=some t:=h
  unfold Kn at h
  cases hp:gP x with
  |none=>simp only[hp]at h;exact hi _ h fun e e1 e2=>e1▸e2▸P.lt_int (aG.here R q (e▸rfl))
  |some p=>
   simp only[hp]at h
   refine hG fun _ kk=>?_
   obtain⟨p2,h1,h⟩:=bS h
   obtain⟨d,h2,h⟩:=bS h
   obtain⟨hd,h⟩:=iS h
   obtain⟨i,j,e1,e2,ed⟩:=mi h2
   obtain⟨i',j',e3,e4,et⟩:=mi h
   refine kk ?_
   injection e1.symm.trans e3 with h9;subst h9
   injection e2.symm.trans e4 with h9;subst h9
   exact DK (hp:=s.heap) hp h1 e1 e2 rx ry (of_decide_eq_true (ed.symm.trans hd)) (lt_of_le_of_lt (le_add_right _ 9) hu) (aG.here R q (et▸rfl))
 |LtE=>exact hi _ h fun e e1 e2=>e1▸e2▸P.le_int (aG.here R q (e▸rfl))
 |Gt=>exact hi _ h fun e e1 e2=>e1▸e2▸P.gt_int (aG.here R q (e▸rfl))
 |GtE=>exact hi _ h fun e e1 e2=>e1▸e2▸P.ge_int (aG.here R q (e▸rfl))
end
set_option backward.match.sparseCases true
end
section
variable {k:Int} {n:Nat} {l:List V} {v x y:V} {a c:Addr} {cx cy cl ch cs:Value} {h:Heap} {lo hi:Option Int}
theorem u7(h:DZ k=true): -(2^60)<k∧k<2^60:=by
 have h:=of_decide_eq_true h
 exact nA h
theorem DC{j:Nat}(h:seqIndex? k n=some j):(0≤k∧k.toNat=j∧j<n)∨(k<0∧ -(n:Int)≤k∧(k+n).toNat=j∧j<n):=by
 unfold seqIndex? at h
 by_cases hk:k<0
 ·simp only[hk,if_true]at h
  split at h
  ·rename_i hc
   obtain⟨h1,h2⟩:=bL hc
   have h:=Option.some.inj h
   exact .inr ⟨hk,Int.le_of_sub_nonneg (by rw[Int.sub_neg];exact h1),h,h▸(Int.toNat_lt h1).mpr h2⟩
  ·exact nN h
 ·simp only[hk,if_false]at h
  split at h
  ·rename_i hc
   obtain⟨h1,h2⟩:=bL hc
   have h:=Option.some.inj h
   exact .inl ⟨h1,h,h▸(Int.toNat_lt h1).mpr h2⟩
  ·exact nN h
section
variable {w:World} {A:Around} {b:Nat} {κ:Pl} {Fs:List Fr} {O:Oj} {s:Shared} {E:Value→Shared→Prop} {Q:V→Oj→Prop}
theorem B3(h:uE l k=some v):(-(2^60)<k∧k<2^60)∧∃j,seqIndex? k l.length=some j∧l[j]? =some v:=
 by obtain⟨hk,h⟩:=iS h;exact⟨u7 hk,bS h⟩
theorem sN{aA:Array Value}{u:Tok}(h:uE l k=some v)(R:aH w κ Fs O s.heap)(hp:s.heap.PlainList a aA)(rs:ag s.heap κ l aA.toList)(q:Q v O):wpAny (MW w) A (getItem (.ref a) (.int k u)) (aG w b κ Fs O s RV Q) E s:=by
 refine hG fun _ kk=>?_
 obtain⟨hb,j,h1,h2⟩:=B3 h
 obtain⟨cv,hc,rc⟩:=eE rs h2
 refine kk ?_
 have hc:=(getElem?_toList)▸hc
 rw[aR rs]at h1
 rcases DC h1 with⟨q1,q2,q3⟩|⟨q1,q2,q3,q4⟩
 ·exact wpAny_getItem_list hp.isList q1 (Int.lt_trans hb.2 (by decide)) (q2▸hc) (aG.here R q rc)
 ·exact wpAny_getItem_list_neg hp.isList q1 (q2) (Int.le_of_lt (Int.lt_of_le_of_lt (by decide) hb.1)) (q3▸hc) (aG.here R q rc)
theorem ou(h:mj O x y=some v)(R:aH w κ Fs O s.heap)(rx:RV s.heap κ x cx)(ry:RV s.heap κ y cy)(q:Q v O):wpAny (MW w) A (getItem cx cy) (aG w b κ Fs O s RV Q) E s:=by
 cases y with
 |int k=>
  obtain⟨u,rfl⟩:=ry
  cases x with
  |tup l=>
   obtain⟨hb,j,h1,h2⟩:=B3 h
   obtain⟨a,aA,rfl,⟨n,hp⟩,_,rs⟩:=rx
   obtain⟨cv,hc,rc⟩:=eE rs h2
   exact P.getItem_tuple hp (Int.le_of_lt (Int.lt_of_le_of_lt (by decide) hb.1)) (Int.lt_trans hb.2 (by decide)) (aR rs▸h1) (getElem?_toList▸hc) (aG.here R q rc)
  |str l=>
   obtain⟨hk,h⟩:=iS h
   obtain⟨j,h1,h⟩:=bS h
   obtain⟨c,hc,h⟩:=mS h
   subst h
   have hb:=u7 hk
   obtain⟨t,rfl⟩:=rx
   refine P.getItem_str (c:=c) (by rw[decide_eq_false (not_lt.mpr (Int.le_of_lt (Int.lt_of_le_of_lt (by decide) hb.1))),decide_eq_false (not_le.mpr (Int.lt_trans hb.2 (by decide)))];rfl) ?_ (aG.tok R q ⟨_,rfl⟩)
   rw[sL,h1]
   exact getElem?_toList.symm.trans hc
  |lst l=>obtain⟨a,aA,rfl,hp,_,rs⟩:=rx;exact sN h R hp rs q
  |ref m=>obtain⟨l,h1,h⟩:=bS h;obtain⟨a,aA,rfl,_,hp,rs⟩:=R.list h1 rx;exact sN h R hp rs q
  |_=>exact nN h
 |_=>exact nN h
theorem vH(h:cN O x y=some v)(R:aH w κ Fs O s.heap)(rx:RV s.heap κ x cx)(ry:RV s.heap κ y cy)(q:Q v O):wpAny (MW w) A (getItem cx cy) (aG w b κ Fs O s RV Q) E s:=by
 unfold cN at h
 cases x with
 |ref n=>
  cases hE:dN O n y with
  |none=>simp only[hE]at h;exact ou h R rx ry q
  |some r=>
   simp only[hE]at h
   subst h
   obtain⟨a,hi,D⟩:=R.entry hE ry
   obtain⟨a',rfl,hi'⟩:=rx
   injection Option.some.inj (hi.symm.trans hi')with h9;subst h9
   cases D with
   | @mk K _ knd kvs k da is val=>
    obtain⟨cv,hv,rv⟩:=kx.some val
    exact wpAny_getItem_of (is PG) (da PG).dictOf.mapOf hv (aG.tok R q rv)
 |_=>exact ou h R rx ry q
theorem vi{r:List Value}(rs:ag h κ l r)(is:List Nat):ag h κ (aO l is) (is.filterMap fun i=>r[i]?):=by
 induction is with
 |nil=>exact rfl
 |cons i is ih=>
  rw[aO,filterMap_cons,filterMap_cons]
  cases hl:l[i]? with
  |none=>rw[getElem?_eq_none (de rs▸List.getElem?_eq_none_iff.mp hl)];exact ih
  |some v=>
   obtain⟨cv,hc,rc⟩:=eE rs hl
   rw[hc];exact⟨cv,_,rfl,rc,ih⟩
theorem gk{o:Option Int}{cv:Value}(h:dr v=some o)(r:RV s.heap κ v cv):IsPart cv o∧∃p:Option (Int×Tok),cv=partValue p∧p.map (·.1)=o:=by
 cases v with
 |none=>obtain rfl:=sI h;cases r;exact⟨.none,none,rfl,rfl⟩
 |int i=>obtain rfl:=sI h;obtain⟨t,rfl⟩:=r;exact⟨.int _ _,some (_,t),rfl,rfl⟩
 |_=>exact nN h
theorem iR{st:Option Int}{is:List Nat}(h:av lo hi st n=some is):st≠some 0∧is=sliceRange (sliceBounds lo hi st n).1 (sliceBounds lo hi st n).2.1 (sliceBounds lo hi st n).2.2∧is=Builtin.Str.strSliceIndices lo hi (st.getD 1) n:=by
 by_cases hs:(st.getD 1==0)=true
 ·rw[av,if_pos hs]at h;exact nN h
 ·rw[av,if_neg hs]at h
  obtain rfl:=sI h
  exact⟨fun q=>hs (by rw[q];rfl),rfl,rfl⟩
theorem jB(lo hi:Option Int)(n:Nat):∃a b:Nat,a≤n∧b≤n∧Builtin.Str.strSliceIndices lo hi 1 n=(List.range (b-a)).map (a+ ·):=by
 have clip:∀v:Option Int,∀d:Nat,d≤n→∃a:Nat,a≤n∧ff n 1 v d=(a:Int):=fun v d hd=>by
  cases v with
  |none=>exact⟨d,hd,rfl⟩
  |some i=>
   show ∃a:Nat,a≤n∧max 0 (min (if i<0 then i+n else i) n)=(a:Int)
   exact⟨_,by exact Int.toNat_le.mpr (Int.max_le.mpr ⟨natCast_nonneg _,Int.min_le_right _ _⟩),(toNat_of_nonneg (Int.le_max_left _ _)).symm⟩
 obtain⟨a,ha,ea⟩:=clip lo 0 (zero_le _)
 obtain⟨b,hb,eb⟩:=clip hi n (le_refl _)
 refine⟨a,b,ha,hb,?_⟩
 refine(sliceRange_one a b)▸(ea)▸(eb)▸?_
 rfl
theorem uM{α:Type}(l:List α)(m:Nat):(List.range m).filterMap (fun i=>l[i]?)=l.take m:=by
 induction m with
 |zero=>rfl
 |succ m ih=>
  refine Eq.symm (range_succ)▸Eq.symm (List.filterMap_append)▸Eq.symm (ih)▸Eq.symm (List.take_add_one)▸Eq.symm (filterMap_cons)▸?_
  cases l[m]? <;>rfl
theorem x8(l:List Nat)(m:Nat):((List.range m).map (0+ ·)).filterMap (fun i=>l[i]?)=l.take m:=by
 induction m with
 |zero=>rfl
 |succ m ih=>
  rw[range_succ,map_append,List.filterMap_append,ih,List.take_add_one,map_cons,map_nil,filterMap_cons,zero_add]
  cases l[m]? <;>rfl
theorem uH{l:List Nat}(h:(Builtin.Str.strSliceIndices lo hi 1 l.length).length=l.length):aO l (Builtin.Str.strSliceIndices lo hi 1 l.length)=l:=by
 obtain⟨a,b,ha,hb,e⟩:=jB lo hi l.length
 rw[e]at h ⊢
 rw[length_map,length_range]at h
 clear ha e
 cases l with
 |nil=>rw[show b-a=0 from h];rfl
 |cons x r=>
  rw[length_cons]at h hb
  have eb:b=r.length+1:=Nat.le_antisymm hb (le_trans (le_of_eq h.symm) (sub_le b a))
  have ea:a=0:=by
   cases a with
   |zero=>rfl
   |succ a=>rw[eb]at h;exact absurd h (ne_of_lt (Nat.sub_lt (succ_pos _) (succ_pos a)))
  rw[ea,eb]
  exact(x8 _ _).trans (take_length (l:=x::r))
theorem mT{aA:Array Value}{st:Option Int}(hl:lO l.length=true)(h:((av lo hi st l.length).map fun is=>V.lst (aO l is))=some v)(R:aH w κ Fs O s.heap)(hp:s.heap.PlainList c aA)(rs:ag s.heap κ l aA.toList)(p1:IsPart cl lo)(p2:IsPart ch hi)(p3:IsPart cs st)
 (ha:s.heap.get? a=some { cls:=.type "slice",data:=.fields #[cl,ch,cs] }) (q:Q v O):wpAny (MW w) A (getItem (.ref c) (.ref a)) (aG w b κ Fs O s RV Q) E s:=by
 refine hG fun _ kk=>?_
 obtain⟨is,h4,h⟩:=mS h
 subst h
 rw[aR rs]at h4 hl
 obtain⟨k1,k2,_⟩:=iR h4
 refine kk ?_
 refine wpAny_getItem_list_slice hp.isList ⟨_,ha,rfl,rfl⟩ p1 p2 p3 k1 ?_ (le_trans (aZ hl) (by decide))
 have:=lE (b:=b) (s:=s) R q (vi rs is)
 have e:(is.filterMap fun i=>aA.toList[i]?).toArray=slicePick aA lo hi st:=by
  rw[show(fun i=>aA.toList[i]?)=(aA[·]?)from funext fun i=>getElem?_toList,k2];rfl
 rw[e]at this
 exact this
theorem pG{c:Nat}{sl:Addr}{u:Tok}{P:Int×Int×Nat→Shared→Prop}(hs:s.heap.IsSliceOf sl .none (.int c u) .none)(hc:c<n)(h:P (0,1,c) s):wpAny (MW w) A (Builtin.Slice.sliceApplied (.ref sl) (pure (n:Int))) P E s:=by
 obtain⟨o,ho,_,hd⟩:=hs
 unfold Builtin.Slice.sliceApplied Builtin.Slice.sliceFields
 refine wpAny_bind (wpAny_bind (wpAny_field ho hd (x:=.none) rfl ?_))
 refine wpAny_bind (wpAny_field ho hd (x:=.int c u) rfl ?_)
 refine wpAny_bind (wpAny_field ho hd (x:=.none) rfl (wpAny_pure ?_))
 refine wpAny_bind (slicePart_none ?_)
 show wpAny _ _ (if((1:Int)==0)=true then _ else _) _ _ s
 rw[if_neg (by decide)]
 refine wpAny_bind (slicePart_none (wpAny_bind (slicePart_int (wpAny_bind (wpAny_pure ?_)))))
 have e1:Builtin.Slice.sliceAdjust none (some (c:Int)) 1 (n:Int)=(0,(c:Int)):=by
  show((if(1:Int)<0 then _ else if(1:Int)<0 then _ else _),(if(c:Int)<0 then _ else min (c:Int) (if(1:Int)<0 then(n:Int)-1 else n)))=_
  rw[if_neg (by decide),if_neg (by decide),if_neg (not_lt.mpr (natCast_nonneg c)),if_neg (by decide),Int.min_eq_left (ofNat_le.mpr (le_of_lt hc))]
 have e2:Builtin.Slice.slicePlaces 0 (c:Int) 1=c:=by
  unfold Builtin.Slice.slicePlaces
  rw[if_pos (by decide)]
  split
  ·rw[Int.ediv_one,Int.sub_zero,Int.sub_add_cancel];exact Int.toNat_natCast c
  ·rename_i h1;exact(Nat.le_zero.mp (ofNat_le.mp (not_lt.mp h1))).symm
 show wpAny _ _ (match Builtin.Slice.sliceAdjust none (some (c:Int)) 1 (n:Int)with|(lo,hi)=>pure (lo,(1:Int),Builtin.Slice.slicePlaces lo hi 1)) _ _ s
 rw[e1]
 show wpAny _ _ (pure ((0:Int),(1:Int),Builtin.Slice.slicePlaces 0 (c:Int) 1)) _ _ s
 refine Eq.symm (e2)▸?_
 exact wpAny_pure h
theorem zJ{t sl:Addr}{items:Array Value}{c:Nat}{u:Tok}{P:Value→Shared→Prop}(ht:IsTup s.heap t items)(hs:s.heap.IsSliceOf sl .none (.int c u) .none)(hc:c<items.size)(hz:items.size≤sizeLine)
 (h:P (.ref s.heap.objs.size) (gg s { cls:=.type "tuple",data:=.seq (items.toList.take c).toArray })):wpAny (MW w) A (getItem (.ref t) (.ref sl)) P E s:=by
 have hT:s.TypeIs (.ref sl) "slice":=by obtain⟨o,ho,hcl,_⟩:=hs;exact⟨o,ho,hcl⟩
 have hfit:sizeOk (.seq (items.toList.take c).toArray):=by
  show(items.toList.take c).toArray.size≤sizeLine
  rw[List.size_toArray,length_take]
  exact le_trans (Nat.min_le_left _ _) (le_trans (le_of_lt hc) hz)
 have e:((List.range c).filterMap fun(k:Nat)=>items[((0:Int)+(k:Int)*1).toNat]?).toArray=(items.toList.take c).toArray:=by
  refine congrArg toArray (Eq.trans (congrArg (List.filterMap · (List.range c)) (funext fun(k:Nat)=>?_)) (uM items.toList c))
  rw[show((0:Int)+(k:Int)*1).toNat=k by rw[Int.zero_add,Int.mul_one];rfl,getElem?_toList]
 unfold getItem
 refine wpAny_holding ?_
 refine wpAny_bind (wpAny_sequenceKey ht.typeIs (by decide) ?_)
 refine wpAny_bind (wpAny_callSpecial?_slot (name:=ofString "__getitem__") ht.typeIs slot_tuple_getitem (wpAny_call_entry slot_tuple_getitem ht.typeIs entry_tuple_getitem ?_ (args_tuple_getitem _ _)))
 show wpAny _ _ (Builtin.Tuple.tupleItemsOf (.ref t)>>=_) _ _ s
 refine wpAny_bind (tupleItemsOf_ ht ?_)
 refine wpAny_bind (wpAny_typeOf hT ?_)
 rw[if_pos (by decide)]
 refine wpAny_bind (pG hs hc ?_)
 show wpAny _ _ (if((0:Int)==0&&(1:Int)==1&&c==items.size)=true then _ else _) _ _ s
 rw[if_neg (by rw[beq_false_of_ne (ne_of_lt hc)];decide),e]
 first
  |exact wpAny_bind (m:=Builtin.Tuple.tupleExact _) (wpAny_newObj_type (wpAny_pure ⟨_,rfl,wpAny_pure h⟩) hfit)
  |exact wpAny_bind (m:=Builtin.Tuple.tupleExact _) (wpAny_newObj_type (wpAny_bind (wpAny_pure (wpAny_pure ⟨_,rfl,wpAny_pure h⟩))) hfit)
  |exact wpAny_bind (wpAny_bind (m:=Builtin.Tuple.tupleExact _) (wpAny_newObj_type (wpAny_pure (wpAny_pure ⟨_,rfl,wpAny_pure h⟩)) hfit))
  |exact wpAny_bind (wpAny_bind (m:=Builtin.Tuple.tupleExact _) (wpAny_newObj_type (wpAny_pure ⟨_,rfl,wpAny_pure h⟩) hfit))
theorem xf{aA:Array Value}(h:qa l lo hi=some v)(R:aH w κ Fs O s.heap)(hp:IsTup s.heap c aA)(rs:ag s.heap κ l aA.toList)(p1:IsPart cl lo)(p2:IsPart ch hi)
 (ha:s.heap.get? a=some { cls:=.type "slice",data:=.fields #[cl,ch,.none] }) (q:Q v O):wpAny (MW w) A (getItem (.ref c) (.ref a)) (aG w b κ Fs O s RV Q) E s:=by
 cases p1 with
 |int i t=>
  obtain⟨hc,h⟩:=iS h
  obtain rfl:=sI h
  obtain⟨hc,hl⟩:=aB hc
  obtain⟨hc,hn⟩:=aB hc
  obtain⟨h1,h2⟩:=aB hc
  cases p2 with
  |int=>exact aj hn
  |none=>
   have h1:=of_decide_eq_true h1
   have h2:=of_decide_eq_true h2
   rw[aR rs]at h2 hl
   clear h hc
   obtain⟨k,rfl⟩:=Int.eq_ofNat_of_zero_le (Int.le_trans (by decide) h1)
   exact getItem_tuple_from (a:=k) hp ⟨_,ha,rfl,rfl⟩ (ofNat_le.mp h1) h2 (lD R q (jc k rs)) (le_trans (aZ hl) (by decide))
 |none=>
  cases p2 with
  |none=>exact nN h
  |int i t=>
   refine hG fun _ kk=>?_
   obtain⟨hc,h⟩:=iS h
   obtain rfl:=sI h
   obtain⟨hc,hl⟩:=aB hc
   obtain⟨h1,h2⟩:=aB hc
   have h1:=of_decide_eq_true h1
   have h2:=of_decide_eq_true h2
   rw[aR rs]at h2 hl
   clear h hc
   obtain⟨k,rfl⟩:=Int.eq_ofNat_of_zero_le h1
   refine kk ?_
   exact zJ hp ⟨_,ha,rfl,rfl⟩ h2 (le_trans (aZ hl) (by decide)) (lD R q (nT k rs))
theorem qs{lo hi st:V}(h:cT O x lo hi st=some v)(R:aH w κ Fs O s.heap)(rx:RV s.heap κ x cx)(rl:RV s.heap κ lo cl)(rh:RV s.heap κ hi ch)(rst:RV s.heap κ st cs)
 (ha:s.heap.get? a=some { cls:=.type "slice",data:=.fields #[cl,ch,cs] }) (q:Q v O):wpAny (MW w) A (getItem cx (.ref a)) (aG w b κ Fs O s RV Q) E s:=by
 refine hG fun _ kk=>?_
 obtain⟨lo',h1,h⟩:=bS h
 obtain⟨hi',h2,h⟩:=bS h
 obtain⟨st',h3,h⟩:=bS h
 obtain⟨p1,q1,e1,f1⟩:=gk h1 rl
 obtain⟨p2,q2,e2,f2⟩:=gk h2 rh
 obtain⟨p3,q3,e3,f3⟩:=gk h3 rst
 refine kk ?_
 cases x with
 |str l=>
  obtain⟨hc,h⟩:=iS h
  obtain⟨is,h4,h⟩:=mS h
  subst h
  obtain⟨hc1,hst⟩:=aB hc
  clear h3 p3 hc h
  obtain rfl:=isNone_iff_eq_none.mp hst
  obtain⟨t,rfl⟩:=rx
  obtain⟨k1,k2,k3⟩:=iR h4
  cases q3 with
  |some p=>exact nN f3.symm
  |none=>
   refine wpAny_getItem_str_slice (l:=q1) (u:=q2) (st:=none) ⟨_,ha,rfl,by rw[e1,e2,e3]⟩ rfl ?_
   unfold sliceMade
   have hpk:slicePicked (S l) q1 q2 none=is:=by
    unfold slicePicked
    rw[f1,f2,sL];exact k3.symm
   rw[hpk,sL]
   split
   ·rename_i hw
    have hw:=beq_iff_eq.mp (aB hw).2
    have e:aO l is=l:=by
     rw[k3]at hw ⊢
     exact uH hw
    exact aG.here R q (e.symm▸⟨t,rfl⟩)
   ·refine⟨?_,aG.tok R q ⟨s.toks,congrArg (Value.str · _) (k9 (congrArg (List.filterMap · is) (funext fun i=>getElem?_toList.symm)))⟩⟩
    obtain⟨a',b',ha',hb',e⟩:=jB lo' hi' l.length
    refine le_trans (List.length_filterMap_le _ is) (le_trans (m:=l.length) ?_ (le_trans (aZ hc1) (by decide)))
    rw[show is=_ from k3.trans e,length_map,length_range]
    exact le_trans (sub_le _ _) hb'
 |lst l=>obtain⟨hl,h⟩:=iS h;obtain⟨c,aA,rfl,hp,_,rs⟩:=rx;exact mT hl h R hp rs p1 p2 p3 ha q
 |tup l=>
  obtain⟨hst,h⟩:=iS h
  obtain rfl:=isNone_iff_eq_none.mp hst
  obtain⟨c,aA,rfl,hp,_,rs⟩:=rx
  clear rst e3
  cases p3
  exact xf h R hp.isTup rs p1 p2 ha q
 |ref m=>obtain⟨l,h0,h⟩:=bS h;obtain⟨hl,h⟩:=iS h;obtain⟨c,aA,rfl,_,hp,rs⟩:=R.list h0 rx;exact mT hl h R hp rs p1 p2 p3 ha q
 |_=>exact nN h
theorem y7(l:List V):∀{r:List Value} (j:Nat),ag h κ l r→ag h κ (l.eraseIdx j) (r.eraseIdx j):=by
 induction l with
 |nil=>intro r j e;cases e;exact rfl
 |cons v l ih=>
  intro r j e
  obtain⟨cv,r,rfl,a,b⟩:=e
  cases j with
  |zero=>exact b
  |succ j=>exact⟨cv,_,rfl,a,ih j b⟩
theorem qI{b:Nat}(l:List V):∀(j:Nat),dz b l=true→dz b (l.eraseIdx j)=true:=by
 induction l with
 |nil=>exact fun j h=>rfl
 |cons v l ih=>
  intro j h
  cases j with
  |zero=>exact(aB h).2
  |succ j=>exact and_eq_true_iff.mpr ⟨(aB h).1,ih j (aB h).2⟩
theorem vZ{O1:Oj}{k:V}{ck:Value}{P:Unit→Shared→Prop}(h:yk O v k=some O1)(R:aH w κ Fs O s.heap)(rl:RV s.heap κ v cl)(rk:RV s.heap κ k ck)(c:∀s1,dp w b κ O s κ Fs O1 s1→P () s1):wpAny (MW w) A (delItem cl ck) P E s:=by
 cases v with
 |ref m=>
  cases k with
  |int k=>
   refine hG fun _ kk=>?_
   obtain⟨l,hl,h⟩:=bS h
   obtain⟨hc,h⟩:=iS h
   obtain⟨j,hj,h⟩:=mS h
   subst h
   obtain⟨hle,hk⟩:=aB hc
   obtain⟨a,aA,rfl,hi,hp,rs⟩:=R.list hl rl
   obtain⟨u,rfl⟩:=rk
   refine kk ?_
   have hb:=u7 hk
   refine wpAny_delItem_plain hp (by simp[Builtin.List.listFitsIndex];exact⟨Int.le_of_lt (Int.lt_of_le_of_lt (by decide) hb.1),Int.lt_trans hb.2 (by decide)⟩) (aR rs▸hj) (fun h' hp' hs'=>?_) (aR rs▸le_trans (aZ hle) (by decide))
   obtain⟨R',x',hh⟩:=R.setO (o':=.list (l.eraseIdx j)) (b9 hl) hi (fun b ob hn e=>(hs'.2 b hn).trans e) ((by obtain⟨n,hn⟩:=hp';exact⟨_,hn⟩)) fun x=>⟨_,hp',by
    rw[Array.toList_eraseIdxIfInBounds]
    exact y7 l j (iT x rs)⟩
   exact c _ ⟨R',x',rfl,⟨rfl,rfl,rfl⟩,bv.set_pure (b9 hl) fun m hu=>qI l j hu,hh⟩
  |_=>exact nN h
 |_=>exact nN h
end
end
section
variable {r:V×Oj} {h:Heap} {ca:List Value} {v:V} {cv:Value} {i:Int} {t:Tok} {l:List V}
theorem ah{a b:String}(h:(ofString a==ofString b)=true):a=b:=by
 have h:=beq_iff_eq.mp h
 rw[Str.ofString_eq_toList,Str.ofString_eq_toList]at h
 have h2:a.toList.map Char.toNat=b.toList.map Char.toNat:=List.toArray_inj (congrArg Str.cps h)
 exact String.toList_inj.mp ((List.map_inj_right (fun x y (hxy:x.val.toNat=y.val.toNat)=>Char.ext (UInt32.toNat_inj.mp hxy))).mp h2)
section
variable {w:World} {A:Around} {b:Nat} {κ:Pl} {Fs:List Fr} {O:Oj} {s:Shared} {E:Value→Shared→Prop} {Q:V→Oj→Prop}
theorem bX{a:List V}{f:V→Option (V×Oj)}(e:one a f=some r)(ra:ag h κ a ca):∃v cv,f v=some r∧ca=[cv]∧RV h κ v cv∧a=[v]:=by
 cases a with
 |nil=>exact nN e
 |cons v l=>cases l with
  |nil=>obtain⟨cv,r,rfl,r1,r2⟩:=ra;cases r2;exact⟨v,cv,e,rfl,r1,rfl⟩
  |cons=>exact nN e
theorem xW{u:V}(r:ag h κ [v,u] ca):∃cv cu,ca=[cv,cu]∧RV h κ v cv∧RV h κ u cu:=by
 obtain⟨cv,r,rfl,a,cu,r',rfl,c,e⟩:=r
 cases e;exact⟨cv,cu,rfl,a,c⟩
theorem ao{f:Int→Option (V×Oj)}(e:fE v f=some r)(rv:RV h κ v cv):∃i t,f i=some r∧cv=.int i t:=by
 cases v with
 |int i=>obtain⟨t,rfl⟩:=rv;exact⟨i,t,e,rfl⟩
 |_=>exact nN e
theorem dZ{f:List Nat→Option (V×Oj)}(e:nM v f=some r)(rv:RV h κ v cv):∃l t,f l=some r∧cv=.str (S l) t:=by
 cases v with
 |str l=>obtain⟨t,rfl⟩:=rv;exact⟨l,t,e,rfl⟩
 |_=>exact nN e
theorem oX{r:V}(h:DR O v=some r)(R:aH w κ Fs O s.heap)(rv:RV s.heap κ v cv)(q:Q r O):wpAny (MW w) A (call (.builtin "len") [cv] []) (aG w b κ Fs O s RV Q) E s:=by
 have lst:∀{l:List V} {a:Addr} {aA:Array Value},(if lO l.length then some (V.int l.length)else none)=some r→s.heap.PlainList a aA→ag s.heap κ l aA.toList→wpAny (MW w) A (call (.builtin "len") [.ref a] []) (aG w b κ Fs O s RV Q) E s:=fun h hp rs=>by
  obtain⟨hl,h⟩:=iS h
  rw[aR rs]at h hl
  obtain rfl:=sI h
  exact Calls.call_len_list hp.isList (jD (aZ hl)) (aG.tok R q ⟨_,rfl⟩)
 cases v with
 |str l=>
  obtain⟨hl,h⟩:=iS h
  obtain⟨t,rfl⟩:=rv
  rw[←sL]at hl h
  clear lst
  obtain rfl:=sI h
  exact P.len_str (not_le.mpr (jD (aZ hl))) (aG.tok R q ⟨_,rfl⟩)
 |lst l=>obtain⟨a,aA,rfl,hp,_,rs⟩:=rv;exact lst h hp rs
 |ref m=>obtain⟨l,h1,h⟩:=bS h;obtain⟨a,aA,rfl,_,hp,rs⟩:=R.list h1 rv;exact lst h hp rs
 |_=>exact nN h
theorem ux(B:bI w){r:V}(h:yL O v=some r)(R:aH w κ Fs O s.heap)(rv:RV s.heap κ v cv)(q:Q r O):wpAny (MW w) A (call (.builtin "len") [cv] []) (aG w b κ Fs O s RV Q) E s:=by
 unfold yL at h
 cases v with
 |ref n=>
  cases hD:cI O n with
  |none=>simp only[hD]at h;exact oX h R rv q
  |some l=>
   simp only[hD]at h
   obtain⟨hl,h⟩:=iS h
   obtain rfl:=sI h
   obtain⟨a,hi,D⟩:=R.dict hD
   obtain⟨a',rfl,hi'⟩:=rv
   injection Option.some.inj (hi.symm.trans hi')with h9;subst h9
   cases D with
   | @mk K _ knd g kvs da ks vs is=>
    have hk:=t8.len (a:=a) (h:=s.heap) ks
    exact call_len_dict (k8 B R (Pl.mt_ob hi)) (da PG).dictOf (hk▸jD (aZ hl)) (aG.tok R q ⟨_,by rw[hk]⟩)
 |_=>exact oX h R rv q
theorem jG{x y z:Int}{t1 t2 t3 u:Tok}(R:aH w κ Fs O s.heap)(q:Q (.rng x y z) O):aG w b κ Fs O s RV Q (.ref s.heap.objs.size) { s with heap:=s.heap.push { cls:=.type "range",data:=.fields #[.int x t1,.int y t2,.int z t3] },toks:=u }:=
 .mk q (Go.grow R (bO _ _) ⟨rfl,rfl,rfl⟩) ⟨_,t1,t2,t3,rfl,R.size_off,get?_push_size _ rfl⟩
theorem yn(h:(if 0≤i&&(i.toNat<55000||ble 60000 i.toNat&&i.toNat<1000000)then some (V.str [i.toNat],O)else none)=some r)(R:aH w κ Fs O s.heap)(q:Q r.1 r.2):
 wpAny (MW w) A (call (.builtin "chr") [.int i t] []) (aG w b κ Fs O s RV Q) E s:=by
 obtain⟨hc,h⟩:=iS h
 obtain rfl:=sI h
 obtain⟨h1,h2⟩:=aB hc
 have h1:=of_decide_eq_true h1
 have h2:=(or_eq_true_iff.mp h2).imp of_decide_eq_true fun h=>And.intro (le_of_ble_eq_true (aB h).1) (of_decide_eq_true (aB h).2)
 refine P.chr_of_int ?_ (aG.tok R q ⟨_,rfl⟩)
 rw[Bool.or_eq_false_iff,decide_eq_false_iff_not,decide_eq_false_iff_not]
 exact⟨not_lt.mpr h1,not_lt.mpr (Int.le_trans (Int.self_le_toNat i) (ofNat_le.mpr (h2.elim (fun h=>le_of_lt (lt_trans h (by decide))) fun h=>le_of_lt (lt_trans h.2 (by decide)))))⟩
theorem yY(h:(if 0≤i&&i.toNat<2^64 then some (V.str (48::120::(toDigits 16 i.toNat).map Char.toNat),O)else none)=some r)(R:aH w κ Fs O s.heap)(q:Q r.1 r.2):
 wpAny (MW w) A (call (.builtin "hex") [.int i t] []) (aG w b κ Fs O s RV Q) E s:=by
 obtain⟨hc,h⟩:=iS h
 obtain rfl:=sI h
 obtain⟨h1,h2⟩:=bL hc
 have e:baseText "0x" 16 i=S (48::120::(toDigits 16 i.toNat).map Char.toNat):=by
  rw[baseText_nonneg h1]
  apply k9
  have e1:ofString ""=⟨#[]⟩:=by decide +kernel
  have e2:ofString "0x"=⟨#[48,120]⟩:=by decide +kernel
  rw[e1,e2,Str.ofString_eq_toList,show i.natAbs=i.toNat from Int.ofNat.inj ((Int.natAbs_of_nonneg h1).trans (toNat_of_nonneg h1).symm)]
  show((#[]:Array Nat)++ #[48,120]++((String.ofList (toDigits 16 i.toNat)).toList.map Char.toNat).toArray).toList=_
  simp
 have hl:(toDigits 16 i.toNat).length≤16:=StrLaws.toDigits_len (le_add_left _ _) (lt_of_lt_of_le h2 (by decide))
 refine P.hex_of_int (e▸aG.tok R q ⟨_,rfl⟩) ?_
 rw[e,sL]
 show(List.map Char.toNat _).length+1+1≤16777216
 rw[length_map]
 exact le_trans (succ_le_succ (succ_le_succ hl)) (by decide)
theorem i4{aA:Array Value}{h':Heap}{tk c':Nat}(R:aH w κ Fs O s.heap)(q:Q (.ref O.length) (O++[.list l]))(k:∀b o,s.heap.get? b=some o→h'.get? b=some o)
 (hS:h'.get? s.heap.objs.size=some { cls:=.type "list",dict:=none,data:=.seq aA c',slots:= #[] }) (rs:∀κ',bj s.heap κ h' κ'→ag h' κ' l aA.toList):
 aG w b κ Fs O s RV Q (.ref s.heap.objs.size) { s with heap:=h',toks:=tk }:=by
 exact mN R q k ⟨_,hS⟩ fun κ' x=>⟨aA,⟨c',hS⟩,rs κ' x⟩
theorem ti{α:Type}{f:α→V}{K:α→Value→Prop}(hf:∀{i v},K i v→RV h κ (f i) v)(l:List α):∀{r:List Value},r.length=l.length→(∀(j:Nat) v i,r[j]? =some v→l[j]? =some i→K i v)→ag h κ (l.map f) r:=by
 induction l with
 |nil=>intro r e _;exact List.length_eq_zero_iff.mp e
 |cons i l ih=>
  intro r e k
  cases r with
  |nil=>cases e
  |cons v r=>exact⟨v,r,rfl,hf (k 0 v i rfl rfl),ih (Nat.succ.inj e) fun j v' i' e1 e2=>k (j+1) v' i' e1 e2⟩
theorem sM(hh:A.handled=none)(h:nP O v=some l)(hle:lO l.length=true)(R:aH w κ Fs O s.heap)(r:RV s.heap κ v cv)(q:Q (.ref O.length) (O++[.list l])):
 wpAny (MW w) A (call (.type "list") [cv] []) (aG w b κ Fs O s RV Q) E s:=by
 have hz:=aZ hle
 have plain:∀{a:Addr} {aA:Array Value},iO O v=some l→wpAny (MW w) A (call (.type "list") [cv] []) (aG w b κ Fs O s RV Q) E s:=fun {_ _} e=>by
  obtain⟨a,aA,rfl,⟨n,hn⟩,rs⟩:=cM R e r
  exact call_list_seq a (.inl rfl) hn rfl rfl (fun h' c' k hS=>i4 (tk:=s.toks) R q k hS fun κ' x=>iT x rs) (aR rs▸le_trans hz (by decide))
 cases v with
 |str l'=>
  clear hle plain
  obtain rfl:=sI h
  obtain⟨t,rfl⟩:=r
  rw[length_map]at hz
  refine call_list_str hh (S l') t (fun h' tk acc' c' k hS hacc=>i4 R q k hS fun κ' x=>ti (f:=fun c=>V.str [c]) (K:=fun i v=>∃t,v=Value.str ⟨#[i]⟩ t) (fun h=>h) l' (hacc.1.trans rfl) fun j v i e1 e2=>?_) (le_trans (m:=l'.length) (le_refl _) (le_trans hz (by decide)))
  obtain⟨c,u,hc,rfl⟩:=hacc.2 j v (getElem?_toList▸e1)
  exact⟨u,by rw[←Option.some.inj (hc.symm.trans (getElem?_toList.symm.trans e2))]⟩
 |rng x y z=>
  obtain⟨hc,h⟩:=iS h
  clear hle plain
  obtain rfl:=sI h
  obtain⟨c,t1,t2,t3,rfl,hoff,ho⟩:=r
  have hlen:(bG x y z).length=(Builtin.Range.rangeSize x y z).toNat:=by rw[bG,length_map,length_range]
  rw[length_map]at hz
  refine call_list_range hh ho (kK (aB hc).1) (n:=(bG x y z).length) (by rw[hlen,qz]) (le_trans hz (by decide)) fun h' tk acc' c' k hS hacc=>i4 R q k hS fun κ' xx=>ti (f:=V.int) (K:=fun i v=>∃t,v=Value.int i t) (fun h=>h) _ hacc.1 fun j v i e1 e2=>?_
  obtain⟨u,rfl⟩:=hacc.2 j v (getElem?_toList▸e1)
  rw[bG,getElem?_map]at e2
  obtain⟨m,hm,rfl⟩:=Option.map_eq_some_iff.mp e2
  obtain⟨_,e3⟩:=List.getElem?_eq_some_iff.mp hm
  rw[List.getElem_range]at e3
  exact⟨u,by rw[e3]⟩
 |lst l'=>exact plain (a:=0) (aA:= #[]) h
 |ref m=>exact plain (a:=0) (aA:= #[]) h
 |_=>exact nN h
theorem u9(R:aH w κ Fs O s.heap)(r:RV s.heap κ (.lst l) cv)(q:Q (.ref O.length) (O++[.iter l])):wpAny (MW w) A (call (.builtin "iter") [cv] []) (aG w b κ Fs O s RV Q) E s:=by
 obtain⟨c,aA,rfl,hp,hoff,rs⟩:=r
 refine Calls.call_function_entry (by decide +kernel) (by decide +kernel) kdk_entry_iter (kdk_args_iter _) ?_
 unfold Builtin.«iter»
 refine wpAny_bind (m:=someArgs "iter" 1 2 _) (wpAny_of_eq (a:=[Value.ref c]) (by first|rfl|kernel_rfl!) ?_)
 show wpAny _ _ (pyIter (.ref c)>>=_) _ _ _
 refine wpAny_bind (wpAny_pyIter_list hp.isList (wpAny_pure ⟨_,rfl,pb R q rfl fun κ' x=>?_⟩))
 obtain⟨n,hn⟩:=hp
 exact⟨c,0,aA,⟨_,get?_push_size _ rfl,rfl,rfl⟩,⟨n,x.keep _ _ hn hoff⟩,x.off hn hoff,iT x rs⟩
theorem un{n:Nat}(hs:O[n]? =some (.iter (v::l)))(R:aH w κ Fs O s.heap)(r:RV s.heap κ (.ref n) cv)(q:Q v (O.set n (.iter l))):wpAny (MW w) A (call (.builtin "next") [cv] []) (aG w b κ Fs O s RV Q) E s:=by
 obtain⟨it,rfl,hi⟩:=r
 obtain⟨c,k,aA,hit,hl,hoff,rs⟩:=R.at' hs hi
 refine Calls.call_function_entry (by decide +kernel) (by decide +kernel) kdk_entry_next (kdk_args_next _) ?_
 unfold Builtin.«next»
 refine wpAny_bind (m:=someArgs "next" 1 2 _) (wpAny_of_eq (a:=[Value.ref it]) (by first|rfl|kernel_rfl!) ?_)
 dsimp only
 refine wpAny_bind (wpAny_specialOf (name:=ofString "__next__") hit.typeIs slot_listiter_next.lookup ?_)
 refine wpAny_ite_split (fun hab=>absurd hab (by decide)) (fun _=>?_)
 refine hG fun _ kk=>?_
 obtain⟨o,ho,hc,hd⟩:=id hit
 obtain⟨ol,hol⟩:=id hl
 obtain⟨cv,r',hv,rv,rs'⟩:=rs
 refine kk ?_
 have hx:aA[k]? =some cv:=by
  have:=List.getElem?_drop (xs:=aA.toList) (i:=k) (j:=0)
  rw[hv,Nat.add_zero]at this
  rw[←getElem?_toList];exact this.symm
 refine wpAny_bind (wpAny_callSpecial?_slot (name:=ofString "__next__") hit.typeIs slot_listiter_next
  (wpAny_call_entry slot_listiter_next hit.typeIs entry_listiter_next ?_ (args_listiter_next _)))
 show wpAny _ _ (field (.ref it) 0>>=_) _ _ s
 refine wpAny_bind (wpAny_field ho hd (x:=.ref c) rfl ?_)
 show wpAny _ _ (if(Value.ref c==Value.none)=true then _ else _) _ _ s
 refine Eq.symm (if_neg (show ¬((Value.ref c==Value.none)=true)from Bool.false_ne_true))▸?_
 show wpAny _ _ (field (.ref it) 1>>=_) _ _ s
 refine wpAny_bind (wpAny_field ho hd (x:=.int k 0) rfl ?_)
 show wpAny _ _ (seqItems? (.ref c)>>=_) _ _ s
 refine wpAny_bind (wpAny_seqItems hol rfl ?_)
 simp only[Int.toNat_natCast,hx]
 refine wpAny_bind (wpAny_setField ho hd (by simp) (wpAny_pure ⟨cv,rfl,wpAny_pure ⟨_,rfl,?_⟩⟩))
 have hit':(s.heap.update it (Obj.mapFields (·.setIfInBounds 1 (rawInt ((k:Int)+1))))).IsListIter it c (k+1):=⟨_,get?_update_self _ ho (Obj.isFreed_of_fields (Obj.data_mapFields hd _)),(Obj.cls_mapFields ..).trans hc,by
  rw[Obj.data_mapFields hd];simp[rawInt]⟩
 obtain⟨oi,hoi,_⟩:=id hit'
 obtain⟨R',x',hh⟩:=R.setO (o':=.iter l) hs hi (fun b ob hn e=>((SameBut.update ..).2 b hn).trans e) ⟨oi,hoi⟩ fun x=>
  ⟨c,k+1,aA,hit',⟨ol,x.keep _ _ hol hoff⟩,hoff,by rw[←drop_drop,hv];exact iT x rs'⟩
 exact .mk q ⟨R',x',rfl,⟨rfl,rfl,rfl⟩,bv.set_pure hs fun m hu=>(aB hu).2,hh⟩ (rM x' rv)
end
end
section
variable {h:Heap} {x y:List Nat} {l:List V} {cv cx:Value} {k n:Nat} {t:Tok} {v:V} {i:Int}
set_option backward.match.sparseCases false
theorem iq(xs:List (Int×Tok)):∀k,k≤xs.length→preSum (numAt xs.toArray) k=((xs.map (·.1)).take k).sum
 |0,_=>rfl
 |k+1,h=>by
  have hk:k<xs.length:=h
  have e:(xs.map (·.1)).take (k+1)=(xs.map (·.1)).take k++[(xs[k]).1]:=by
   rw[List.take_add_one];simp[hk]
  have n:numAt xs.toArray k=xs[k].1:=by simp[numAt,hk]
  unfold preSum
  rw[iq xs k (le_of_lt hk),e,n,List.sum_append,sum_cons,List.sum_nil,Int.add_zero]
theorem zO(l:List Int)(h:∀i∈l,0≤i):∀k,0≤(l.take k).sum∧(l.take k).sum≤l.sum:=by
 induction l with
 |nil=>intro k;rw[List.take_nil];exact⟨Int.le_refl _,Int.le_refl _⟩
 |cons i l ih=>
  intro k
  have h0:=h i (mem_cons_self ..)
  have ih:=ih fun j hj=>h j (mem_cons_of_mem _ hj)
  cases k with
  |zero=>
   have:=ih l.length
   rw[take_length]at this
   rw[take_zero,sum_cons]
   exact⟨Int.le_refl _,add_nonneg h0 this.1⟩
  |succ k=>
   rw[List.take_succ_cons,sum_cons,sum_cons]
   exact⟨add_nonneg h0 (ih k).1,Int.add_le_add_left (ih k).2 _⟩
theorem Db(l:List Int)(h:∀i∈l,0≤i):∀i∈l,i≤l.sum:=by
 induction l with
 |nil=>exact fun i hi=>nomatch hi
 |cons j l ih=>
  intro i hi
  have h0:=h j (mem_cons_self ..)
  have hl:∀i∈l,0≤i:=fun j hj=>h j (mem_cons_of_mem _ hj)
  have h1:=zO l hl l.length
  rw[take_length]at h1
  rw[sum_cons]
  rcases mem_cons.mp hi with rfl|q
  ·exact Int.le_add_of_nonneg_right h1.1
  ·have:=ih hl i q;exact Int.le_trans this (Int.le_add_of_nonneg_left h0)
section
variable {w:World} {A:Around} {b:Nat} {κ:Pl} {Fs:List Fr} {O:Oj} {s:Shared} {E:Value→Shared→Prop} {Q:V→Oj→Prop}
theorem vC(l:List V):∀{is:List Int} {r:List Value},kP l=some is→ag h κ l r→∃xs:List (Int×Tok),r=xs.map (fun p=>Value.int p.1 p.2)∧xs.map (·.1)=is:=by
 induction l with
 |nil=>intro is r e q;obtain rfl:=sI e;cases q;exact⟨[],rfl,rfl⟩
 |cons v l ih=>
  intro is r e q
  cases v with
  |int i=>
   obtain⟨js,hj,rfl⟩:=mS e
   obtain⟨cv,r',rfl,⟨t,rfl⟩,q'⟩:=q
   clear e
   obtain⟨xs,rfl,rfl⟩:=ih hj q'
   exact⟨(i,t)::xs,rfl,rfl⟩
  |_=>exact nN e
theorem xi{x:V}{is:List Int}(hh:A.handled=none)(hl:iO O x=some l)(hi:kP l=some is)(hc:is.all (fun i=>decide (0≤i))=true)(hs:is.sum.toNat<2^62)
 (R:aH w κ Fs O s.heap) (r:RV s.heap κ x cv) (q:Q (.int is.sum) O):wpAny (MW w) A (call (.builtin "sum") [cv] []) (aG w b κ Fs O s RV Q) E s:=by
 refine hG fun _ kk=>?_
 obtain⟨a,aA,rfl,hpl,rs⟩:=cM R hl r
 obtain⟨xs,hxs,rfl⟩:=vC l hi rs
 have hv:aA=intItems xs.toArray:=toList_inj.mp (by rw[hxs];simp[intItems])
 clear rs hxs
 subst hv
 refine kk ?_
 have hnn:∀i∈xs.map (·.1),0≤i:=fun i hi=>of_decide_eq_true (all_eq_true.mp hc i hi)
 refine sum_intList hh hpl.isList (fun j hj=>?_) fun h' tk t' k=>?_
 ·have hj:j<xs.length:=hj
  have hb:=zO (xs.map (·.1)) hnn (j+1)
  have hn:numAt xs.toArray j=xs[j].1:=by simp[numAt,hj]
  have hm:xs[j].1∈xs.map (·.1):=mem_map.mpr ⟨_,getElem_mem hj,rfl⟩
  have h1:=hnn _ hm
  have h2:=Db _ hnn _ hm
  rw[iq xs (j+1) hj,hn]
  unfold InLong
  have hS:=Int.lt_of_le_of_lt (Int.self_le_toNat _) (Int.lt_trans (ofNat_lt.mpr hs) (by decide:((2^62:Nat):Int)<2^63));exact⟨⟨Int.le_trans (by decide) h1,Int.lt_of_le_of_lt h2 hS⟩,Int.le_trans (by decide) hb.1,Int.lt_of_le_of_lt hb.2 hS⟩
 ·have e:preSum (numAt xs.toArray) xs.toArray.size=(xs.map (·.1)).sum:=(iq xs xs.length (le_refl _)).trans (by rw[take_of_length_le (le_of_eq (length_map ..))])
  refine Eq.symm (e)▸?_
  exact .mk q (Go.grow R k ⟨rfl,rfl,rfl⟩) ⟨_,rfl⟩
theorem y6(l:List (Str×Tok)):ag h κ ((l.map (·.1)).map fun p=>V.str p.cps.toList) (strValues l):=by
 induction l with
 |nil=>exact rfl
 |cons p l ih=>exact⟨_,_,rfl,⟨p.2,by rw[eY]⟩,ih⟩
theorem eM{l:List (Str×Tok)}{ts:List Str}{k:Nat}(R:aH w κ Fs O s.heap)(e:l.map (·.1)=ts)(q:Q (.ref O.length) (O++[.list (ts.map fun p=>.str p.cps.toList)])):
 aG w b κ Fs O s RV Q (.ref s.heap.objs.size) { s with heap:=s.heap.push { cls:=.type "list",data:=.seq (strValues l).toArray },toks:=k }:=
 mN R q (bO _ _) ⟨_,get?_push_size _ rfl⟩ fun κ' x=>⟨_,⟨_,get?_push_size _ rfl⟩,e▸y6 l⟩
theorem jC(h1:lO x.length=true)(h2:lO (Builtin.Str.spaceWords (S x) (x.length+1)).length=true)(R:aH w κ Fs O s.heap)(ra:RV s.heap κ (.str x) cv)
 (q:Q (.ref O.length) (O++[.list ((Txt.words (S x)).map fun p=>.str p.cps.toList)])):wpAny (MW w) A (call (.builtin "str.split") [cv] []) (aG w b κ Fs O s RV Q) E s:=by
 obtain⟨t,rfl⟩:=ra
 have h1:=le_trans (aZ h1) (show 1000000≤sizeLine by decide)
 have h2:=le_trans (aZ h2) (show 1000000≤sizeLine by decide)
 rw[←sL x]at h1 h2
 refine call_meets F.slot_str_split (typeIs_str _ _ _) F.entry_str_split (F.args_str_split_1 _) (meets_str_split_space (S x) t h1 h2) ?_
 cases hw:Builtin.Str.spaceWords (S x) ((S x).length+1)==[(0,(S x).length)]
 ·simp only[false_eq_true,if_false]
  rw[strsFrom_eq]
  exact eM R ((numbered_texts _ _).trans (if_neg (ne_true_of_eq_false hw)).symm) q
 ·simp only[if_true]
  exact eM (l:=[(S x,t)]) R (if_pos hw).symm q
theorem ke{u:Tok}(h0':(!y.isEmpty)=true)(h1:lO x.length=true)
 (h2:lO (Builtin.Str.partsBetween (S x) (Builtin.Str.occurrences (S x) (S y) 0 x.length (x.length+1)) y.length).length=true) (R:aH w κ Fs O s.heap)
 (q:Q (.ref O.length) (O++[.list ((Txt.split (S x) (S y)).map fun p=>.str p.cps.toList)])):wpAny (MW w) A (call (.builtin "str.split") [.str (S x) t,.str (S y) u] []) (aG w b κ Fs O s RV Q) E s:=by
 have h1:=le_trans (aZ h1) (show 1000000≤sizeLine by decide)
 have h2:=le_trans (aZ h2) (show 1000000≤sizeLine by decide)
 have hy:((S y).length==0)=false:=by
  rw[sL];cases y with|nil=>cases h0'|cons=>rfl
 rw[←sL x]at h1 h2
 rw[←sL y]at h2
 cases hc:(decide ((S x).length<(S y).length)||decide (Builtin.Str.strKind (S x)<Builtin.Str.strKind (S y)))
 ·cases hf:(Builtin.Str.occurrences (S x) (S y) 0 (S x).length ((S x).length+1)).isEmpty
  ·refine call_meets F.slot_str_split (typeIs_str _ _ _) F.entry_str_split (F.args_str_split_2 _ _) (meets_str_split_sep (S x) (S y) t u hc hy hf h1 h2) ?_
   show wants _ E _ { s with toks:=_,heap:=s.heap.push { cls:=.type "list",data:=.seq (strsFrom s.toks (Builtin.Str.partsBetween (S x) (Builtin.Str.occurrences (S x) (S y) 0 (S x).length ((S x).length+1)) (S y).length)).toArray } }
   rw[strsFrom_eq]
   exact eM R ((numbered_texts _ _).trans ((if_neg (ne_true_of_eq_false hc)).trans (if_neg (ne_true_of_eq_false hf))).symm) q
  ·exact call_meets F.slot_str_split (typeIs_str _ _ _) F.entry_str_split (F.args_str_split_2 _ _) (meets_str_split_not_found (S x) (S y) t u hc hy hf)
    (eM (l:=[(S x,t)]) R ((if_neg (ne_true_of_eq_false hc)).trans (if_pos hf)).symm q)
 ·exact call_meets F.slot_str_split (typeIs_str _ _ _) F.entry_str_split (F.args_str_split_2 _ _) (meets_str_split_cannot_occur (S x) (S y) t u hc)
   (eM (l:=[(S x,t)]) R (if_pos hc).symm q)
theorem qg(l:List V):∀{ts:List (List Nat)} {r:List Value},oA l=some ts→ag h κ l r→∃xs:List (Str×Tok),r=strValues xs∧xs.map (·.1)=ts.map S:=by
 induction l with
 |nil=>intro ts r e q;obtain rfl:=sI e;cases q;exact⟨[],rfl,rfl⟩
 |cons v l ih=>
  intro ts r e q
  cases v with
  |str x=>
   obtain⟨js,hj,rfl⟩:=mS e
   obtain⟨cv,r',rfl,⟨t,rfl⟩,q'⟩:=q
   obtain⟨xs,rfl,hx⟩:=ih hj q'
   exact⟨(S x,t)::xs,rfl,congrArg (S x:: ·) hx⟩
  |_=>exact nN e
theorem u8{ts:List (List Nat)}(hl:iO O v=some l)(ht:oA l=some ts)(hok:JoinOk (S x) (ts.map S)=true)(R:aH w κ Fs O s.heap)(rb:RV s.heap κ v cv)(q:Q (.str (Txt.join (S x) (ts.map S)).cps.toList) O):
 wpAny (MW w) A (call (.builtin "str.join") [.str (S x) t,cv] []) (aG w b κ Fs O s RV Q) E s:=by
 refine hG fun _ kk=>?_
 obtain⟨a,aA,rfl,hpl,rs⟩:=cM R hl rb
 obtain⟨xs,hxs,hx⟩:=qg l ht rs
 have hv:aA=(strValues xs).toArray:=toList_inj.mp hxs
 clear rs hxs
 subst hv
 refine kk ?_
 exact SC.join hpl.isList hx hok fun t' k=>aG.tok R q ⟨_,by rw[eY]⟩
open Builtin Builtin.Str in
theorem su(x y:Str)(i j:Int)(t u v k:Tok):Gives («str.find» ⟨[.str x t,.str y u,.int i v,.int j k],[]⟩) (.int (match occurrences x y (fromIndex x.length i) (min (fromIndex x.length j) x.length) 1 with|k::_=>(k:Int)|[]=> -1)):=by
 show Gives (match occurrences x y (fromIndex x.length i) (min (fromIndex x.length j) x.length) 1 with|k::_=>retInt k|[]=>(do rule "str.find.not-found";retInt (-1))) _
 cases occurrences x y (fromIndex x.length i) (min (fromIndex x.length j) x.length) 1 with
 |nil=>exact .rule (.of_eq rfl)
 |cons k _=>exact .of_eq rfl
theorem tC{u:Tok}(R:aH w κ Fs O s.heap)(q:Q (.int (cH x y 0 x.length)) O):wpAny (MW w) A (call (.builtin "str.find") [.str (S x) t,.str (S y) u] []) (aG w b κ Fs O s RV Q) E s:=by
 refine call_gives F.slot_str_find (typeIs_str _ _ _) F.entry_str_find (F.args_str_find_2 _ _) (gives_str_find (S x) (S y) t u) ?_
 rw[sL]
 exact aG.tok R q ⟨_,rfl⟩
theorem tB{j:Int}{u v k:Tok}(R:aH w κ Fs O s.heap)(q:Q (.int (cH x y (d4 x.length i) (min (d4 x.length j) x.length))) O):wpAny (MW w) A (call (.builtin "str.find") [.str (S x) t,.str (S y) u,.int i v,.int j k] []) (aG w b κ Fs O s RV Q) E s:=by
 refine call_gives F.slot_str_find (typeIs_str _ _ _) F.entry_str_find (F.args_str_find_4 _ _ _ _) (su (S x) (S y) i j t u v k) ?_
 rw[sL]
 exact aG.tok R q ⟨_,rfl⟩
theorem sK(hl:lO (Txt.lower (S x)).length=true)(R:aH w κ Fs O s.heap)(q:Q (.str (Txt.lower (S x)).cps.toList) O):wpAny (MW w) A (call (.builtin "str.lower") [.str (S x) t] []) (aG w b κ Fs O s RV Q) E s:=by
 refine SC.lower ?_ (aG.tok R q ⟨_,by rw[eY]⟩)
 show decide (_>16777216)=false
 exact decide_eq_false (Nat.not_lt.mpr (le_trans (aZ hl) (by decide)))
theorem mR{l':List V}{a:Addr}{h':Heap}{vals':Array Value}(hs:lA O n=some l)(hi:κ.ob[n]? =some (.obj a))(hw:dC b n v=true)(hm:∀x∈l',x∈l∨x=v)(R:aH w κ Fs O s.heap)(sb:SameBut a s.heap h')(hp:h'.PlainList a vals')(rs:bj s.heap κ h' κ→ag h' κ l' vals'.toList):
 dp w b κ O s κ Fs (O.set n (.list l')) { s with heap:=h' }:=by
 obtain⟨m,hm'⟩:=id hp
 obtain⟨R',x',hh⟩:=R.setO (o':=.list l') (b9 hs) hi (fun b ob hn e=>(sb.2 b hn).trans e) ⟨_,hm'⟩ fun x=>⟨_,hp,rs x⟩
 refine⟨R',x',rfl,⟨rfl,rfl,rfl⟩,?_,hh⟩
 rcases or_eq_true_iff.mp hw with q|q
 ·exact bv.set_high (of_decide_eq_true q)
 ·exact bv.set_pure (b9 hs) fun k hu=>(gH _).mpr fun x hx=>(hm x hx).elim ((gH _).mp hu x) fun e=>e▸io q
theorem nw(hs:lA O n=some l)(hw:dC b n v=true)(hl:lO l.length=true)(R:aH w κ Fs O s.heap)(rx:RV s.heap κ (.ref n) cx)(rv:RV s.heap κ v cv)(q:Q .none (O.set n (.list (l++[v])))):
 wpAny (MW w) A (call (.builtin "list.append") [cx,cv] []) (aG w b κ Fs O s RV Q) E s:=by
 obtain⟨a,aA,rfl,hi,hp,rs⟩:=R.list hs rx
 refine wpAny_list_append_plain hp (fun h' hp' sb=>.mk q (mR hs hi hw (fun x hx=>(mem_append.mp hx).imp id mem_singleton.mp) R sb hp' fun x=>?_) rfl) (aR rs▸le_trans (aZ hl) (by decide))
 rw[Array.toList_push];exact eF (iT x rs) ⟨_,_,rfl,rM x rv,rfl⟩
theorem pk(hs:lA O n=some l)(h0i:0≤i)(hil:i≤l.length)(hw:dC b n v=true)(hl:lO l.length=true)(R:aH w κ Fs O s.heap)(rx:RV s.heap κ (.ref n) cx)
 (rv:RV s.heap κ v cv) (q:Q .none (O.set n (.list (l.take i.toNat++v::l.drop i.toNat)))):wpAny (MW w) A (call (.builtin "list.insert") [cx,.int i t,cv] []) (aG w b κ Fs O s RV Q) E s:=by
 refine hG fun _ kk=>?_
 obtain⟨a,aA,rfl,hi,⟨m,hm⟩,rs⟩:=R.list hs rx
 refine kk ?_
 rw[aR rs]at hil hl
 have hl:=aZ hl
 refine call_meets F.slot_list_insert (T:="list") ⟨_,hm,rfl⟩ F.entry_list_insert (F.args_list_insert_3 _ _ _) (AutoSeq1.list_insert_list_int_val_1 a aA m i t cv ?_ (le_trans hl (by decide))) ⟨hm,?_⟩
 ·have:Builtin.List.listFitsIndex i=true:=by
   unfold Builtin.List.listFitsIndex
   simp;exact⟨Int.le_trans (by decide) h0i,Int.lt_of_le_of_lt hil (Int.lt_of_le_of_lt (ofNat_le.mpr hl) (by decide))⟩
  rw[this];decide
 ·have hk:(if i<0 then(i+(aA.size:Int)).toNat else min i.toNat aA.size)=i.toNat:=by
   rw[if_neg (not_lt.mpr h0i)];exact min_eq_left (Int.toNat_le.mpr hil)
  have hp':(s.heap.update a (Obj.mapSeq fun xs:Array Value=>let k:=if i<0 then(i+(xs.size:Int)).toNat else min i.toNat xs.size;(xs.extract 0 k).push cv++xs.extract k)).PlainList a _:=⟨_,get?_update_self _ hm rfl⟩
  dsimp only at hp'
  rw[hk]at hp'
  refine .mk q (mR hs hi hw (fun x hx=>?_) R (SameBut.update ..) hp' fun x=>?_) rfl
  ·exact(mem_append.mp hx).elim (fun h=>.inl (List.mem_of_mem_take h)) fun h=>(mem_cons.mp h).elim .inr fun h=>.inl (List.mem_of_mem_drop h)
  ·have e:((aA.extract 0 i.toNat).push cv++aA.extract i.toNat).toList=aA.toList.take i.toNat++cv::aA.toList.drop i.toNat:=by
    have:aA.size-i.toNat=aA.toList.length-i.toNat:=rfl
    simp[take_of_length_le]
   rw[e]
   exact eF (nT _ (iT x rs)) ⟨_,_,rfl,rM x rv,jc _ (iT x rs)⟩
noncomputable def y8:Option (List Nat)→Option Value→Prop
 |none,none=>True
 |some x,some v=>∃t,v=.str (S x) t
 |_,_=>False
noncomputable def nS(w:World):Prop:=∀a l,GG.tabs.lookup a=some l→(a==sysModules)=false∧∃f,(HW w).MapOf (intKind PG w) a f∧∀i:Int,0≤i→i<2^60→y8 (l.lookup i) (f i)
theorem lV{es:List (Int×List Nat)}{f:Int→Option Value}{d:V}{cd:Value}{k:Nat}(o:y8 (es.lookup i) (f i))(R:aH w κ Fs O s.heap)(rd:RV s.heap κ d cd)(q:Q (nZ es i d) O):aG w b κ Fs O s RV Q ((f i).getD cd) { s with toks:=k }:=by
 unfold nZ at q
 cases hl:es.lookup i with
 |none=>
  rw[hl]at q o
  cases hf:f i with
  |none=>exact aG.tok R q rd
  |some v=>rw[hf]at o;exact o.elim
 |some x=>
  rw[hl]at q o
  cases hf:f i with
  |none=>rw[hf]at o;exact o.elim
  |some v=>rw[hf]at o;exact aG.tok R q o
theorem AY(T:nS w){ad:Addr}{a:List V}{r:V}{ca:List Value}(h:Ea GG ("get":Str) ad a=some r)(R:aH w κ Fs O s.heap)(ra:ag s.heap κ a ca)(q:Q r O):wpAny (MW w) A (call (.builtin "dict.get") (.ref ad::ca) []) (aG w b κ Fs O s RV Q) E s:=by
 obtain⟨es,h1,h⟩:=bS (iS h).2
 obtain⟨hne,f,⟨o,ces,n,ho,hr⟩,hf⟩:=T _ _ h1
 have hm:s.heap.MapOf (intKind PG w) ad f:=⟨o,ces,n,R.base _ _ ho,hr⟩
 have hty:s.TypeIs (.ref ad) "dict":=⟨o,R.base _ _ ho,hr.1.1⟩
 have self:∀(i:Int) (t:Tok),(intKind PG w).is i (.int i t)=true:=fun i t=>decide_eq_true rfl
 have bd:∀{i:Int},(decide (0≤i)&&decide (i.toNat<2^60))=true→y8 (es.lookup i) (f i):=fun {i} hc=>hf i (bL hc).1 (Int.lt_of_le_of_lt (Int.self_le_toNat _) (ofNat_lt.mpr (bL hc).2))
 cases a with
 |nil=>exact nN h
 |cons v a=>
  obtain⟨cv,ca,rfl,rv,ra⟩:=ra
  cases a with
  |nil=>
   cases ra
   cases v with
   |int i=>
    obtain⟨hc,h⟩:=iS h
    obtain rfl:=sI h
    obtain⟨t,rfl⟩:=rv
    refine call_meetsIn F.slot_dict_get hty F.entry_dict_get (F.args_dict_get_2 _ _) (meets_dict_get (intKind PG w) (k:=i) ad (self i t) hne) ⟨f,hm,?_⟩
    exact lV (bd hc) R (show RV _ _ .none .none from rfl) q
   |_=>exact nN h
  |cons d a=>
   obtain⟨cd,ca,rfl,rd,ra⟩:=ra
   cases a with
   |cons=>exact nN h
   |nil=>
    cases ra
    cases v with
    |int i=>
     obtain⟨hc,h⟩:=iS h
     obtain rfl:=sI h
     obtain⟨t,rfl⟩:=rv
     refine call_meetsIn F.slot_dict_get hty F.entry_dict_get (F.args_dict_get_3 _ _ _) (meets_dict_get_default (intKind PG w) (k:=i) ad (self i t) hne _) ⟨f,hm,?_⟩
     exact lV (bd hc) R rd q
    |_=>exact nN h
end
set_option backward.match.sparseCases true
end
section
variable {k:Nat} {items:Array Value}
section
variable {prog:Program} {w:World} {A:Around} {E:Value→Shared→Prop} {s:Shared} {I ax:Addr} {n:Nat} {P:Nat→Value→Prop} {St:Nat→Heap→Prop}
theorem rm{Q:Option Value→Shared→Prop}(hh:A.handled=none)(hit:s.heap.IsListIter I ax k)(hl:s.heap.IsList ax items)(hx:items[k]? =none)
 (hQ:∀h',Heap.ExtBut I s.heap h'→(∃o,h'.get? I=some o)→Q none { s with heap:=h' }):wpAny (model prog w) A (pyNext (.ref I)) Q E s:=by
 refine hG fun _ kk=>?_
 obtain⟨o,ho,hc,hd⟩:=id hit
 obtain⟨ol,hol,_,nl,hdl⟩:=hl
 refine kk ?_
 have hI:=get?_update_self (Obj.mapFields (·.setIfInBounds 0 Value.none)) ho (Obj.isFreed_of_fields (Obj.data_mapFields hd _))
 unfold pyNext
 refine wpAny_bind (wpAny_attempt (wpAny_callSpecial?_slot (name:=ofString "__next__") hit.typeIs slot_listiter_next
  (wpAny_call_entry slot_listiter_next hit.typeIs entry_listiter_next ?_ (args_listiter_next _))))
 show wpAny _ _ (field (.ref I) 0>>=_) _ _ s
 refine wpAny_bind (wpAny_field ho hd (x:=.ref ax) rfl ?_)
 show wpAny _ _ (if(Value.ref ax==Value.none)=true then _ else _) _ _ s
 rw[if_neg (show ¬((Value.ref ax==Value.none)=true)from Bool.false_ne_true)]
 show wpAny _ _ (field (.ref I) 1>>=_) _ _ s
 refine wpAny_bind (wpAny_field ho hd (x:=.int k 0) rfl ?_)
 show wpAny _ _ (seqItems? (.ref ax)>>=_) _ _ s
 refine wpAny_bind (wpAny_seqItems hol hdl ?_)
 simp only[Int.toNat_natCast,hx]
 refine wpAny_bind (wpAny_rule (wpAny_bind (wpAny_setField ho hd (by simp) ?_)))
 show wpAny _ _ (newExc (.type "StopIteration") []>>=_) _ _ _
 refine wpAny_bind ?_
 simp only[newExc,newTuple]
 refine wpAny_bind (wpAny_newObj_type ?_ (by size_fits))
 refine wpAny_bind (m:=firstArgMember _ _) (wpAny_of_eq (a:=Value.none) (by first|rfl|(simp only[firstArgMember];rfl)) ?_)
 refine wpAny_newObj_type ?_ (by size_fits)
 delta raiseNew
 refine wpAny_bind (wpAny_handled ?_)
 refine Eq.symm (show A.in1.handled=none from hh)▸?_
 refine wpAny_bind (wpAny_pure (wpAny_throw ?_))
 refine wpAny_bind (wpAny_isInstance (T:="StopIteration") (b:=true) ⟨_,get?_push_size _ rfl,rfl⟩ (by rw[isSubtype_type];kernel_rfl) ?_)
 exact wpAny_pure (hQ _ (((SameBut.update ..).extBut.push _).push _) ⟨_,get?_push_of_some _ (get?_push_of_some _ hI)⟩)
theorem hint_li{Q:Bool→Shared→Prop}(hT:s.TypeIs (.ref I) "list_iterator")(h:Q false s):wpAny (model prog w) A (Builtin.List.listLengthHint (.ref I)) Q E s:=by
 unfold Builtin.List.listLengthHint
 refine wpAny_bind (wpAny_specialOf hT F.nolen_li ?_)
 show wpAny _ A (specialOf (Value.ref I) (ofString "__length_hint__")>>=_) _ _ _
 refine wpAny_bind (wpAny_specialOf hT F.hint_li ?_)
 generalize hid:("list_iterator.__length_hint__":String)=id0
 wp_delta
 refine Eq.symm (show splitId id0=some ("list_iterator","__length_hint__")from by subst hid;decide +kernel)▸?_
 subst hid
 refine wpAny_bind (wpAny_isInstance (b:=true) hT (by rw[isSubtype_type];kernel_rfl) ?_)
 exact wpAny_pure h
theorem nI{Q:Value→Shared→Prop}(hh:A.handled=none)(hit:s.heap.IsListIter I ax k)(hl:s.heap.IsList ax items)(hx:items[k]? =none)
 (hQ:∀h' tk c',(∀b o,b≠I→s.heap.get? b=some o→h'.get? b=some o)→(∃o,h'.get? I=some o)→h'.get? s.heap.objs.size=some { cls:=.type "list",dict:=none,data:=.seq #[] c',slots:= #[] }→Q (.ref s.heap.objs.size) { s with heap:=h',toks:=tk }):
 wpAny (model prog w) A (call (.type "list") [.ref I]) Q E s:=by
 have hI:I<s.heap.objs.size:=by obtain⟨_,ho,_⟩:=hit;exact lt_size ho
 have hSI:s.heap.objs.size≠I:=ne_of_gt hI
 refine callType_codes (Q₁:=fun obj s₁=>obj=.ref s.heap.objs.size∧s₁={ s with heap:=s.heap.push { cls:=.type "list",data:=.seq #[] } }) F.called_list (F.typeCall_list_1 _) F.entry_list_init
  (code_list_new _ ⟨rfl,rfl⟩) fun obj s₁ h₁=>?_
 obtain⟨rfl,rfl⟩:=h₁
 have hS:(s.heap.push { cls:=.type "list",data:=.seq #[] }).get? s.heap.objs.size=some { cls:=.type "list",data:=.seq #[] }:=get?_push_size _ rfl
 refine⟨⟨_,hS,rfl⟩,F.args_list_init_2 _ _,?_⟩
 show wpAny _ _ (do let old ←Builtin.List.listItems (.ref s.heap.objs.size);Builtin.List.listUpdate (.ref s.heap.objs.size) (fun _=> #[]);letGo old.toList.reverse;Builtin.List.listExtendWith (.ref s.heap.objs.size) (.ref I) .none) _ _ _
 refine wpAny_bind ?_
 unfold Builtin.List.listItems
 refine wpAny_bind (wpAny_seqItems hS rfl (wpAny_pure ?_))
 show wpAny _ _ (updateSeq s.heap.objs.size (fun _=> #[])>>=fun _=>letGo (#[]:Array Value).toList.reverse>>=fun _=>Builtin.List.listExtendWith (.ref s.heap.objs.size) (.ref I) .none) _ _ _
 refine wpAny_bind (wpAny_updateSeq hS rfl ?_)
 have hS₂:=get?_update_self (Obj.mapSeq (fun _=>(#[]:Array Value))) hS rfl
 have oth:∀b o,s.heap.get? b=some o→((s.heap.push { cls:=.type "list",data:=.seq #[] }).update s.heap.objs.size (Obj.mapSeq (fun _=>(#[]:Array Value)))).get? b=some o:=
  fun b o e=>(Heap.get?_update_other _ _ (Ne.symm (ne_of_lt (lt_size e)))).trans (get?_push_of_some _ e)
 refine wpAny_bind (wpAny_letGo ?_)
 have hit2:=hit.at fun o e=>oth I o e
 have hl2:=hl.at fun o e=>oth ax o e
 unfold Builtin.List.listExtendWith
 refine wpAny_bind (wpAny_typeOf (T:="list_iterator") hit2.typeIs ?_)
 have h1:Builtin.List.listSameRef (.ref s.heap.objs.size) (.ref I)=false:=by simp[Builtin.List.listSameRef,hSI]
 rw[if_neg (by rw[h1];decide)]
 refine wpAny_bind (wpAny_pyIter_listiter hit2 ?_)
 refine wpAny_bind (wpAny_holding (hint_li hit2.typeIs ?_))
 rw[if_neg (by decide)]
 refine wpAny_pure ⟨plainId_quiet F.plain_extend_loop _,codeAny_builtin F.entry_extend_loop ?_⟩
 rw[Around.under_plainId F.plain_extend_loop _]
 show wpAny _ _ (pyNext (.ref I)>>=_) _ _ _
 exact wpAny_bind (rm hh hit2 hl2 hx fun h' he hx'=>wpAny_pure ⟨rfl,hQ h' _ _ (fun b o hb e=>he b o hb (oth b o e)) hx' (he _ _ hSI hS₂)⟩)
end
section
variable {w:World} {A:Around} {E:Value→Shared→Prop} {s:Shared} {b:Nat} {κ:Pl} {Fs:List Fr} {O:Oj} {Q:V→Oj→Prop}
theorem kj{m:Nat}{cv:Value}(hh:A.handled=none)(h:O[m]? =some (.iter []))(R:aH w κ Fs O s.heap)(r:RV s.heap κ (.ref m) cv)(q:Q (.ref O.length) (O.set m .dead++[.list []])):wpAny (MW w) A (call (.type "list") [cv] []) (aG w b κ Fs O s RV Q) E s:=by
 obtain⟨a,rfl,ha⟩:=r
 obtain⟨bb,k,aA,it,hpl,hob,rs⟩:=R.at' h ha
 have hx:aA[k]? =none:=Array.getElem?_eq_none (by have:=drop_eq_nil_iff.mp rs;rwa[Array.length_toList]at this)
 have hm:=(List.getElem?_eq_some_iff.mp h).1
 refine nI hh it hpl.isList hx fun h' tk c' hk hex hS=>?_
 obtain⟨RA,xA⟩:=R.addO (o:=.list []) (h':=s.heap.push { cls:=.type "list",data:=.seq #[] c' }) (bO _ _) ⟨_,get?_push_size _ rfl⟩ fun κ' x=>⟨#[],⟨c',get?_push_size _ rfl⟩,rfl⟩
 obtain⟨RB,xB,hid⟩:=RA.setO (o':=.dead) (h':=h') (by rw[getElem?_append_left hm];exact h) (cR xA.pre ha) (fun c ob hn e=>(Heap.get?_push_cases e).elim (fun z=>by rw[z.1,z.2];exact hS) (hk c ob hn)) hex fun _=>trivial
 rw[List.set_append_left _ _ hm]at RB
 refine .mk q ⟨RB,xA.trans xB,rfl,⟨rfl,rfl,rfl⟩,?_,fun c hc=>⟨hc,fun o e=>(hid c hc).2 o (bO _ _ c o e)⟩⟩ ⟨_,rfl,by rw[←R.len,getElem?_append_right (le_refl _),sub_self];rfl⟩
 exact(bv.set_pure (o':=.dead) h fun _ _=>trivial).trans (bv.app _ _ _)
end
end
section
variable {f:Nat→Nat→Option Bool} {vs:List Value} {p:Array Nat} {a c:Int} {n:Nat} {l:List V} {v x y:V} {h:Heap} {cv cx cy:Value} {ta tc:Tok} {t:Bool}
section
variable {w:World} {A:Around} {b:Nat} {κ:Pl} {Fs:List Fr} {O:Oj} {s:Shared} {E:Value→Shared→Prop} {Q:V→Oj→Prop}
theorem Fh{α:Type}{cmp:Nat→Nat→(Bool→Shared→Prop)→Shared→Prop}{Q:α→Shared→Prop}(hf:∀i j c,f i j=some c→∀C:Bool→Shared→Prop,C c s→cmp i j C s)(t:KasT α):
 ∀{a:α},pT f t=some a→Q a s→t.kasWp cmp Q s:=by
 induction t with
 |ret a=>intro a h q;obtain rfl:=sI h;exact q
 |ask i j k ih=>
  intro a h q
  obtain⟨c,h1,h2⟩:=bS h
  exact hf i j c h1 _ (ih c h2 q)
noncomputable abbrev r9(h:Heap)(a:Addr)(vs:List Value):Heap:=((h.update a (Obj.mapSeq fun _=>(#[]:Array Value))).push (seqObj "tuple" vs.toArray 0)).push (seqObj "list" #[] 0)
theorem xm{κ:SortKind}{a:Addr}{P:PySem.Fin→Shared→Prop}(ho:s.heap.get? a=some (seqObj "list" vs.toArray n))
 (h2:2≤vs.length∨vs.length=1∧p= #[0]) (h64:vs.length<64) (hp:pT f (kas_sort vs.length)=some p)
 (hk:∀h',(∀b o,b≠a→s.heap.get? b=some o→h'.get? b=some o)→∀Q:SortKind→Shared→Prop,Q κ { s with heap:=h' }→wpAny (MW w) A (keyKind' vs.toArray) Q ba { s with heap:=h' })
 (hf:∀h',(∀b o,b≠a→s.heap.get? b=some o→h'.get? b=some o)→∀i j c,f i j=some c→∀C:Bool→Shared→Prop,C c { s with heap:=h' }→kas_ask PG w A κ vs i j C { s with heap:=h' })
 (h:∀h' c,(∀b o,b≠a→s.heap.get? b=some o→h'.get? b=some o)→h'.get? a=some (seqObj "list" (toArray (p.toList.map fun i=>vs.getD i Value.none)) c)→P (.done (.ret .none)) { s with heap:=h' }):
 wpAny (MW w) A (Builtin.«list.sort» ⟨[.ref a],[]⟩) P E s:=by
 have ha:a<s.heap.objs.size:=lt_size ho
 have s1:=SameBut.update s.heap a (Obj.mapSeq fun _=>(#[]:Array Value))
 obtain⟨e1,ho1⟩:∃e1,(s.heap.update a (Obj.mapSeq fun _=>(#[]:Array Value))).get? a=some (seqObj "list" #[] e1):=⟨_,get?_update_seq ho fun _=> #[]⟩
 have keep:∀b o,b≠a→s.heap.get? b=some o→(r9 s.heap a vs).get? b=some o:=
  fun b o hb e=>get?_push_of_some _ (get?_push_of_some _ ((s1.2 b hb).trans e))
 have na:(r9 s.heap a vs).get? a=some (seqObj "list" #[] e1):=get?_push_of_some _ (get?_push_of_some _ ho1)
 rw[list_sort_plain]
 refine wpAny_bind (listItems_at ho rfl ?_)
 refine wpAny_bind (listUpdate_at ho rfl ?_ (by rw[List.size_toArray,sizeLine_eq];exact le_trans (le_of_lt h64) (by decide)) (zero_le _))
 refine wpAny_bind (seqEpoch_at ho1 rfl ?_)
 refine wpAny_bind (wpAny_newTuple ?_ (by show vs.length≤_;rw[sizeLine_eq];exact le_trans (le_of_lt h64) (by decide)))
 refine wpAny_bind (wpAny_newList ?_ (zero_le _))
 refine wpAny_holding ?_
 show wpAny (MW w) A _ P E { s with heap:=r9 s.heap a vs }
 rcases h2 with h2|⟨h2,rfl⟩
 rotate_left
 ·obtain⟨v,rfl⟩:=List.length_eq_one_iff.mp h2
  dsimp only
  rw[if_pos (show([v]:List Value).toArray.size<2 from lt_succ_self 1),if_pos (show([v]:List Value).toArray.size<2 from lt_succ_self 1)]
  refine wpAny_bind (wpAny_pure ?_)
  rw[StateT.run_pure]
  refine wpAny_bind (wpAny_pure ?_)
  dsimp only
  rw[show Array.map (fun x=>x.snd) (arrOf (SortSt.mk' general' (([v]:List Value).toArray.zip [v].toArray) #[] 7 none))= #[v]from by
   show Array.map (fun x=>x.2) (Array.zip #[v] #[v])=_
   exact toList_inj.mp (by rw[Array.toList_map,Array.toList_zip];rfl)]
  refine wpAny_bind (seqEpoch_at na rfl ?_)
  refine wpAny_bind (listUpdate_at na rfl ?_ (zero_le _) (show 1≤sizeLine+1 from le_add_left 1 _))
  simp only[bne_self_eq_false,false_eq_true,if_false]
  have s2:=SameBut.update (r9 s.heap a [v]) a (Obj.mapSeq fun _=> #[v])
  exact wpAny_pure (h _ _ (fun b o hb e=>(s2.2 b hb).trans (keep b o hb e)) (get?_update_seq na fun _=> #[v]))
 have hn2:¬vs.toArray.size<2:=by rw[List.size_toArray];exact Nat.not_lt.mpr h2
 dsimp only
 rw[if_neg hn2,if_neg hn2]
 refine wpAny_bind (wpAny_mono (hk _ keep (fun κ' s'=>κ'=κ∧s'={ s with heap:=r9 s.heap a vs }) ⟨rfl,rfl⟩) ?_ fun _ _ x=>x.elim)
 rintro κ' s' ⟨rfl,rfl⟩
 refine wpAny_bind (wpAny_mono (kat_run (Q:=fun st' s'=>s'={ s with heap:=r9 s.heap a vs }∧∃q:Array Nat,q=p∧q.size=vs.length∧arrOf st'=q.map (kas_item (vs.toArray.zip vs.toArray))∧failedOf st'=none)
  (G:=fun q s'=>q=p∧s'={ s with heap:=r9 s.heap a vs })
  rfl h2 h64 (fun p' st' s' a1 a2 a3 a4=>⟨a4.2,p',a4.1,a1,a2,a3⟩) (Fh (hf _ keep) _ hp ⟨rfl,rfl⟩)) ?_ fun _ _ e=>e)
 rintro⟨⟨⟩,st'⟩ s' ⟨rfl,q,rfl,hps,har,hfl⟩
 dsimp only
 have hout:=kat_snds rfl har
 have hsz:(toArray (q.toList.map fun i=>vs.getD i Value.none)).size=vs.length:=by rw[List.size_toArray,length_map,Array.length_toList,hps]
 rw[hout]
 refine wpAny_bind (seqEpoch_at na rfl ?_)
 refine wpAny_bind (listUpdate_at na rfl ?_ (zero_le _) (le_trans (le_of_eq hsz) (by rw[sizeLine_eq];exact le_trans (le_of_lt h64) (by decide))))
 rw[hfl]
 simp only[bne_self_eq_false,false_eq_true,if_false]
 have s2:=SameBut.update (r9 s.heap a vs) a (Obj.mapSeq fun _=>toArray (q.toList.map fun i=>vs.getD i Value.none))
 exact wpAny_pure (h _ _ (fun b o hb e=>(s2.2 b hb).trans (keep b o hb e)) (get?_update_seq na fun _=>toArray (q.toList.map fun i=>vs.getD i Value.none)))
noncomputable abbrev xO(h:Heap)(vs:List Value):Heap:=((h.push (seqObj "list" #[] 0)).update h.objs.size (Obj.mapSeq (· ++vs.toArray))).push (seqObj "list" vs.toArray 0)
theorem qr{κ:SortKind}{l:Addr}{Q:Value→Shared→Prop}(hl:s.heap.IsList l vs.toArray)
 (h2:2≤vs.length∨vs.length=1∧p= #[0]) (h64:vs.length<64) (hp:pT f (kas_sort vs.length)=some p)
 (hk:∀h',(∀b o,s.heap.get? b=some o→h'.get? b=some o)→∀Q:SortKind→Shared→Prop,Q κ { s with heap:=h' }→wpAny (MW w) A.in1.in1 (keyKind' vs.toArray) Q ba { s with heap:=h' })
 (hf:∀h',(∀b o,s.heap.get? b=some o→h'.get? b=some o)→∀i j c,f i j=some c→∀C:Bool→Shared→Prop,C c { s with heap:=h' }→kas_ask PG w A.in1.in1 κ vs i j C { s with heap:=h' })
 (h:∀D h' c,(∀b o,s.heap.get? b=some o→h'.get? b=some o)→s.heap.get? D=none→h'.get? D=some (seqObj "list" (toArray (p.toList.map fun i=>vs.getD i Value.none)) c)→Q (.ref D) { s with heap:=h' }):
 wpAny (MW w) A (call (.builtin "sorted") [.ref l] []) Q E s:=by
 refine Calls.call_function_entry kind_sorted plain_sorted entry_sorted (args_sorted1 _) ?_
 unfold Builtin.«sorted»
 refine wpAny_bind (m:=checkCount "sorted" 1 1 _) (wpAny_pure ?_)
 refine wpAny_bind (collect_list hl ?_ (by rw[sizeLine_eq];exact le_trans (le_of_lt h64) (by decide)))
 refine wpAny_bind (wpAny_newList ?_ (by rw[sizeLine_eq];exact le_trans (le_of_lt h64) (by decide)))
 have hsz:((s.heap.push (seqObj "list" #[] 0)).update s.heap.objs.size (Obj.mapSeq (· ++vs.toArray))).objs.size=s.heap.objs.size+1:=by
  rw[Heap.size_update,size_push']
 have hoL:(xO s.heap vs).get? (s.heap.objs.size+1)=some (seqObj "list" vs.toArray 0):=by
  rw[←hsz];exact get?_push_size _ rfl
 have keep:∀b o,s.heap.get? b=some o→(xO s.heap vs).get? b=some o:=fun b o q=>by
  have hlt:b<s.heap.objs.size:=lt_size q
  rw[Heap.get?_push_ne _ _ _ (by rw[hsz];exact ne_of_lt (lt_succ_of_lt hlt)),Heap.get?_update_ne _ _ _ _ (ne_of_lt hlt),Heap.get?_push_ne _ _ _ (ne_of_lt hlt)]
  exact q
 have ne:∀{b:Addr} {o:Obj},s.heap.get? b=some o→b≠s.heap.objs.size+1:=fun q=>ne_of_lt (lt_succ_of_lt (lt_size q))
 show wpAny _ _ _ _ _ { s with heap:=xO s.heap vs }
 refine Eq.symm (hsz)▸?_
 refine wpAny_bind (wpAny_holding (wpAny_call_entry slot_list_sort ⟨_,hoL,rfl⟩ entry_list_sort ?body (args_list_sort _)))
 case body=>
  exact xm (s:={ s with heap:=xO s.heap vs }) hoL h2 h64 hp
   (fun h' k=>hk h' fun b o q=>k b o (ne q) (keep b o q)) (fun h' k=>hf h' fun b o q=>k b o (ne q) (keep b o q))
   fun h' c k hD=>⟨_,rfl,wpAny_pure ⟨_,rfl,h _ h' c (fun b o q=>k b o (ne q) (keep b o q)) (Heap.get?_none_of_le (le_succ _)) hD⟩⟩
theorem mH{p:V×V}(h:gP v=some p):v=.tup [p.1,p.2]:=by
 cases v with
 |tup l=>cases l with
  |nil=>exact nN h
  |cons x l=>cases l with
   |nil=>exact nN h
   |cons y l=>cases l with
    |nil=>obtain rfl:=sI h;rfl
    |cons=>exact nN h
 |_=>exact nN h
theorem zn(h:rG v=true):∃i y,v=.tup [.int i,y]:=by
 unfold rG at h
 cases hp:gP v with
 |none=>rw[hp]at h;exact aj h
 |some p=>
  rw[hp]at h
  obtain⟨x,y⟩:=p
  cases x with
  |int i=>exact⟨i,y,mH hp⟩
  |_=>exact aj h
theorem CU(l:List V):∀{vs:List Value},l.all rG=true→ag h κ l vs→∃fs:List Value,fs.length=vs.length∧KatTups h vs fs∧∀v∈fs,∃i t,v=.int i t:=by
 induction l with
 |nil=>intro vs _ e;cases e;exact⟨[],rfl,trivial,nofun⟩
 |cons v l ih=>
  intro vs hk e
  refine hG fun _ kk=>?_
  obtain⟨cv,r,rfl,rv,rs⟩:=e
  obtain⟨fs,h1,h2,h3⟩:=ih (aB hk).2 rs
  obtain⟨i,y,rfl⟩:=zn (aB hk).1
  obtain⟨a,aA,rfl,⟨n,hn⟩,_,q⟩:=rv
  obtain⟨c1,r1,e1,⟨t,rfl⟩,_⟩:=q
  refine kk ?_
  refine⟨.int i t::fs,congrArg (· +1) h1,⟨⟨a,_,aA,n,rfl,hn,rfl,rfl,?_⟩,h2⟩,fun v hv=>?_⟩
  ·rw[←getElem?_toList,e1];rfl
  ·exact(mem_cons.mp hv).elim (fun e=>⟨_,_,e⟩) (h3 v)
theorem CV(r:RV h κ (.tup [x,y]) cv):∃a aA n cx cy,cv=.ref a∧h.get? a=some { cls:=.type "tuple",dict:=none,data:=.seq aA n }∧aA.toList=[cx,cy]∧aA.size=2∧RV h κ x cx∧RV h κ y cy:=by
 refine hG fun _ kk=>?_
 obtain⟨a,aA,rfl,⟨n,hn⟩,_,q⟩:=r
 obtain⟨cx,cy,e,rx,ry⟩:=xW q
 refine kk ?_
 exact⟨a,aA,n,cx,cy,rfl,hn,e,congrArg length e,rx,ry⟩
theorem sH{u v:Value}{C:Bool→Shared→Prop}(q:a≠c)(hC:C (decide (a<c)) s):KatLex PG w A true false C [(.int a ta,.int c tc),(u,v)] 0 s:=by
 refine kat_cons (wpAny_eqBool_int ?_)
 rw[beq_eq_false_iff_ne.mpr q]
 refine kat_no ?_
 show wpAny _ _ (oneLt' true _ _) _ _ _
 exact oneLt_int hC
inductive Jw:V→V→Bool→Prop where
 |ii (a c b d:Int):Jw (.tup [.int a,.int b]) (.tup [.int c,.int d]) (decide (a<c)||(decide (a=c)&&decide (b<d)))
 |bb {a c:Int} {u v:Bool} (h:a≠c):Jw (.tup [.int a,.bool u]) (.tup [.int c,.bool v]) (decide (a<c))
theorem DN{u:V}(h:Ko a c y u=some t):Jw (.tup [.int a,y]) (.tup [.int c,u]) t:=by
 unfold Ko at h
 cases y with
 |int b=>
  cases u with
  |int d=>obtain rfl:=sI h;exact .ii a c b d
  |_=>exact nN h
 |bool b=>
  cases u with
  |bool d=>
   replace h:(if a=c then none else some (decide (a<c)))=some t:=h
   by_cases q:a=c
   ·rw[if_pos q]at h;exact nN h
   ·rw[if_neg q]at h;obtain rfl:=sI h;exact .bb q
  |_=>exact nN h
 |_=>exact nN h
theorem GJ(h:Jn x y=some t):Jw x y t:=by
 obtain⟨⟨x1,x2⟩,e1,h⟩:=bS h
 obtain⟨⟨y1,y2⟩,e2,h⟩:=bS h
 obtain rfl:=mH e1
 obtain rfl:=mH e2
 clear e1
 cases x1 with
 |int a=>
  clear e2
  cases y1 with
  |int c=>exact DN h
  |_=>exact nN h
 |_=>exact nN h
inductive JT (h:Heap) (κ:Pl) (x y:V):Value→Prop where
 |mk {a:Addr} {aA:Array Value} {n:Nat} {cx cy:Value} (g:h.get? a=some { cls:=.type "tuple",dict:=none,data:=.seq aA n }) (e:aA.toList=[cx,cy]) (z:aA.size=2) (rx:RV h κ x cx) (ry:RV h κ y cy):JT h κ x y (.ref a)
theorem vr(r:RV h κ (.tup [x,y]) cv):JT h κ x y cv:=by
 obtain⟨a,aA,n,cx,cy,rfl,hn,e,z,rx,ry⟩:=CV r
 exact .mk hn e z rx ry
theorem wq{x1 x2 y1 y2:V}{C:Bool→Shared→Prop}(rx:RV s.heap κ (.tup [x1,x2]) cx)(ry:RV s.heap κ (.tup [y1,y2]) cy)(k:∀c1 c2 d1 d2,RV s.heap κ x1 c1→RV s.heap κ x2 c2→RV s.heap κ y1 d1→RV s.heap κ y2 d2→KatLex PG w A true false C [(c1,d1),(c2,d2)] 0 s):wpAny (MW w) A (keyLt' (tuples' true) cx cy) C ba s:=by
 cases vr rx with
 |mk hx ex sx r1 r2=>
  cases vr ry with
  |mk hy ey sy q1 q2=>
   refine kat_lt hx rfl hy rfl ?_
   refine Eq.symm (ex)▸Eq.symm (ey)▸Eq.symm (sx)▸Eq.symm (sy)▸?_
   exact k _ _ _ _ r1 r2 q1 q2
theorem DM{b d:Int}{tb td:Tok}{C:Bool→Shared→Prop}(hC:C (decide (b<d)) s):KatLex PG w A true false C [(.int a ta,.int a tc),(.int b tb,.int d td)] 0 s:=by
 refine kat_cons (wpAny_eqBool_int ?_)
 rw[beq_self_eq_true]
 refine kat_yes (kat_cons (wpAny_eqBool_int ?_))
 by_cases q2:b=d
 ·subst q2
  rw[beq_self_eq_true]
  rw[decide_eq_false (Int.lt_irrefl b)]at hC
  exact kat_yes (kat_nil hC)
 ·rw[beq_eq_false_iff_ne.mpr q2]
  refine kat_no ?_
  show wpAny _ _ (oneLt' false _ _) _ _ _
  exact kat_one _ _ (P.lt_int hC)
theorem DL{c:Bool}{C:Bool→Shared→Prop}(h:Jn x y=some c)(rx:RV s.heap κ x cx)(ry:RV s.heap κ y cy)(hC:C c s):
 wpAny (MW w) A (keyLt' (tuples' true) cx cy) C ba s:=by
 cases GJ h with
 |ii a c b d=>
  refine wq rx ry fun c1 c2 d1 d2 ⟨ta,e1⟩ ⟨tb,e2⟩ ⟨tc,e3⟩ ⟨td,e4⟩=>?_
  subst e1 e2 e3 e4
  by_cases q:a=c
  ·subst q
   rw[decide_eq_false (Int.lt_irrefl a),decide_eq_true rfl,Bool.false_or,Bool.true_and]at hC
   exact DM hC
  ·rw[decide_eq_false q,Bool.false_and,Bool.or_false]at hC
   exact sH q hC
 |bb q=>
  refine wq rx ry fun c1 c2 d1 d2 ⟨ta,e1⟩ _ ⟨tc,e3⟩ _=>?_
  subst e1 e3
  exact sH q hC
theorem tZ(r:ag h κ l vs)(is:List Nat):is.all (fun i=>decide (i<l.length))=true→ag h κ (aO l is) (is.map fun i=>vs.getD i Value.none):=by
 induction is with
 |nil=>exact fun _=>rfl
 |cons i is ih=>
  intro hk
  have h1:=of_decide_eq_true (aB hk).1
  obtain⟨cv,hc,rv⟩:=eE r (getElem?_eq_getElem h1)
  have e:aO l (i::is)=l[i]::aO l is:=by
   rw[aO,filterMap_cons,getElem?_eq_getElem h1];rfl
  rw[e]
  refine⟨cv,_,?_,rv,ih (aB hk).2⟩
  rw[map_cons,getD_eq_getElem?_getD,hc];rfl
theorem pi:(Value.type "int" != Value.type "tuple")=true:=by decide +kernel
theorem xe{h':Heap}(k:∀b o,h.get? b=some o→h'.get? b=some o)(vs:List Value):∀{fs:List Value},KatTups h vs fs→KatTups h' vs fs:=by
 induction vs with
 |nil=>intro fs t;cases fs with
  |nil=>trivial
  |cons=>exact t.elim
 |cons v vs ih=>intro fs t;cases fs with
  |nil=>exact t.elim
  |cons f fs=>
   obtain⟨⟨a,o,xs,n,e,ho,r⟩,t⟩:=t
   exact⟨⟨a,o,xs,n,e,k _ _ ho,r⟩,ih t⟩
theorem zp(e:n=1)(hp:pT f (kas_sort n)=some p):n=1∧p= #[0]:=by
 subst e
 exact⟨rfl,(Option.some.inj ((show pT f (kas_sort 1)=some #[0]by rfl).symm.trans hp)).symm⟩
theorem pN{r:List V}(hx:iO O x=some l)(h2:1≤l.length)(h64:l.length<64)(hr:kE l=some r)(R:aH w κ Fs O s.heap)(rx:RV s.heap κ x cv)(q:Q (.lst r) O):
 wpAny (MW w) A (call (.builtin "sorted") [cv] []) (aG w b κ Fs O s RV Q) E s:=by
 refine hG fun _ kk=>?_
 obtain⟨a,aA,rfl,hpl,rs⟩:=cM R hx rx
 obtain⟨hall,hr⟩:=iS hr
 obtain⟨p,hp,hr⟩:=bS hr
 obtain⟨hlt,hr⟩:=iS hr
 obtain rfl:=sI hr
 rw[de rs]at hp h2 h64
 obtain⟨fs,f1,f2,f3⟩:=CU l hall rs
 refine kk ?_
 refine qr (κ:=tuples' true) (vs:=aA.toList) hpl.isList ((Nat.lt_or_ge aA.toList.length 2).elim (fun z=>.inr (zp (Nat.le_antisymm (le_of_lt_succ z) h2) hp)) .inl) h64 hp (fun h' k Q hQ=>?_) (fun h' k i j c hc C hC=>?_) fun D h' c k hn hD=>?_
 ·refine kat_kind (T:=.type "int") (fs:=fs) (xe k _ f2) (f1▸h2) (fun v hv=>?_) (by decide +kernel) (by rw[pi];exact hQ)
  obtain⟨i,t,rfl⟩:=f3 v hv
  exact Looks.of_pure rfl
 ·obtain⟨x,h1,hc⟩:=bS hc
  refine hG fun _ kk=>?_
  obtain⟨y,h2,hc⟩:=bS hc
  obtain⟨cx,e1,r1⟩:=eE rs h1
  obtain⟨cy,e2,r2⟩:=eE rs h2
  refine kk ?_
  unfold kas_ask
  refine Eq.symm (getD_eq_getElem?_getD)▸Eq.symm (e1)▸Eq.symm (getD_eq_getElem?_getD)▸Eq.symm (e2)▸?_
  exact DL hc (rM (bj.grow k) r1) (rM (bj.grow k) r2) hC
 ·have hoff:D∉κ.mt:=fun hm=>let⟨o,ho⟩:=R.ex D hm;nomatch hn.symm.trans ho
  exact .mk q (Go.grow R k ⟨rfl,rfl,rfl⟩) ⟨D,_,rfl,⟨_,hD⟩,hoff,tZ (iT (bj.grow k) rs) _ hlt⟩
end
end
section
variable {c:Bool} {a l:List V} {r:V×Oj} {h:Heap} {ca:List Value} {id:String} {n:Nat} {x:List Nat} {o:Option String} {g:Prop} {T:MT} {name:Str} {t:Tok} {cx:Value}
theorem mc{α:Type}{c:Prop}[Decidable c]{a b:Option α}{v:α}(h:(if c then a else b)=some v):(c∧a=some v)∨b=some v:=by
 by_cases hc:c
 ·rw[if_pos hc]at h;exact .inl ⟨hc,h⟩
 ·rw[if_neg hc]at h;exact .inr h
section
variable {w:World} {A:Around} {b:Nat} {κ:Pl} {Fs:List Fr} {O O1:Oj} {s:Shared} {E:Value→Shared→Prop} {Q:V→Oj→Prop}
theorem qX{f:V→V→Option (V×Oj)}(e:two a f=some r)(ra:ag h κ a ca):∃u v cu cv,f u v=some r∧ca=[cu,cv]∧RV h κ u cu∧RV h κ v cv:=by
 cases a with
 |nil=>exact nN e
 |cons u l=>cases l with
  |nil=>exact nN e
  |cons v l=>cases l with
   |nil=>obtain⟨cu,cv,rfl,r1,r2⟩:=xW ra;exact⟨u,v,cu,cv,e,rfl,r1,r2⟩
   |cons=>exact nN e
theorem qN{v:V}(r:ag h κ [v] ca):∃cv,ca=[cv]∧RV h κ v cv:=by
 obtain⟨cv,r,rfl,a,e⟩:=r
 cases e;exact⟨cv,rfl,a⟩
theorem gy{α:Type}{c:Prop}[Decidable c]{a b:Option α}{v:α}{p:Prop}(h:(if c then a else b)=some v)(k1:c→a=some v→p)(k2:b=some v→p):p:=(mc h).elim (fun h=>k1 h.1 h.2) k2
theorem I1(B:bI w)(e:(ofString id==("len":Str))=true)(h:I8 a O=some r)(ok:Ok A 1)(R:aH w κ Fs O s.heap)(ra:ag s.heap κ a ca)(q:Q r.1 r.2):wpAny (MW w) A (call (.builtin id) ca []) (aG w b κ Fs O s RV Q) E s:=by
 refine hG fun _ kk=>?_
 obtain rfl:=ah e
 obtain⟨v,cv,h,rfl,rv,rfl⟩:=bX h ra
 obtain⟨u,h2,rfl⟩:=mS h
 refine kk ?_
 exact ux B h2 R rv q
theorem Iy(e:(ofString id==("sum":Str))=true)(h:I5 a O=some r)(ok:Ok A 1)(R:aH w κ Fs O s.heap)(ra:ag s.heap κ a ca)(q:Q r.1 r.2):wpAny (MW w) A (call (.builtin id) ca []) (aG w b κ Fs O s RV Q) E s:=by
 refine hG fun _ kk=>?_
 obtain rfl:=ah e
 obtain⟨v,cv,h,rfl,rv,rfl⟩:=bX h ra
 obtain⟨l,h1,h⟩:=bS h
 obtain⟨is,h2,h⟩:=bS h
 obtain⟨hc,h⟩:=iS h
 obtain rfl:=sI h
 refine kk ?_
 exact xi ok.hd h1 h2 (aB (aB hc).1).1 (of_decide_eq_true (aB (aB hc).1).2) R rv q
theorem Gy(e:(ofString id==("iter":Str))=true)(h:E9 a O=some r)(ok:Ok A 1)(R:aH w κ Fs O s.heap)(ra:ag s.heap κ a ca)(q:Q r.1 r.2):wpAny (MW w) A (call (.builtin id) ca []) (aG w b κ Fs O s RV Q) E s:=by
 obtain rfl:=ah e
 obtain⟨v,cv,h,rfl,rv,rfl⟩:=bX h ra
 clear ra
 cases v with
 |lst l=>obtain rfl:=sI h;exact u9 R rv q
 |_=>exact nN h
theorem og(h:gw O n=some l):O[n]? =some (.iter l):=by
 unfold gw at h
 cases ho:O[n]? with
 |none=>rw[ho]at h;exact nN h
 |some o=>
  rw[ho]at h
  clear ho
  cases o with
  |iter l=>obtain rfl:=sI h;rfl
  |_=>exact nN h
theorem Gx(e:(ofString id==("next":Str))=true)(h:E8 a O=some r)(ok:Ok A 1)(R:aH w κ Fs O s.heap)(ra:ag s.heap κ a ca)(q:Q r.1 r.2):wpAny (MW w) A (call (.builtin id) ca []) (aG w b κ Fs O s RV Q) E s:=by
 obtain rfl:=ah e
 obtain⟨v,cv,h,rfl,rv,rfl⟩:=bX h ra
 clear ra
 cases v with
 |ref n=>
  obtain⟨l,h1,h⟩:=bS h
  cases l with
  |nil=>exact nN h
  |cons v l=>obtain rfl:=sI h;exact un (og h1) R rv q
 |_=>exact nN h
theorem I4(e:(ofString id==("chr":Str))=true)(h:JA a O=some r)(ok:Ok A 1)(R:aH w κ Fs O s.heap)(ra:ag s.heap κ a ca)(q:Q r.1 r.2):wpAny (MW w) A (call (.builtin id) ca []) (aG w b κ Fs O s RV Q) E s:=by
 obtain rfl:=ah e
 obtain⟨v,cv,h,rfl,rv,rfl⟩:=bX h ra
 clear ra
 obtain⟨i,t,h,rfl⟩:=ao h rv
 exact yn h R q
theorem Iz(e:(ofString id==("ord":Str))=true)(h:I6 a O=some r)(ok:Ok A 1)(R:aH w κ Fs O s.heap)(ra:ag s.heap κ a ca)(q:Q r.1 r.2):wpAny (MW w) A (call (.builtin id) ca []) (aG w b κ Fs O s RV Q) E s:=by
 obtain rfl:=ah e
 obtain⟨v,cv,h,rfl,rv,rfl⟩:=bX h ra
 clear ra
 obtain⟨i, -,h,rfl⟩:=dZ h rv
 match i,h with
 |[c],h=>obtain rfl:=sI h;exact P.ord_of_char (aG.tok R q ⟨_,rfl⟩)
theorem I3(e:(ofString id==("hex":Str))=true)(h:I9 a O=some r)(ok:Ok A 1)(R:aH w κ Fs O s.heap)(ra:ag s.heap κ a ca)(q:Q r.1 r.2):wpAny (MW w) A (call (.builtin id) ca []) (aG w b κ Fs O s RV Q) E s:=by
 obtain rfl:=ah e
 obtain⟨v,cv,h,rfl,rv,rfl⟩:=bX h ra
 clear ra
 obtain⟨i,t,h,rfl⟩:=ao h rv
 exact yY h R q
theorem DH(h:Heap)(κ:Pl)(x y:Int)(t t':Tok):RV h κ (.int (yE x y)) (if y<x then .int y t' else .int x t):=by
 unfold yE
 split
 ·exact⟨_,rfl⟩
 ·exact⟨_,rfl⟩
theorem I0(e:(ofString id==("min":Str))=true)(h:I7 a O=some r)(ok:Ok A 1)(R:aH w κ Fs O s.heap)(ra:ag s.heap κ a ca)(q:Q r.1 r.2):wpAny (MW w) A (call (.builtin id) ca []) (aG w b κ Fs O s RV Q) E s:=by
 refine hG fun _ kk=>?_
 obtain rfl:=ah e
 obtain⟨u,v,cu,cv,h,rfl,ru,rv⟩:=qX h ra
 clear ra
 obtain⟨x,t,h,rfl⟩:=ao h ru
 obtain⟨y,t',h,rfl⟩:=ao h rv
 obtain rfl:=sI h
 refine kk ?_
 exact min_two_ints ok.hd fun h' tk k=>.mk q (Go.grow R k ⟨rfl,rfl,rfl⟩) (DH _ _ _ _ _ _)
theorem Bq(e:(ofString id==("sorted":Str))=true)(h:xQ a O=some r)(ok:Ok A 1)(R:aH w κ Fs O s.heap)(ra:ag s.heap κ a ca)(q:Q r.1 r.2):wpAny (MW w) A (call (.builtin id) ca []) (aG w b κ Fs O s RV Q) E s:=by
 refine hG fun _ kk=>?_
 obtain rfl:=ah e
 obtain⟨v,cv,h,rfl,rv,rfl⟩:=bX h ra
 obtain⟨l,h1,h⟩:=bS h
 obtain⟨hc,h⟩:=iS h
 obtain⟨r,h2,h⟩:=mS h
 subst h
 refine kk ?_
 exact pN h1 (bL hc).1 (bL hc).2 h2 R rv q
theorem Bp(B:bI w)(h:cq (ofString id) a b O=some r)(ok:Ok A 1)(R:aH w κ Fs O s.heap)(ra:ag s.heap κ a ca)(q:Q r.1 r.2):wpAny (MW w) A (call (.builtin id) ca []) (aG w b κ Fs O s RV Q) E s:=
 gy h (fun e h=>I1 B e h ok R ra q) fun h=>gy h (fun e h=>Iy e h ok R ra q) fun h=>gy h (fun e h=>Gy e h ok R ra q) fun h=>gy h (fun e h=>Gx e h ok R ra q) fun h=>gy h (fun e h=>I4 e h ok R ra q) fun h=>gy h (fun e h=>Iz e h ok R ra q) fun h=>gy h (fun e h=>I3 e h ok R ra q) fun h=>gy h (fun e h=>I0 e h ok R ra q) fun h=>Bq (iS h).1 (iS h).2 ok R ra q
theorem zI(h:d5 (ofString id) a b O=some r)(ok:Ok A 1)(R:aH w κ Fs O s.heap)(ra:ag s.heap κ a ca)(q:Q r.1 r.2):wpAny (MW w) A (call (.type id) ca []) (aG w b κ Fs O s RV Q) E s:=by
 unfold d5 at h
 rcases mc h with⟨hid,h⟩|h
 ·obtain rfl:=ah hid
  cases a with
  |nil=>exact nN h
  |cons x a=>
   obtain⟨cx,ca,rfl,rx,ra⟩:=ra
   cases a with
   |nil=>
    cases ra
    obtain⟨i,t,h,rfl⟩:=ao h rx
    obtain⟨hc,h⟩:=iS h
    obtain rfl:=sI h
    exact call_range_1 (jG R q)
   |cons y a=>
    obtain⟨cy,ca,rfl,ry,ra⟩:=ra
    cases a with
    |nil=>
     cases ra
     obtain⟨i,t,h,rfl⟩:=ao h rx
     obtain⟨j,t',h,rfl⟩:=ao h ry
     obtain⟨hc,h⟩:=iS h
     obtain rfl:=sI h
     exact call_range_2 (jG R q)
    |cons z a=>
     obtain⟨cz,ca,rfl,rz,ra⟩:=ra
     cases a with
     |nil=>
      cases ra
      obtain⟨i,t,h,rfl⟩:=ao h rx
      obtain⟨j,t',h,rfl⟩:=ao h ry
      obtain⟨k,t'',h,rfl⟩:=ao h rz
      obtain⟨hc,h⟩:=iS h
      obtain rfl:=sI h
      rcases or_eq_true_iff.mp (aB hc).2 with e|e
      ·obtain rfl:=eq_of_beq e;exact call_range_3 (by decide) (jG R q) (.inl (mM (by decide +kernel)))
      ·obtain rfl:=eq_of_beq e;exact call_range_3 (by decide) (jG R q) (.inl (mM (by decide +kernel)))
     |cons=>exact nN h
 obtain⟨hid,h⟩:=iS h
 obtain rfl:=ah hid
 obtain⟨v,cv,hv,rfl,rv,rfl⟩:=bX h ra
 cases hd:jV O v with
 |some n=>
  simp only[hd]at hv
  clear h
  obtain rfl:=sI hv
  clear ra
  cases v with
  |ref m=>
   obtain⟨l,h1,h2⟩:=bS hd
   obtain⟨he,h2⟩:=iS h2
   clear hv
   obtain rfl:=sI h2
   obtain rfl:=isEmpty_iff.mp he
   exact kj ok.hd (og h1) R rv q
  |_=>exact nN hd
 |none=>
  simp only[hd]at hv
  obtain⟨l,h1,hv⟩:=bS hv
  obtain⟨hc,hv⟩:=iS hv
  clear h
  obtain rfl:=sI hv
  exact sM ok.hd h1 hc R rv q
theorem Au{x:String}(h:(if c=true then some x else o)=some id):(c=true∧id=x)∨(c=false∧o=some id):=by
 cases c with
 |true=>obtain rfl:=sI h;exact .inl ⟨rfl,rfl⟩
 |false=>exact .inr ⟨rfl,h⟩
noncomputable def CB(T:MT)(name:Str)(id:String):Prop:=PlainAttrs T.ty∧Slot T.ty name id∧typeOf (.builtin id)=pure (.type "method_descriptor")
theorem eC{x:String}(h:(if c=true then some x else o)=some id)(k1:c=true→id=x→g)(k2:o=some id→g):g:=(Au h).elim (fun h=>k1 h.1 h.2) fun h=>k2 h.2
theorem d7{n:Str}{i:String}(e:(name==n)=true)(ei:id=i)(h:CB T n i):CB T name id:=by obtain rfl:=eq_of_beq e;subst ei;exact h
theorem uR(h:dx name T=some id):CB T name id:=by
 cases T with
 |str=>exact eC h (fun e i=>d7 e i ⟨F.plainAttrs_str,F.slot_str_split,F.type_str_split⟩) fun h=>eC h (fun e i=>d7 e i ⟨F.plainAttrs_str,F.slot_str_join,F.type_str_join⟩) fun h=>eC h (fun e i=>d7 e i ⟨F.plainAttrs_str,F.slot_str_startswith,F.type_str_startswith⟩) fun h=>eC h (fun e i=>d7 e i ⟨F.plainAttrs_str,F.slot_str_endswith,F.type_str_endswith⟩) fun h=>eC h (fun e i=>d7 e i ⟨F.plainAttrs_str,F.slot_str_find,F.type_str_find⟩) fun h=>eC h (fun e i=>d7 e i ⟨F.plainAttrs_str,F.slot_str_lower,F.type_str_lower⟩) fun h=>nomatch h
 |list=>exact eC h (fun e i=>d7 e i ⟨F.plainAttrs_list,F.slot_list_append,F.type_list_append⟩) fun h=>eC h (fun e i=>d7 e i ⟨F.plainAttrs_list,F.slot_list_insert,F.type_list_insert⟩) fun h=>nomatch h
 |dict=>exact eC h (fun e i=>d7 e i ⟨F.plainAttrs_dict,F.slot_dict_get,F.type_dict_get⟩) fun h=>nomatch h
theorem md{β:Type}{x:String}{p:Option β}{y:Option β}{r:β}(h:(if c=true then some x else o)=some id)(h':(if c=true then y else p)=some r):(id=x∧y=some r)∨(o=some id∧p=some r):=by
 cases c with
 |true=>obtain rfl:=sI h;exact .inl ⟨rfl,h'⟩
 |false=>exact .inr ⟨h,h'⟩
theorem eI{β:Type}{x:String}{p:Option β}{y:Option β}{r:β}(h:(if c=true then some x else o)=some id)(h':(if c=true then y else p)=some r)(k1:id=x→y=some r→g)(k2:o=some id→p=some r→g):g:=(md h h').elim (fun h=>k1 h.1 h.2) fun h=>k2 h.1 h.2
theorem AZ(e:id="str.split")(h:Ae x a O=some r)(R:aH w κ Fs O s.heap)(ra:ag s.heap κ a ca)(q:Q r.1 r.2):wpAny (MW w) A (call (.builtin id) (.str (S x) t::ca) []) (aG w b κ Fs O s RV Q) E s:=by
 subst e
 cases a with
 |nil=>
  cases ra
  obtain⟨hc,h⟩:=iS h
  obtain rfl:=sI h
  exact jC (aB hc).1 (aB hc).2 R ⟨t,rfl⟩ q
 |cons v a=>
  cases a with
  |cons=>exact nN h
  |nil=>
   obtain⟨cv,rfl,rv⟩:=qN ra
   clear ra
   obtain⟨y,u,h,rfl⟩:=dZ h rv
   obtain⟨hc,h⟩:=iS h
   obtain rfl:=sI h
   exact ke (aB (aB hc).1).1 (aB (aB hc).1).2 (aB hc).2 R q
theorem DD(e:id="str.join")(h:Ah x a O=some r)(R:aH w κ Fs O s.heap)(ra:ag s.heap κ a ca)(q:Q r.1 r.2):wpAny (MW w) A (call (.builtin id) (.str (S x) t::ca) []) (aG w b κ Fs O s RV Q) E s:=by
 refine hG fun _ kk=>?_
 subst e
 obtain⟨v,cv,h,rfl,rv,rfl⟩:=bX h ra
 obtain⟨l,h1,h⟩:=bS h
 obtain⟨ts,h2,h⟩:=bS h
 obtain⟨hc,h⟩:=iS h
 obtain rfl:=sI h
 refine kk ?_
 exact u8 h1 h2 hc R rv q
theorem yD(e:id="str.startswith")(h:wn x a O=some r)(R:aH w κ Fs O s.heap)(ra:ag s.heap κ a ca)(q:Q r.1 r.2):wpAny (MW w) A (call (.builtin id) (.str (S x) t::ca) []) (aG w b κ Fs O s RV Q) E s:=by
 refine hG fun _ kk=>?_
 subst e
 obtain⟨v,cv,h,rfl,rv,rfl⟩:=bX h ra
 clear ra
 obtain⟨y,u,h,rfl⟩:=dZ h rv
 obtain rfl:=sI h
 refine kk ?_
 exact SC.startswith (aG.here R q rfl)
theorem DF(e:id="str.endswith")(h:Ee x a O=some r)(R:aH w κ Fs O s.heap)(ra:ag s.heap κ a ca)(q:Q r.1 r.2):wpAny (MW w) A (call (.builtin id) (.str (S x) t::ca) []) (aG w b κ Fs O s RV Q) E s:=by
 refine hG fun _ kk=>?_
 subst e
 obtain⟨v,cv,h,rfl,rv,rfl⟩:=bX h ra
 clear ra
 obtain⟨y,u,h,rfl⟩:=dZ h rv
 obtain rfl:=sI h
 refine kk ?_
 exact SC.endswith (aG.here R q rfl)
theorem DE(e:id="str.find")(h:Ed x a O=some r)(R:aH w κ Fs O s.heap)(ra:ag s.heap κ a ca)(q:Q r.1 r.2):wpAny (MW w) A (call (.builtin id) (.str (S x) t::ca) []) (aG w b κ Fs O s RV Q) E s:=by
 subst e
 cases a with
 |nil=>exact nN h
 |cons v a=>cases a with
 |nil=>
  obtain⟨cv,rfl,rv⟩:=qN ra
  clear ra
  obtain⟨y,u,h,rfl⟩:=dZ h rv
  obtain rfl:=sI h
  exact tC R q
 |cons i a=>cases a with
 |nil=>exact nN h
 |cons j a=>cases a with
 |cons=>exact nN h
 |nil=>
 obtain⟨cv,ca,rfl,rv,ra⟩:=ra
 obtain⟨ci,ca,rfl,ri,ra⟩:=ra
 obtain⟨cj,rfl,rj⟩:=qN ra
 obtain⟨y,u,h,rfl⟩:=dZ h rv
 obtain⟨i,t1,h,rfl⟩:=ao h ri
 clear ra
 obtain⟨j,t2,h,rfl⟩:=ao h rj
 obtain rfl:=sI h
 exact tB R q
theorem Aa(e:id="str.lower")(h:Af x a O=some r)(R:aH w κ Fs O s.heap)(ra:ag s.heap κ a ca)(q:Q r.1 r.2):wpAny (MW w) A (call (.builtin id) (.str (S x) t::ca) []) (aG w b κ Fs O s RV Q) E s:=by
 subst e
 cases a with
 |cons=>exact nN h
 |nil=>
  cases ra
  obtain⟨hc,h⟩:=iS h
  obtain rfl:=sI h
  exact sK hc R q
theorem sB(h:Eb name x a O=some r)(hi:dx name .str=some id)(R:aH w κ Fs O s.heap)(ra:ag s.heap κ a ca)(q:Q r.1 r.2):
 wpAny (MW w) A (call (.builtin id) (.str (S x) t::ca) []) (aG w b κ Fs O s RV Q) E s:=
 eI hi h (fun e h=>AZ e h R ra q) fun hi h=>eI hi h (fun e h=>DD e h R ra q) fun hi h=>eI hi h (fun e h=>yD e h R ra q) fun hi h=>eI hi h (fun e h=>DF e h R ra q) fun hi h=>eI hi h (fun e h=>DE e h R ra q) fun hi h=>eI hi h (fun e h=>Aa e h R ra q) fun hi h=>nomatch h
theorem sC(hs:lA O n=some l)(h:sD name n l a b O=some r)(hi:dx name .list=some id)(R:aH w κ Fs O s.heap)(rx:RV s.heap κ (.ref n) cx)(ra:ag s.heap κ a ca)(q:Q r.1 r.2):
 wpAny (MW w) A (call (.builtin id) (cx::ca) []) (aG w b κ Fs O s RV Q) E s:=by
 unfold dx at hi
 unfold sD at h
 rcases md hi h with⟨rfl,h⟩|⟨hi,h⟩
 ·obtain⟨v,cv,h,rfl,rv,rfl⟩:=bX h ra
  obtain⟨hc,h⟩:=iS h
  obtain rfl:=sI h
  exact nw hs (aB hc).1 (aB hc).2 R rx rv q
 rcases md hi h with⟨rfl,h⟩|⟨hi,h⟩
 ·obtain⟨i,v,ci,cv,h,rfl,ri,rv⟩:=qX h ra
  clear ra
  obtain⟨i,t,h,rfl⟩:=ao h ri
  obtain⟨hc,h⟩:=iS h
  obtain rfl:=sI h
  obtain⟨hc,h2⟩:=aB hc
  obtain⟨hc,h1⟩:=aB hc
  exact pk hs (bL hc).1 (bL hc).2 h1 h2 R rx rv q
 exact nN h
theorem sA(T:nS w){x:V}{Tm:MT}(h:dU GG name x a b O=some r)(hT:lu GG O1 x=some Tm)(hi:dx name Tm=some id)(R:aH w κ Fs O s.heap)(rx:RV s.heap κ x cx)(ra:ag s.heap κ a ca)(q:Q r.1 r.2):
 wpAny (MW w) A (call (.builtin id) (cx::ca) []) (aG w b κ Fs O s RV Q) E s:=by
 cases x with
 |str x=>obtain rfl:=sI hT;obtain⟨t,rfl⟩:=rx;exact sB h hi R ra q
 |ref n=>
  obtain⟨_,_,e⟩:=mS hT
  subst e
  obtain⟨l,h1,h⟩:=bS h
  exact sC h1 h hi R rx ra q
 |cst d=>
  cases d with
  |ref ad=>
   obtain⟨_,e⟩:=iS hT
   obtain rfl:=sI e;cases rx
   obtain⟨v,h1,h⟩:=mS h
   subst h
   unfold dx at hi
   rcases Au hi with⟨e,rfl⟩|⟨-,hi⟩
   ·obtain rfl:=eq_of_beq e;exact AY T h1 R ra q
   exact nN hi
  |_=>exact nN h
 |_=>exact nN h
theorem yz(B:bI w)(S:j9 w)(T:nS w)(n:Nat):d6 w (n+1) (W GG n):=
 xT B ⟨fun h _ R rx ry q=>yv h R rx ry q,fun h _ R rx ry q=>vG h R rx ry q,fun h ok R rx ry q=>ym B S h ok R rx ry q,fun h _ R rx ry q=>vH h R rx ry q,fun h _ R rx rl rh rs ho ha q=>qs h R rx rl rh rs ho q,fun h ok R _ ra q=>Bp B h ok R ra q,fun h ok R _ ra q=>zI h ok R ra q⟩
  ⟨uR,fun h hT hi _ R _ rx ra q=>sA T h hT hi R rx ra q,fun ad h=>(by obtain⟨l,hl⟩:=isSome_iff_exists.mp h;exact(by obtain⟨_,f,⟨o,ces,n,ho,hr⟩,_⟩:=T _ _ hl;exact⟨o,ho,hr.1.1,hr.1.2.1⟩))⟩
  ⟨fun h _ R rl rk k=>vZ h R rl rk k⟩ n
end
end
section
variable {t:Bool} {A B:Prop} {J:WI} {f b n k s y g lo hi:Nat} {a v:V} {ks:List Int} {Q:V→Oj→Prop} {O:Oj} {body:List Stmt} {F:List Fr} {l:List V} {x:Int} {as:Arguments} {sc:Scope}
theorem lf{α:Type}{o:Option α}{Q:α→Prop}{v:α}(h:o=some v)(q:Q v):(match(generalizing:=false) o with|some v=>Q v|none=>False):=by subst h;exact q
theorem sl(h1:t=true→A)(h2:t=false→B):(match(generalizing:=false) t with|true=>A|false=>B):=by
 cases t
 ·exact h2 rfl
 ·exact h1 rfl
theorem sd{p:Prop}[Decidable p](h1:p→A)(h2:¬p→B):(match(generalizing:=false) decide p with|true=>A|false=>B):=sl (fun h=>h1 (of_decide_eq_true h)) fun h=>h2 (of_decide_eq_false h)
theorem gd(h:t=true)(a:A):(match(generalizing:=false) t with|true=>A|false=>False):=by subst h;exact a
theorem n0{f:V}{a:List V}{ks:List (Str×V)}(h:J.c f a ks b Q O):bw J f a ks b Q O:=⟨h⟩
theorem Fa{t:Expr}{Q:Fl→List Fr→Oj→Prop}(h:bQ J t body b Q 300 F O):FI J t body b Q F O:=⟨h⟩
theorem vw{t:Expr}{orelse:List Stmt}{Q:Fl→List Fr→Oj→Prop}{src:gV}(h:fY J t body orelse b Q 300 src F O):JZ J t body orelse b Q src F O:=⟨h⟩
theorem tk(q:Q v O):Q v (O.take O.length):=(take_length (l:=O)).symm▸q
theorem dK(h:n<1000000):lO n=true:=decide_eq_true (le_of_lt h)
theorem aq(h:n<300):lO n=true:=dK (lt_trans h (by decide))
theorem bs{α β:Type}{o:Option α}{v:α}{f:α→Option β}{r:Option β}(h:o=some v)(h2:f v=r):o.bind f=r:=by subst h;exact h2
theorem lC(h:lA O n=some l)(i:V):dN O n i=none∧cI O n=none:=by
 unfold lA at h
 unfold dN cI
 cases hO:O[n]? with
 |none=>rw[hO]at h;exact nN h
 |some o=>
  have h:=(hO)▸h
  clear hO
  cases o with
  |list _=>exact⟨rfl,rfl⟩
  |_=>exact nN h
theorem jS{i:V}(h:iO O v=some l):cN O v i=mj O v i:=by
 cases v with
 |ref n=>unfold cN;simp only[(lC h i).1]
 |_=>rfl
theorem Aq(h:iO O v=some l):yL O v=DR O v:=by
 cases v with
 |ref n=>unfold yL;simp only[(lC h .none).2]
 |_=>rfl
theorem ai(h:iO O v=some l)(hs:l.length<300):cq (ofString "len") [v] b O=some (.int l.length,O):=by
 have e:cq (ofString "len") [v] b O=(yL O v).map fun r=>(r,O):=by kernel_rfl!
 have e1:(if lO l.length then some (V.int l.length)else none)=some (.int l.length):=if_pos (aq hs)
 refine Eq.symm (e)▸Eq.symm (Aq h)▸?_
 clear e
 cases v with
 |lst l'=>obtain rfl:=sI h;exact congrArg (map fun r=>(r,O)) e1
 |ref n=>exact congrArg (map fun r=>(r,O)) (bs (f:=fun l:List V=>if lO l.length then some (V.int l.length)else none) (show lA O n=some l from h) e1)
 |_=>exact nN h
theorem B2{x:V}(hs:l.length<300)(hk:l[k]? =some x):uE l (k:Nat)=some x:=by
 have hl:=(List.getElem?_eq_some_iff.mp hk).1
 have e:seqIndex? (k:Nat) l.length=some k:=by
  unfold seqIndex?
  dsimp only
  rw[if_neg (not_lt.mpr (natCast_nonneg k))]
  exact if_pos (and_eq_true_iff.mpr ⟨decide_eq_true (natCast_nonneg k),decide_eq_true (ofNat_lt.mpr hl)⟩)
 rw[uE,if_pos (show DZ k=true from decide_eq_true (lt_trans hl (lt_trans hs (by decide)))),e]
 exact hk
theorem ay{x:V}(h:iO O v=some l)(hs:l.length<300)(hk:l[k]? =some x):cN O v (.int (k:Nat))=some x:=by
 refine(jS h).trans ?_
 cases v with
 |lst l'=>obtain rfl:=sI h;exact B2 hs hk
 |ref n=>exact bs (f:=fun l=>uE l (k:Nat)) (show lA O n=some l from h) (B2 hs hk)
 |_=>exact nN h
structure LM (f g lo hi n:Nat):Prop where
 m:(lo+hi)/2<n
 u1:hi-((lo+hi)/2+1)<f
 u2:hi-((lo+hi)/2+1)≤g
 d1:(lo+hi)/2-lo<f
 d2:(lo+hi)/2-lo≤g
 dn:(lo+hi)/2≤n
theorem Kk(n:Nat):n%3=0∨n%3=1∨n%3=2:=(show ∀r,r<3→r=0∨r=1∨r=2 by decide) _ (mod_lt _ (by decide))
theorem rq(h:0<n): -1+(n:Int)=((n-1:Nat):Int):=by rw[Int.ofNat_sub (show 1≤n from h),Int.add_comm];rfl
theorem K9(a b:Nat):((min a b:Nat):Int)=min (a:Int) b:=by
 rcases Nat.le_total a b with h|h
 ·rw[min_eq_left h,Int.min_eq_left (ofNat_le.mpr h)]
 ·rw[Nat.min_eq_right h,Int.min_eq_right (ofNat_le.mpr h)]
theorem zs(h:(s:Int)%2≠0):s%2=1:=(Nat.mod_two_eq_zero_or_one s).resolve_left fun e=>h (congrArg Int.ofNat e)
theorem xG(h:¬(s:Int)%2≠0):¬s%2=1:=fun e=>h fun z=>absurd (e.symm.trans (Int.ofNat.inj z)) (by decide)
theorem Ai{x:Nat}(h:x<y):(x+y)/2<y:=Nat.div_lt_of_lt_mul (Nat.lt_of_lt_of_eq (Nat.add_lt_add_right h y) (Nat.two_mul y).symm)
theorem HU{x:Nat}(h:x<y):x≤(x+y)/2:=(Nat.le_div_iff_mul_le (by decide)).mpr (le_trans (le_of_eq (Nat.mul_two x)) (add_le_add_left (le_of_lt h) x))
theorem Ej{x:Nat}(h:y-x<f+1)(l:x<y):y-((x+y)/2+1)<f:=lt_of_lt_of_le (Nat.sub_lt_sub_left l (lt_succ_of_le (HU l))) (le_of_lt_succ h)
theorem Ek{x:Nat}(h:y-x<f+1)(l:x<y):(x+y)/2-x<f:=lt_of_lt_of_le (Nat.sub_lt_sub_right (HU l) (Ai l)) (le_of_lt_succ h)
theorem A3(h:(lo:Int)<hi)(h1:hi-lo<f+1)(h2:hi-lo≤g+1)(h3:hi≤n):LM f g lo hi n:=
 have h:=ofNat_lt.mp h
 have m:=Ai h
 ⟨lt_of_lt_of_le m h3,Ej h1 h,le_of_lt_succ (Ej (lt_succ_of_le h2) h),Ek h1 h,le_of_lt_succ (Ek (lt_succ_of_le h2) h),le_trans (le_of_lt m) h3⟩
theorem vK(h:(lo:Int)<hi)(h2:hi-lo≤0):False:=Nat.not_lt.mpr (Nat.sub_eq_zero_iff_le.mp (Nat.le_zero.mp h2)) (ofNat_lt.mp h)
noncomputable def o7(ks:List Int)(x:Int):Nat→Nat→Nat→Nat
 |0,lo,_=>lo
 |n+1,lo,hi=>if lo<hi then(if ks.getD ((lo+hi)/2) 0<x then o7 ks x n ((lo+hi)/2+1) hi else o7 ks x n lo ((lo+hi)/2))else lo
noncomputable def o9(a x:V)(lo hi:Nat)(key:V)(mid:Option V):fP:=[(u "a",some a),(u "x",some x),(u "lo",some (.int lo)),(u "hi",some (.int hi)),(u "key",some key),(u "mid",mid)]
noncomputable def Bn:af:=(cV (dB 7)).names
theorem Bl(h:¬(lo:Int)<hi):o7 ks x g lo hi=lo:=by
 cases g with
 |zero=>rfl
 |succ g=>exact if_neg fun z=>h (ofNat_lt.mpr z)
noncomputable def Lm:Stmt:=aX (IQ (aX (bF (dB 7)) 2)) 0
noncomputable def kt:Stmt:=aX (Lk (aX (bF (dB 7)) 2)) 0
theorem E6{Q:Fl→List Fr→Oj→Prop}{bd:Expr}(hK:∀i v,l[i]? =some v→∀{m c O Q},Q (.int (ks.getD i 0)) O→bw (W G3 (m+8)) (.lam as bd sc) [v] [] c Q O)(ha:iO O a=some l)(hsm:l.length<300)(f:Nat):
 ∀(g lo hi:Nat) (mid:Option V),hi-lo<f→hi-lo≤g→hi≤l.length→(∀m h,Q .next [⟨Bn,o9 a (.int x) (o7 ks x g lo hi) h (.lam as bd sc) m,false,0,none⟩] O)→
  bQ (W G3 (n+12)) (wT kt) (wB kt) b Q f [⟨Bn,o9 a (.int x) lo hi (.lam as bd sc) mid,false,0,none⟩] O:=by
 induction f with
 |zero=>exact fun _ _ _ _ h=>absurd h (not_lt_zero _)
 |succ f ih=>
  intro g lo hi mid h1 h2 h3 q
  refine sd (p:=(lo:Int)<hi) (fun h=>?_) fun h=>Bl h▸q mid hi
  cases g with
  |zero=>exact(vK h h2).elim
  |succ g=>
   have H:=A3 h h1 h2 h3
   have e:o7 ks x (g+1) lo hi=_:=if_pos (ofNat_lt.mp h)
   refine lf (ay (k:=(lo+hi)/2) ha hsm (getElem?_eq_getElem H.m)) (hK _ _ (getElem?_eq_getElem H.m) (sd (p:=(ks.getD ((lo+hi)/2) 0<x)) (fun h4=>?_) fun h4=>?_))
   ·exact ih g ((lo+hi)/2+1) hi (some (.int ((lo+hi)/2:Nat))) H.u1 H.u2 h3 fun m hh=>(if_pos h4▸e)▸q m hh
   ·exact ih g lo ((lo+hi)/2) (some (.int ((lo+hi)/2:Nat))) H.d1 H.d2 H.dn fun m hh=>(if_neg h4▸e)▸q m hh
theorem Bo{bd:Expr}(hK:∀i v,l[i]? =some v→∀{m c O Q},Q (.int (ks.getD i 0)) O→bw (W G3 (m+8)) (.lam as bd sc) [v] [] c Q O)(ha:iO O a=some l)(hsm:l.length<300)(q:Q (.int (o7 ks x l.length 0 l.length)) O):
 bw (W G3 (n+20)) (.cst (.ref 57)) [a,.int x] [(u "key",.lam as bd sc)] b Q O:=
 n0 (lf (ai ha hsm) (Fa (E6 hK ha hsm 300 l.length 0 l.length none hsm (le_refl _) (le_refl _) fun m' h'=>tk (Q:=Q) q)))
theorem yr{bd:Expr}(hK:∀i v,l[i]? =some v→∀{m c O Q},Q (.int (ks.getD i 0)) O→bw (W G3 (m+8)) (.lam as bd sc) [v] [] c Q O)(ha:iO O a=some l)(hsm:l.length<300)(q:Q (.int (o7 ks x l.length 0 l.length)) O):
 bw (W G3 (n+20)) (.cst (.ref 57)) [a,.int x,.int 0,.none] [(u "key",.lam as bd sc)] b Q O:=
 n0 (lf (ai ha hsm) (Fa (E6 hK ha hsm 300 l.length 0 l.length none hsm (le_refl _) (le_refl _) fun m' h'=>tk (Q:=Q) q)))
theorem Iv{x:V}{y:Int}{Q:Fl→List Fr→Oj→Prop}(hC:∀i v,l[i]? =some v→i5 G3 O .Lt v x=some (decide (ks.getD i 0<y)))(ha:iO O a=some l)(hsm:l.length<300)(f:Nat):
 ∀(g lo hi:Nat) (mid:Option V),hi-lo<f→hi-lo≤g→hi≤l.length→(∀m h,Q .next [⟨Bn,o9 a x (o7 ks y g lo hi) h .none m,false,0,none⟩] O)→
  bQ (W G3 (n+8)) (wT Lm) (wB Lm) b Q f [⟨Bn,o9 a x lo hi .none mid,false,0,none⟩] O:=by
 induction f with
 |zero=>exact fun _ _ _ _ h=>absurd h (not_lt_zero _)
 |succ f ih=>
  intro g lo hi mid h1 h2 h3 q
  refine sd (p:=(lo:Int)<hi) (fun h=>?_) fun h=>Bl h▸q mid hi
  cases g with
  |zero=>exact(vK h h2).elim
  |succ g=>
   have H:=A3 h h1 h2 h3
   have e:o7 ks y (g+1) lo hi=_:=if_pos (ofNat_lt.mp h)
   refine lf (ay (k:=(lo+hi)/2) ha hsm (getElem?_eq_getElem H.m)) (lf (hC _ _ (getElem?_eq_getElem H.m)) (sd (p:=(ks.getD ((lo+hi)/2) 0<y)) (fun h4=>?_) fun h4=>?_))
   ·exact ih g ((lo+hi)/2+1) hi (some (.int ((lo+hi)/2:Nat))) H.u1 H.u2 h3 fun m hh=>(if_pos h4▸e)▸q m hh
   ·exact ih g lo ((lo+hi)/2) (some (.int ((lo+hi)/2:Nat))) H.d1 H.d2 H.dn fun m hh=>(if_neg h4▸e)▸q m hh
theorem yq{x:V}{y:Int}(hC:∀i v,l[i]? =some v→i5 G3 O .Lt v x=some (decide (ks.getD i 0<y)))(ha:iO O a=some l)(hsm:l.length<300)(q:Q (.int (o7 ks y l.length 0 l.length)) O):
 bw (W G3 (n+20)) (.cst (.ref 57)) [a,x,.int 0,.none] [] b Q O:=
 n0 (lf (ai ha hsm) (Fa (Iv hC ha hsm 300 l.length 0 l.length none hsm (le_refl _) (le_refl _) fun m' h'=>tk (Q:=Q) q)))
noncomputable def yo(ks:List Int)(x:Int):Nat→Nat→Nat→Nat
 |0,lo,_=>lo
 |n+1,lo,hi=>if lo<hi then(if x<ks.getD ((lo+hi)/2) 0 then yo ks x n lo ((lo+hi)/2)else yo ks x n ((lo+hi)/2+1) hi)else lo
noncomputable def Dz:af:=(cV (dB 5)).names
theorem Gr(h:¬(lo:Int)<hi):yo ks x g lo hi=lo:=by
 cases g with
 |zero=>rfl
 |succ g=>exact if_neg fun z=>h (ofNat_lt.mpr z)
noncomputable def Mk:Stmt:=aX (IQ (aX (bF (dB 5)) 2)) 0
noncomputable def kr:Stmt:=aX (Lk (aX (bF (dB 5)) 2)) 0
theorem Ir{Q:Fl→List Fr→Oj→Prop}{bd:Expr}(hK:∀i v,l[i]? =some v→∀{m c O Q},Q (.int (ks.getD i 0)) O→bw (W G3 (m+8)) (.lam as bd sc) [v] [] c Q O)(ha:iO O a=some l)(hsm:l.length<300)(f:Nat):
 ∀(g lo hi:Nat) (mid:Option V),hi-lo<f→hi-lo≤g→hi≤l.length→(∀m h,Q .next [⟨Dz,o9 a (.int x) (yo ks x g lo hi) h (.lam as bd sc) m,false,0,none⟩] O)→
  bQ (W G3 (n+12)) (wT kr) (wB kr) b Q f [⟨Dz,o9 a (.int x) lo hi (.lam as bd sc) mid,false,0,none⟩] O:=by
 induction f with
 |zero=>exact fun _ _ _ _ h=>absurd h (not_lt_zero _)
 |succ f ih=>
  intro g lo hi mid h1 h2 h3 q
  refine sd (p:=(lo:Int)<hi) (fun h=>?_) fun h=>Gr h▸q mid hi
  cases g with
  |zero=>exact(vK h h2).elim
  |succ g=>
   have H:=A3 h h1 h2 h3
   have e:yo ks x (g+1) lo hi=_:=if_pos (ofNat_lt.mp h)
   refine lf (ay (k:=(lo+hi)/2) ha hsm (getElem?_eq_getElem H.m)) (hK _ _ (getElem?_eq_getElem H.m) (sd (p:=(x<ks.getD ((lo+hi)/2) 0)) (fun h4=>?_) fun h4=>?_))
   ·exact ih g lo ((lo+hi)/2) (some (.int ((lo+hi)/2:Nat))) H.d1 H.d2 H.dn fun m hh=>(if_pos h4▸e)▸q m hh
   ·exact ih g ((lo+hi)/2+1) hi (some (.int ((lo+hi)/2:Nat))) H.u1 H.u2 h3 fun m hh=>(if_neg h4▸e)▸q m hh
theorem yp{bd:Expr}(hK:∀i v,l[i]? =some v→∀{m c O Q},Q (.int (ks.getD i 0)) O→bw (W G3 (m+8)) (.lam as bd sc) [v] [] c Q O)(ha:iO O a=some l)(hsm:l.length<300)(q:Q (.int (yo ks x l.length 0 l.length)) O):
 bw (W G3 (n+20)) (.cst (.ref 39)) [a,.int x,.int 0,.none] [(u "key",.lam as bd sc)] b Q O:=
 n0 (lf (ai ha hsm) (Fa (Ir hK ha hsm 300 l.length 0 l.length none hsm (le_refl _) (le_refl _) fun m' h'=>tk (Q:=Q) q)))
end
section
variable {O:Oj} {k b n c:Nat} {l:List V} {x v:V} {Q:V→Oj→Prop} {o o':aT} {ks:List Int} {y:Int} {as:Arguments} {sc:Scope} {r:Nat×List Nat}
theorem dX{name:Str}{id:String}(h:lA O k=some l)(hi:dx name .list=some id):(lu G3 O (.ref k)).bind (dx name)=some id:=bs (f:=dx name) (v:=MT.list) (by show(lA O k).map _=_;rw[h];rfl) hi
theorem iD(h:x.pure=true):dC b k x=true:=or_eq_true_iff.mpr (.inr h)
theorem i3{i:Nat}(h:lA O k=some l)(hi:i≤l.length)(hs:l.length<300)(hv:x.pure=true):dU G3 (u "insert") (.ref k) [.int (i:Nat),x] b O=some (.none,O.set k (.list (l.take i++x::l.drop i))):=
 bs (f:=fun l=>sD (u "insert") k l [.int (i:Nat),x] b O) h (if_pos (and_eq_true_iff.mpr ⟨and_eq_true_iff.mpr ⟨and_eq_true_iff.mpr ⟨decide_eq_true (natCast_nonneg i),decide_eq_true (ofNat_le.mpr hi)⟩,iD hv⟩,aq hs⟩))
theorem bP(h:lA O k=some l)(hs:l.length<300)(hv:dC b k x=true):dU G3 (u "append") (.ref k) [x] b O=some (.none,O.set k (.list (l++[x]))):=
 bs (f:=fun l=>sD (u "append") k l [x] b O) h (if_pos (and_eq_true_iff.mpr ⟨hv,aq hs⟩))
theorem Hf(q:Q v (O.set k o)):Q v ((O.set k o).take O.length):=(show(O.set k o).take O.length=O.set k o from take_of_length_le (le_of_eq length_set)).symm▸q
theorem Bm(ks:List Int)(x:Int)(n:Nat):∀(lo hi:Nat),lo≤hi→o7 ks x n lo hi≤hi:=by
 induction n with
 |zero=>exact fun _ _ h=>h
 |succ n ih=>
  intro lo hi h
  show(if lo<hi then(if ks.getD ((lo+hi)/2) 0<x then _ else _)else lo)≤hi
  by_cases l:lo<hi
  ·rw[if_pos l]
   split
   ·exact ih _ _ (Ai l)
   ·exact le_trans (ih _ _ (HU l)) (le_of_lt (Ai l))
  ·rw[if_neg l];exact h
theorem Gs(ks:List Int)(x:Int)(n:Nat):∀(lo hi:Nat),lo≤hi→yo ks x n lo hi≤hi:=by
 induction n with
 |zero=>exact fun _ _ h=>h
 |succ n ih=>
  intro lo hi h
  show(if lo<hi then(if x<ks.getD ((lo+hi)/2) 0 then _ else _)else lo)≤hi
  by_cases l:lo<hi
  ·rw[if_pos l]
   split
   ·exact le_trans (ih _ _ (HU l)) (le_of_lt (Ai l))
   ·exact ih _ _ (Ai l)
  ·rw[if_neg l];exact h
theorem yX{bd:Expr}(hx:∀{m c O Q},Q (.int y) O→bw (W G3 (m+8)) (.lam as bd sc) [x] [] c Q O)
 (hK:∀i v,l[i]? =some v→∀{m c O Q},Q (.int (ks.getD i 0)) O→bw (W G3 (m+8)) (.lam as bd sc) [v] [] c Q O) (ha:lA O k=some l) (hsm:l.length<300) (hv:x.pure=true) (q:Q .none (O.set k (.list (l.take (o7 ks y l.length 0 l.length)++x::l.drop (o7 ks y l.length 0 l.length))))):
 bw (W G3 (n+30)) (.cst (.ref 48)) [.ref k,x] [(u "key",.lam as bd sc)] b Q O:=
 n0 (hx (yr hK ha hsm (lf (dX ha rfl) (lf (i3 ha (Bm _ _ _ _ _ (zero_le _)) hsm hv) (Hf (Q:=Q) q)))))
theorem yW(hC:∀i v,l[i]? =some v→i5 G3 O .Lt v x=some (decide (ks.getD i 0<y)))(ha:lA O k=some l)(hsm:l.length<300)(hv:x.pure=true)(q:Q .none (O.set k (.list (l.take (o7 ks y l.length 0 l.length)++x::l.drop (o7 ks y l.length 0 l.length))))):
 bw (W G3 (n+30)) (.cst (.ref 48)) [.ref k,x] [] b Q O:=
 n0 (yq hC ha hsm (lf (dX ha rfl) (lf (i3 ha (Bm _ _ _ _ _ (zero_le _)) hsm hv) (Hf (Q:=Q) q))))
theorem yV{bd:Expr}(hx:∀{m c O Q},Q (.int y) O→bw (W G3 (m+8)) (.lam as bd sc) [x] [] c Q O)
 (hK:∀i v,l[i]? =some v→∀{m c O Q},Q (.int (ks.getD i 0)) O→bw (W G3 (m+8)) (.lam as bd sc) [v] [] c Q O) (ha:lA O k=some l) (hsm:l.length<300) (hv:x.pure=true) (q:Q .none (O.set k (.list (l.take (yo ks y l.length 0 l.length)++x::l.drop (yo ks y l.length 0 l.length))))):
 bw (W G3 (n+30)) (.cst (.ref 30)) [.ref k,x] [(u "key",.lam as bd sc)] b Q O:=
 n0 (hx (yp hK ha hsm (lf (dX ha rfl) (lf (i3 ha (Gs _ _ _ _ _ (zero_le _)) hsm hv) (Hf (Q:=Q) q)))))
noncomputable def Hc(val b:Nat):List Nat→Option (Nat×List Nat)
 |[]=>if b&&& 64=0 then some (val,[])else none
 |c::l=>if b&&& 64=0 then some (val,c::l)else if val<1152921504606846976 then Hc (val*64|||(c&&& 63)) c l else none
noncomputable def gX:List Nat→Option (Nat×List Nat)
 |[]=>none
 |b::l=>Hc (b&&& 63) b l
noncomputable def aC(l:List Nat):List V:=l.map fun c=>V.int (c:Nat)
theorem w5(h:O[k]? =some (.iter l)):gw O k=some l:=by unfold gw;rw[h]
theorem rg(h:O[k]? =some (.iter (v::l))):cq (u "next") [.ref k] b O=some (v,O.set k (.iter l)):=by
 have e:cq (u "next") [.ref k] b O=(gw O k).bind fun l=>match l with
  |v::l=>some (v,O.set k (.iter l))
  |[]=>none:=by kernel_rfl!
 exact e.trans (bs (v:=v::l) (w5 h) rfl)
theorem dL(h:O[k]? =some o):(O.set k o')[k]? =some o':=getElem?_set_self (List.getElem?_eq_some_iff.mp h).1
theorem Cc{v:Nat}(h:v<1152921504606846976):Br O .LShift (.int (v:Nat)) (.int 6)=some (.int ((v*64:Nat):Int)):=
 if_pos (and_eq_true_iff.mpr ⟨and_eq_true_iff.mpr ⟨and_eq_true_iff.mpr ⟨decide_eq_true (natCast_nonneg v),rfl⟩,rfl⟩,decide_eq_true (lt_trans h (by decide))⟩)
noncomputable def LT:Stmt:=aX (bF (dB 11)) 2
noncomputable def LV:af:=(cV (dB 11)).names
noncomputable def LU(k c val:Nat):fP:=[(u "iterator",some (.ref k)),(u "b",some (.int c)),(u "val",some (.int val))]
theorem bV{j:Nat}(h:O[j]? =some o):O.set j o=O:=by
 apply List.ext_getElem?
 intro i
 by_cases hij:j=i
 ·subst hij;rw[dL h,h]
 ·rw[getElem?_set_ne hij]
theorem mO(h:((n:Nat):Int)≠0):¬n=0:=fun e=>h (congrArg Int.ofNat e)
theorem uq(h:¬((n:Nat):Int)≠0):n=0:=Int.ofNat.inj (Classical.not_not.mp h)
theorem J6{Q:Fl→List Fr→Oj→Prop}(l:List Nat):∀(f:Nat) (O:Oj) (val c:Nat),Hc val c l=some r→O[k]? =some (.iter (aC l))→l.length<f→(∀c',Q .next [⟨LV,LU k c' r.1,false,0,none⟩] (O.set k (.iter (aC r.2))))→
      bQ (W G3 (n+12)) (wT LT) (wB LT) b Q f [⟨LV,LU k c val,false,0,none⟩] O:=by
 induction l with
 |nil=>
  intro f O val c h hk hf q
  cases f with
  |zero=>exact absurd hf (not_lt_zero _)
  |succ f=>
   refine sd (p:=((c&&& 64:Nat):Int)≠0) (fun h1=>?_) fun h1=>?_
   ·exact nN ((if_neg (mO h1)).symm.trans h)
   ·obtain rfl:=sI ((if_pos (uq h1)).symm.trans h)
    exact bV hk▸q c
 |cons d l ih=>
  intro f O val c h hk hf q
  cases f with
  |zero=>exact absurd hf (not_lt_zero _)
  |succ f=>
   refine sd (p:=((c&&& 64:Nat):Int)≠0) (fun h1=>?_) fun h1=>?_
   ·have h:=(if_neg (mO h1)).symm.trans h
    by_cases hv:val<1152921504606846976
    ·exact lf (Cc hv) (lf (rg hk) (ih f _ _ d ((if_pos hv).symm.trans h) (dL hk) (lt_of_succ_lt_succ hf) fun c'=>(set_set (l:=O) _).symm▸q c'))
    ·exact nN ((if_neg hv).symm.trans h)
   ·obtain rfl:=sI ((if_pos (uq h1)).symm.trans h)
    exact bV hk▸q c
theorem J8(q:Q v (O.set k o)):Q v (((O.set k o').set k o).take O.length):=(set_set (l:=O) o').symm▸Hf q
theorem CP{l:List Nat}(h:gX l=some r)(hk:O[k]? =some (.iter (aC l)))(hl:l.length<300)(q:Q (.int (r.1:Nat)) (O.set k (.iter (aC r.2)))):
 bw (W G3 (n+20)) (.cst (.ref 72)) [.ref k] [] b Q O:=by
 cases l with
 |nil=>exact nN h
 |cons c l=>exact n0 (lf (rg hk) (Fa (J6 l 300 _ (c&&& 63) c h (dL hk) (lt_of_succ_lt hl) fun c'=>J8 (Q:=Q) q)))
noncomputable def JC:List Int:=[173,847,6150,6155,6156,6157,8203,8204,8205,8288,65279]++(List.range 16).map fun(k:Nat)=>(65024:Int)+k
theorem JB(O:Oj)(hc:c<2000000):IP G3 O (.int c) (.cst (.ref 80))=some (JC.contains (c:Int)):=
 (show IP G3 O (.int c) (.cst (.ref 80))=(if 0≤(c:Int)&&(c:Int).toNat<2^60 then some (JC.contains (c:Int))else none)by kernel_rfl!).trans (if_pos (and_eq_true_iff.mpr ⟨decide_eq_true (natCast_nonneg c),decide_eq_true (lt_trans hc (by decide))⟩))
theorem D3(hc:c<2000000)(q:Q (.bool (JC.contains (c:Int))) O):bw (W G3 (n+20)) (.cst (.ref 90)) [.str [c]] [] b Q O:=
 n0 (lf (JB O hc) (tk (Q:=Q) q))
noncomputable def Ju:List (Int×List Nat):=gC.map fun p=>(p.1.1,p.1.2.cps.toList)
noncomputable def oQ(c:Nat):List Nat:=match Ju.lookup (c:Int)with
 |some x=>x
 |none=>(Txt.lower (S [c])).cps.toList
theorem Gz(O:Oj)(hc:c<2000000):dU G3 (u "get") (.cst (.ref 91)) [.int c] b O=some (nZ Ju c .none,O):=by
 have e:dU G3 (u "get") (.cst (.ref 91)) [.int c] b O=(if 0≤(c:Int)&&(c:Int).toNat<2^60 then some (nZ Ju c .none)else none).map fun v=>(v,O):=by kernel_rfl!
 exact e.trans (congrArg (map fun v=>(v,O)) (if_pos (and_eq_true_iff.mpr ⟨decide_eq_true (natCast_nonneg c),decide_eq_true (lt_trans hc (by decide))⟩)))
theorem D2(hc:c<2000000)(hl:lO (Txt.lower (S [c])).length=true)(q:Q (.str (oQ c)) O):bw (W G3 (n+20)) (.cst (.ref 136)) [.str [c]] [] b Q O:=by
 refine n0 (lf (Gz O hc) ?_)
 unfold nZ
 unfold oQ at q
 cases hb:Ju.lookup (c:Int)with
 |some x=>rw[hb]at q;exact tk (Q:=Q) q
 |none=>
  rw[hb]at q
  refine lf (o:=dU G3 (u "lower") (.str [c]) [] O.length O) (v:=(.str (Txt.lower (S [c])).cps.toList,O)) (if_pos hl) ?_
  exact tk (Q:=Q) q
end
section
variable {O:Oj} {k b m f n:Nat} {l:List V} {x:Str} {c:Bool} {p q:Pos} {a v:V} {r:List Stmt} {F:List Fr} {Q:Fl→List Fr→Oj→Prop}
theorem aL(h:lA O k=some l):O[k]? =some (.list l):=by
 unfold lA at h
 cases ho:O[k]? with
 |none=>rw[ho]at h;exact nN h
 |some o=>
  rw[ho]at h
  clear ho
  cases o with
  |list l'=>obtain rfl:=sI h;rfl
  |_=>exact nN h
theorem aM(h:O[k]? =some (.list l)):lA O k=some l:=by unfold lA;rw[h]
theorem ac{l':List V}(h:lA O k=some l):lA (O.set k (.list l')) k=some l':=aM (dL (aL h))
theorem aU(O:Oj)(l:List V):lA (O++[.list l]) O.length=some l:=aM (by rw[getElem?_append_right (le_refl _),sub_self];rfl)
theorem jq{x:V}(h:b≤k):dC b k x=true:=or_eq_true_iff.mpr (.inl (decide_eq_true h))
noncomputable def fX(n:Nat):List Nat:=48::120::(toDigits 16 n).map Char.toNat
noncomputable def xE:List (Int×List Nat):=[(1,(u "OPTIMIZED").cps.toList),(2,(u "NEWLOCALS").cps.toList),(4,(u "VARARGS").cps.toList),(8,(u "VARKEYWORDS").cps.toList),(16,(u "NESTED").cps.toList),(32,(u "GENERATOR").cps.toList),(64,(u "NOFREE").cps.toList),(128,(u "COROUTINE").cps.toList),(256,(u "ITERABLE_COROUTINE").cps.toList),(512,(u "ASYNC_GENERATOR").cps.toList)]
noncomputable def oP(f:Nat):List Nat:=match xE.lookup (f:Int)with
 |some x=>x
 |none=>fX f
noncomputable def ue:List Nat→Nat→List (List Nat)→List (List Nat)
 |[],fl,aK=>aK++[fX fl]
 |k::r,fl,aK=>if fl&&& 2^k≠0 then(if fl ^^^ 2^k=0 then aK++[oP (2^k)]else ue r (fl ^^^ 2^k) (aK++[oP (2^k)]))else ue r fl aK
theorem ua(h:k<m):2^k<2^m:=Nat.pow_lt_pow_of_lt (by decide) h
theorem jT(h:f<2^64):cq (u "hex") [.int (f:Nat)] b O=some (.str (fX f),O):=
 (show cq (u "hex") [.int (f:Nat)] b O=(if 0≤(f:Int)&&(f:Int).toNat<2^64 then some (V.str (fX f),O)else none)by kernel_rfl!).trans (if_pos (and_eq_true_iff.mpr ⟨decide_eq_true (natCast_nonneg f),decide_eq_true h⟩))
theorem BC(h:f<2^60):dU G3 (u "get") (.cst (.ref 58)) [.int f,.str (fX f)] b O=some (.str (oP f),O):=by
 have e:dU G3 (u "get") (.cst (.ref 58)) [.int f,.str (fX f)] b O=(if 0≤(f:Int)&&(f:Int).toNat<2^60 then some (nZ xE f (.str (fX f)))else none).map fun v=>(v,O):=by kernel_rfl!
 have e2:nZ xE f (.str (fX f))=.str (oP f):=by
  unfold nZ oP
  cases xE.lookup (f:Int)<;>rfl
 exact e.trans (congrArg (map fun v=>(v,O)) ((if_pos (and_eq_true_iff.mpr ⟨decide_eq_true (natCast_nonneg f),decide_eq_true h⟩)).trans (congrArg some e2)))
theorem Cb(h:k<32):dA O .LShift (.int 1) (.int k)=some (.int ((2^k:Nat):Int)):=by
 have e:dA O .LShift (.int 1) (.int k)=if 0≤(1:Int)&&0≤(k:Int)&&(k:Int)<64&&cm 1 then some (.int (1*2^k))else none:=by kernel_rfl!
 have e2:(1:Int)*2^k=((2^k:Nat):Int):=by rw[Int.one_mul,Int.natCast_pow];rfl
 exact e.trans ((if_pos (and_eq_true_iff.mpr ⟨and_eq_true_iff.mpr ⟨and_eq_true_iff.mpr ⟨rfl,decide_eq_true (natCast_nonneg k)⟩,decide_eq_true (ofNat_lt.mpr (lt_trans h (by decide)))⟩,rfl⟩)).trans (congrArg (fun i=>some (V.int i)) e2))
noncomputable def Kc:Stmt:=aX (bF (dB 10)) 1
noncomputable def Kb:af:=(cV (dB 10)).names
noncomputable def Ka(fl r:Nat)(i g:Option V):fP:=[(u "flags",some (.int fl)),(u "names",some (.ref r)),(u "i",i),(u "flag",g)]
noncomputable def aF(l:List (List Nat)):List V:=l.map .str
theorem eO(h:(!c)=true):c=false:=by cases c with
 |false=>rfl
 |true=>exact aj h
theorem eH(h:(!c)=false):c=true:=by cases c with
 |false=>cases h
 |true=>rfl
theorem eo{l:List (List Nat)}(h:l.length<n):(aF l).length<n:=(length_map (as:=l) V.str).symm▸h
theorem lY(l:List (List Nat))(x:List Nat):aF l++[.str x]=aF (l++[x]):=by unfold aF;rw[map_append];rfl
noncomputable def kg(l:List Nat):List V:=l.map fun(k:Nat)=>V.int k
theorem FS{y:Str}{t:Pos}{op:Operator}{c:V}{F1:List Fr}(hx:jk x=true)(ha:pn G3 F x=some a)(hy:jk y=true)(hc:pn G3 F y=some c)(hv:Br O op a c=some v)(hs:bn F x v=some F1)(k:xs (W G3 (m+2)) r F1 b Q O):xs (W G3 (m+2)) (.AugAssign (.Name x p) op (.Name y q) t::r) F b Q O:=Gd.of hx (lf ha (Gd.of hy (lf hc (lf hv (lf hs k)))))
theorem Jy{J:WI}{t:Stmt}{r:List Stmt}{Q:Fl→List Fr→Oj→Prop}{O:Oj}(h:J.s t F b (fun f F1 O1=>match f with
 |.next=>xs J r F1 b Q O1
 |f=>Q f F1 O1) O):xs J (t::r) F b Q O:=h
theorem Ma{z:Pos}{t:Bool}{c d:List Stmt}(hx:jk x=true)(ha:pn G3 F x=some a)(ht:fo O a=some t)(h1:t=false→xs (W G3 (m+2)) c F b Q O)(h2:t=true→xs (W G3 (m+2)) d F b Q O):(W G3 (m+3)).s (.If (.UnaryOp .Not (.Name x p) q) c d z) F b Q O:=Gd.of hx (lf ha (lf ht (by cases t;exact h1 rfl;exact h2 rfl)))
theorem CK{a c:Nat}:Br O .BitXor (.int (a:Nat)) (.int (c:Nat))=some (.int ((a ^^^ c:Nat):Int)):=rfl
theorem Cy{r:Nat}(hb:b≤r)(ks:List Nat):∀(f fl:Nat) (aK:List (List Nat)) (O:Oj) (i g:Option V),(∀k∈ks,k<32)→ks.length<f→fl<2^40→aK.length+ks.length<250→lA O r=some (aF aK)→
      (∀i g fl',Q .next [⟨Kb,Ka fl' r i g,false,0,none⟩] (O.set r (.list (aF (ue ks fl aK)))))→fY (W G3 (n+14)) (xC Kc) (fm Kc) (xD Kc) b Q f (.items (kg ks)) [⟨Kb,Ka fl r i g,false,0,none⟩] O:=by
 induction ks with
 |nil=>
  intro f fl aK O i g hks hf hfl ha hl q
  cases f with
  |zero=>exact absurd hf (not_lt_zero _)
  |succ f=>
   refine lf (dX hl rfl) (lf (jT (lt_trans hfl (by decide))) (lf (bP hl (eo (lt_trans (lt_of_le_of_lt (le_add_right _ _) (by with_reducible assumption)) (by decide))) (jq hb)) (lY aK _▸q i g fl)))
 |cons k ks ih=>
  intro f fl aK O i g hks hf hfl ha hl q
  replace ha:aK.length+(ks.length+1)<250:=ha
  cases f with
  |zero=>exact absurd hf (not_lt_zero _)
  |succ f=>
   refine lf (Cb (hks k (mem_cons_self ..))) (sd (p:=((fl&&& 2^k:Nat):Int)≠0) (fun h1=>?_) fun h1=>?_)
   ·have hp:2^k<2^32:=ua (hks k (mem_cons_self ..))
    refine lf (dX hl rfl) (lf (jT (lt_trans hp (by decide))) (lf (BC (lt_trans hp (by decide))) (lf (bP hl (eo (lt_trans (lt_of_le_of_lt (le_add_right _ _) (by with_reducible assumption)) (by decide))) (jq hb)) ?_)))
    obtain⟨X,hX⟩:∃X,X=fl ^^^ 2^k:=⟨_,rfl⟩
    refine Gd.of rfl (FS (m:=n+11) (F1:=[⟨Kb,Ka X r (some (.int k)) (some (.int (2^k:Nat))),false,0,none⟩]) rfl rfl rfl rfl (hX▸CK) rfl ?_)
    refine Jy (Ma (m:=n+10) (a:=.int X) (t:=decide ((X:Int)≠0)) rfl rfl rfl (fun h2=>?_) fun h2=>?_)
    ·subst hX
     have e:ue (k::ks) fl aK=_:=(if_pos (mO h1)).trans (if_pos (uq (of_decide_eq_false h2)))
     exact lY aK _▸e▸q (some (.int k)) (some (.int (2^k:Nat))) (fl ^^^ 2^k)
    ·subst hX
     have e:ue (k::ks) fl aK=_:=(if_pos (mO h1)).trans (if_neg (mO (of_decide_eq_true h2)))
     refine ih f (fl ^^^ 2^k) (aK++[oP (2^k)]) _ (some (.int k)) (some (.int (2^k:Nat))) (fun j hj=>hks j (mem_cons_of_mem _ hj)) (lt_of_succ_lt_succ hf) (Nat.xor_lt_two_pow hfl (lt_trans hp (by decide))) (by rw[length_append];show aK.length+1+ks.length<250;exact lt_of_le_of_lt (le_of_eq (succ_add _ _)) ha) (lY aK _▸ac hl) fun i g fl'=>?_
     rw[set_set]
     exact e▸q i g fl'
   ·exact ih f fl aK O (some (.int k)) (some (.int (2^k:Nat))) (fun j hj=>hks j (mem_cons_of_mem _ hj)) (lt_of_succ_lt_succ hf) hfl (lt_of_succ_lt ha) hl fun i g fl'=>(if_neg (fun z=>h1 (fun e=>z (Int.ofNat.inj e))):ue (k::ks) fl aK=_)▸q i g fl'
noncomputable def Ft(fl:Nat):List (List Nat):=ue (List.range 32) fl []
noncomputable def pf(fl:Nat):List Nat:=(Txt.join (S [44,32]) ((Ft fl).map S)).cps.toList
theorem uP(l:List (List Nat)):oA (aF l)=some l:=by
 induction l with
 |nil=>rfl
 |cons x l ih=>exact congrArg (map (x:: ·)) ih
theorem sX{x:List Nat}{l:List (List Nat)}(h:iO O v=some (aF l))(hj:JoinOk (S x) (l.map S)=true):dU G3 (u "join") (.str x) [v] b O=some (.str (Txt.join (S x) (l.map S)).cps.toList,O):=
 (show dU G3 (u "join") (.str x) [v] b O=Ah x [v] O by kernel_rfl!).trans (bs (f:=fun l=>(oA l).bind fun ts=>if JoinOk (S x) (ts.map S)then some (V.str (Txt.join (S x) (ts.map S)).cps.toList,O)else none) h (bs (f:=fun ts=>if JoinOk (S x) (ts.map S)then some (V.str (Txt.join (S x) (ts.map S)).cps.toList,O)else none) (uP l) (if_pos hj)))
theorem LZ(a c:Nat):(Builtin.Range.rangeSize a c 1).toNat=c-a:=by
 have e:Builtin.Range.rangeSize a c 1=if(a:Int)<c then(((c:Int)-a-1)/1)+1 else 0:=by rfl
 rcases Decidable.em ((a:Int)<c)with h|h
 ·rw[e,if_pos h,Int.ediv_one,Int.sub_add_cancel,Int.toNat_sub]
 ·rw[e,if_neg h]
  exact(Nat.sub_eq_zero_of_le (ofNat_le.mp (not_lt.mp h))).symm
theorem Co(n:Nat):(bG 0 n 1).map V.int=kg (List.range n):=by
 have e:(Builtin.Range.rangeSize 0 n 1).toNat=n:=LZ 0 n
 rw[bG,e,map_map,kg]
 exact map_congr_left fun k _=>congrArg V.int ((congrArg (0+ ·) (Int.mul_one k)).trans (Int.zero_add _))
theorem Ls{Q:V→Oj→Prop}{o o':aT}(q:Q v O):Q v (((O++[o]).set O.length o').take O.length):=by
 rw[List.set_append_right _ _ (le_refl _),take_left];exact q
theorem Cz{fl:Nat}{Q:V→Oj→Prop}(hfl:fl<2^40)(hj:JoinOk (S [44,32]) ((Ft fl).map S)=true)(q:Q (.str (pf fl)) O):bw (W G3 (n+24)) (.cst (.ref 65)) [.int fl] [] b Q O:=by
 have hw:=fun Q=>Cy (n:=n+8) (Q:=Q) (le_refl O.length) (List.range 32) 300 fl [] (O++[.list []]) none none (fun k hk=>mem_range.mp hk) (by decide) hfl (by decide) (aU O _)
 rw[←Co 32]at hw
 exact n0 (vw (hw _ fun i g fl'=>lf (sX (ac (aU O [])) hj) (Ls (Q:=Q) q)))
inductive nR (O:Oj):gV→List V→Prop where
 |items (l:List V):nR O (.items l) l
 |live {n k:Nat} {l:List V} (h:lA O n=some l):nR O (.live n k) (l.drop k)
theorem Ji(h:iO O a=some l):∃s,gb O a=some s∧nR O s l:=by
 cases a with
 |lst l'=>obtain rfl:=sI h;exact⟨_,rfl,.items _⟩
 |ref n=>exact⟨.live n 0,by show(match lA O n with|some _=>some (gV.live n 0)|none=>_)=_;rw[show lA O n=some l from h],.live (k:=0) h⟩
 |_=>exact nN h
end
section
variable {O O1:Oj} {l:List V} {b k r n:Nat} {x want:List Nat} {L:List (List Nat)} {ep sp:Int} {Q:V→Oj→Prop} {w:Option V}
noncomputable def Dq(dW:List Nat):List (List Nat)→Option (Nat×List (List Nat))
 |[]=>none
 |w::r=>if w.isEmpty then some (0,w::r)else if Txt.startswith (S dW) (S w)then some (w.length,r)else none
noncomputable def Dr(dW:List Nat)(ws:List (List Nat)):Option (Int×List (List Nat)):=match ws.getLast? with
 |none=>none
 |some w=>if w.isEmpty then some (dW.length,ws)else if Txt.endswith (S dW) (S w)then some ((dW.length:Int)-w.length,ws.dropLast)else none
noncomputable def hJ(dW:List Nat)(ep:Int):List (List Nat)→Int→Bool
 |[],_=>true
 |w::r,sp=>if cH dW w (d4 dW.length sp) (min (d4 dW.length ep) dW.length)<0 then false else hJ dW ep r (cH dW w (d4 dW.length sp) (min (d4 dW.length ep) dW.length)+w.length)
noncomputable def nF(want:List Nat):Bool:= !(Builtin.Str.occurrences (S want) (S [46,46,46]) 0 want.length 1).isEmpty
noncomputable def nq(want:List Nat):List (List Nat):=(Txt.split (S want) (S [46,46,46])).map fun p=>p.cps.toList
noncomputable def ye(dW:List Nat)(ep:Int)(ws:List (List Nat))(sp:Int):Bool:=if sp>ep then false else hJ dW ep ws sp
noncomputable def BK(dW:List Nat)(sp:Int)(ws:List (List Nat)):Bool:=match Dr dW ws with
 |none=>false
 |some p=>ye dW p.1 p.2 sp
noncomputable def jx(want dW:List Nat):Bool:=if nF want then(match Dq dW (nq want)with
 |none=>false
 |some p=>BK dW p.1 p.2)
 else decide (want=dW)
theorem zK{l:List Nat}(h:l.length<1000000):fo O (.str l)=some (!l.isEmpty):=if_pos (dK h)
theorem len_str{l:List Nat}(h:l.length<1000000):cq (u "len") [.str l] b O=some (.int l.length,O):=by
 have e:cq (u "len") [.str l] b O=(if lO l.length then some (V.int l.length)else none).map fun r=>(r,O):=by kernel_rfl!
 exact e.trans (congrArg (map fun r=>(r,O)) (if_pos (dK h)))
theorem oC{y:List Nat}(h:(!y.isEmpty&&lO x.length&&lO (Builtin.Str.partsBetween (S x) (Builtin.Str.occurrences (S x) (S y) 0 x.length (x.length+1)) y.length).length)=true):dU G3 (u "split") (.str x) [.str y] b O=some (.ref O.length,O++[.list (aF ((Txt.split (S x) (S y)).map fun p=>p.cps.toList))]):=by
 have e:dU G3 (u "split") (.str x) [.str y] b O=if !y.isEmpty&&lO x.length&&lO (Builtin.Str.partsBetween (S x) (Builtin.Str.occurrences (S x) (S y) 0 x.length (x.length+1)) y.length).length then some (.ref O.length,O++[.list ((Txt.split (S x) (S y)).map fun p=>.str p.cps.toList)])else none:=by kernel_rfl!
 rw[e,if_pos h,aF,map_map];rfl
theorem bU{x:aT}(h:O1.take k=O)(hr:k≤r):(O1.set r x).take k=O:=(List.take_set_of_le hr).trans h
theorem dI{l:Oj}:(O++l).take O.length=O:=take_left
theorem BN(h:lA O r=some (aF (x::L)))(hl:(x::L).length<300):yk O (.ref r) (.int 0)=some (O.set r (.list (aF L))):=
 bs (f:=fun(l:List V)=>if lO l.length&&DZ 0 then(seqIndex? 0 l.length).map fun j=>O.set r (.list (l.eraseIdx j))else none) h (by
  rw[if_pos (show(lO (aF (x::L)).length&&DZ 0)=true from and_eq_true_iff.mpr ⟨aq (eo hl),rfl⟩)]
  have e:seqIndex? 0 (aF (x::L)).length=some 0:=if_pos (and_eq_true_iff.mpr ⟨rfl,decide_eq_true (by rw[aF,length_map];exact ofNat_lt.mpr (succ_pos _))⟩)
  rw[e];rfl)
theorem jP(h:0<n):seqIndex? (-1) n=some (n-1):=by
 have e:(if(0:Int)≤(-1+(n:Int))&&decide (-1+(n:Int)<n)then some (-1+(n:Int)).toNat else none)=some (n-1):=by
  rw[rq h]
  exact if_pos (and_eq_true_iff.mpr ⟨decide_eq_true (natCast_nonneg _),decide_eq_true (ofNat_lt.mpr (Nat.sub_lt h (by decide)))⟩)
 exact e
theorem As(h:lA O r=some (aF L))(e:L.getLast? =some x):cN O (.ref r) (.int (-1))=some (.str x):=
 (jS (v:=.ref r) h).trans <| bs (f:=fun l=>uE l (-1)) h (by
  have hl:0<(aF L).length:=by
   clear h
   cases L with
   |nil=>exact nN e
   |cons=>exact succ_pos _
  rw[uE,if_pos (by rfl),jP hl]
  show(aF L)[_]? =_
  rw[←List.getLast?_eq_getElem?,aF,List.getLast?_map,e];rfl)
theorem BM(h:lA O r=some (aF L))(e:L.getLast? =some x)(hl:L.length<300):yk O (.ref r) (.int (-1))=some (O.set r (.list (aF L.dropLast))):=
 bs (f:=fun(l:List V)=>if lO l.length&&DZ (-1)then(seqIndex? (-1) l.length).map fun j=>O.set r (.list (l.eraseIdx j))else none) h (by
  have h0:0<(aF L).length:=by
   clear h hl
   cases L with
   |nil=>exact nN e
   |cons=>exact succ_pos _
  rw[if_pos (show(lO (aF L).length&&DZ (-1))=true from and_eq_true_iff.mpr ⟨aq (eo hl),rfl⟩),jP h0]
  show some (O.set r (.list ((aF L).eraseIdx _)))=_
  rw[List.eraseIdx_length_sub_one,aF, ←List.map_dropLast];rfl)
noncomputable def Js:af:=(cV (dB 2)).names
noncomputable def K7:Stmt:=aX (bF (dB 2)) 9
noncomputable def Jr(want dW:List Nat)(r:Nat)(sp ep:Int)(w:Option V):fP:=[(u "want",some (.str want)),(u "got",some (.str dW)),(u "ws",some (.ref r)),(u "startpos",some (.int sp)),(u "endpos",some (.int ep)),(u "w",w)]
theorem oN{v:V}(h:lA O r=some l)(hk:l[k]? =some v):gB O (.live r k)=some (some (v,.live r (k+1))):=by
 show(lA O r).map _=_
 rw[h,Option.map_some,hk];rfl
theorem rn(h:lA O r=some l)(hk:l[k]? =none):gB O (.live r k)=some none:=by
 show(lA O r).map _=_
 rw[h,Option.map_some,hk];rfl
theorem qo(h:lA O r=some l):gb O (.ref r)=some (.live r 0):=by show(match lA O r with|some _=>some (gV.live r 0)|none=>_)=_;rw[h]
theorem xL{α:Type}{L:List α}{x:α}{r:List α}(h:L.drop k=x::r):L[k]? =some x∧L.drop (k+1)=r:=by
 constructor
 ·have:=List.getElem?_drop (xs:=L) (i:=k) (j:=0)
  rw[h]at this;exact this.symm
 ·rw[←drop_drop,h];rfl
theorem Ds{dW:List Nat}{Q:Fl→List Fr→Oj→Prop}(hl:lA O r=some (aF L))(hL:∀w∈L,w.length<1000000)(rs:List (List Nat)):∀(f k:Nat) (sp:Int) (w:Option V),L.drop k=rs→rs.length<f→
 (hJ dW ep rs sp=true→∀sp w,Q .next [⟨Js,Jr want dW r sp ep w,false,0,none⟩] O)→(hJ dW ep rs sp=false→∀F,Q (.ret (.bool false)) F O)→fY (W G3 (n+14)) (xC K7) (fm K7) (xD K7) b Q f (.live r k) [⟨Js,Jr want dW r sp ep w,false,0,none⟩] O:=by
 induction rs with
 |nil=>
  intro f k sp w hk hf q1 q2
  cases f with
  |zero=>exact absurd hf (not_lt_zero _)
  |succ f=>exact lf (rn hl (by rw[aF,getElem?_map,getElem?_eq_none (drop_eq_nil_iff.mp hk)];rfl)) (q1 rfl sp w)
 |cons x rs ih=>
  intro f k sp w hk hf q1 q2
  cases f with
  |zero=>exact absurd hf (not_lt_zero _)
  |succ f=>
   obtain⟨e1,e2⟩:=xL hk
   refine lf (oN (v:=.str x) hl (by rw[aF,getElem?_map,e1];rfl)) ?_
   refine((sd (p:=cH dW x (d4 dW.length sp) (min (d4 dW.length ep) dW.length)<0) (fun h=>?_) fun h=>?_))
   ·exact q2 (if_pos h) _
   ·refine lf (len_str (hL x (mem_of_getElem? e1))) (ih f (k+1) _ _ e2 (lt_of_succ_lt_succ hf) (fun h2=>q1 ((if_neg h:hJ dW ep (x::rs) sp=_).trans h2)) fun h2=>q2 ((if_neg h:hJ dW ep (x::rs) sp=_).trans h2))
theorem bq{c d:Bool}(e:c=d)(hT:O1.take k=O)(q:Q (.bool c) O):Q (.bool d) (O1.take k):=by subst e;subst hT;exact q
theorem xn{J:WI}{F:List Fr}{Q:Fl→List Fr→Oj→Prop}(h:Q .next F O):xs J [] F b Q O:=h
theorem Ep{dW:List Nat}(hl:lA O1 r=some (aF L))(hL:∀w∈L,w.length<1000000)(hs:L.length<300)(hT:O1.take k=O)(q:Q (.bool (ye dW ep L sp)) O):
 xs (W G3 (n+16)) ((bF (dB 2)).drop 8) [⟨Js,Jr want dW r sp ep w,false,0,none⟩] b (fun f _ O1=>match f with
  |.ret v=>Lf (leave k v O1) fun r=>Q r (O1.take k)
  |.next=>Q .none (O1.take k)
  |_=>False) O1:=by
 refine sd (p:=sp>ep) (fun h=>?_) fun h=>?_
 ·have e:ye dW ep L sp=false:=if_pos h
  exact bq e hT q
 ·have e:ye dW ep L sp=hJ dW ep L sp:=if_neg h
  refine lf (qo hl) (vw (Ds hl hL L 300 0 sp w rfl hs (fun h2 _ _=>?_) fun h2 _=>?_))
  ·exact bq (e.trans h2) hT q
  ·exact bq (e.trans h2) hT q
theorem Er{dW:List Nat}(hl:lA O1 r=some (aF L))(hL:∀w∈L,w.length<1000000)(hs:L.length<300)(hn:L≠[])(hT:O1.take k=O)(hr:k≤r)(q:Q (.bool (BK dW sp L)) O):
 xs (W G3 (n+18)) ((bF (dB 2)).drop 6) [⟨Js,Jr want dW r sp dW.length w,false,0,none⟩] b (fun f _ O1=>match f with
  |.ret v=>Lf (leave k v O1) fun r=>Q r (O1.take k)
  |.next=>Q .none (O1.take k)
  |_=>False) O1:=by
 have hx:∃x,L.getLast? =some x:=⟨_,List.getLast?_eq_some_getLast hn⟩
 obtain⟨x,hx⟩:=hx
 have hm:=hL x (List.mem_of_getLast? hx)
 unfold BK Dr at q
 have q:=(hx)▸q
 refine lf (As hl hx) (lf (zK hm) (sl (t:= !x.isEmpty) (fun h=>?_) fun h=>?_))
 ·dsimp only at q
  rw[if_neg (by rw[eO h];decide)]at q
  refine(sl (t:=Txt.endswith (S dW) (S x)) (fun h2=>?_) fun h2=>?_)
  ·rw[if_pos h2]at q
   exact lf (len_str hm) (lf (BM hl hx hs) (xn (xn (Ep (n:=n+2) (ac hl) (fun w hw=>hL w (List.dropLast_subset L hw)) (lt_of_le_of_lt (by rw[List.length_dropLast];exact sub_le _ _) hs) (bU hT hr) q))))
  ·rw[if_neg (by rw[h2];decide)]at q
   exact bq rfl hT q
 ·dsimp only at q
  have q:=(if_pos (eH h))▸q
  exact xn (Ep (n:=n+2) hl hL hs hT q)
theorem Dt{dW:List Nat}(hw:want.length<1000)(hg:dW.length<1000)
 (hin:nF want=true→(2≤(nq want).length∧(nq want).length<300)∧(∀w∈nq want,w.length<1000000)∧(Builtin.Str.partsBetween (S want) (Builtin.Str.occurrences (S want) (S [46,46,46]) 0 want.length (want.length+1)) 3).length≤1000000) (q:Q (.bool (jx want dW)) O):
 bw (W G3 (n+20)) (.cst (.ref 21)) [.str want,.str dW] [] b Q O:=by
 refine n0 (sl (t:= !nF want) (fun h=>?_) fun h=>?_)
 ·rw[jx,if_neg (by rw[eO h];decide)]at q
  exact tk (Q:=Q) q
 ·have h1:=eH h
  refine hG fun _ kk=>?_
  obtain⟨⟨h2,h3⟩,h4,h5⟩:=hin h1
  refine kk ?_
  rw[jx,if_pos h1]at q
  have hg1:=lt_trans hg (show 1000<1000000 by decide)
  refine lf (oC (and_eq_true_iff.mpr ⟨and_eq_true_iff.mpr ⟨rfl,dK (lt_trans hw (by decide))⟩,decide_eq_true h5⟩)) ?_
  generalize hW:(Txt.split (S want) (S [46,46,46])).map (fun p=>p.cps.toList)=W0
  have hW:nq want=W0:=hW
  rw[hW]at h2 h3 h4 q
  clear hW
  cases W0 with
  |nil=>cases h2
  |cons x L=>
   have hm:=h4 x (mem_cons_self ..)
   refine lf (ai (aU O _) (eo h3)) (gd (decide_eq_true (by rw[aF,length_map];exact ofNat_le.mpr h2)) (lf (len_str hg1) (lf (ay (k:=0) (x:=.str x) (aU O _) (eo h3) rfl) (lf (zK hm) (sl (t:= !x.isEmpty) (fun h6=>?_) fun h6=>?_)))))
   ·rw[Dq,if_neg (by rw[eO h6];decide)]at q
    refine(sl (t:=Txt.startswith (S dW) (S x)) (fun h7=>?_) fun h7=>?_)
    ·rw[if_pos h7]at q
     refine lf (len_str hm) (lf (BN (aU O _) h3) (xn (xn (Er (ac (aU O _)) (fun w hw=>h4 w (mem_cons_of_mem _ hw)) (lt_of_succ_lt h3) (fun e=>?_) (bU dI (le_refl _)) (le_refl _) q))))
     clear q h4 h3
     subst e
     cases h2 with|step h2=>cases h2
    ·rw[if_neg (by rw[h7];decide)]at q
     exact bq rfl dI q
   ·rw[Dq,if_pos (eH h6)]at q
    exact xn (Er (aU O _) h4 h3 (fun e=>nomatch e) dI (le_refl _) q)
end
section
variable {t:Bool} {A B:Prop} {O X:Oj} {n d k:Nat} {l:List V} {s:gV} {v:V} {J:WI} {tgt elt:Expr} {ifs:List Expr} {Q:V→Oj→Prop}
set_option backward.match.sparseCases false
theorem uB{B:Prop}(h:t=true)(a:A):(match(generalizing:=false) t with|true=>A|false=>B):=by subst h;exact a
theorem Ff{A:Prop}(h:t=false)(a:B):(match(generalizing:=false) t with|true=>A|false=>B):=by subst h;exact a
theorem MF{C:Prop}(h1:t=true→A)(h2:t=false→B):(match(generalizing:=false) !t with|true=>B|false=>(match(generalizing:=false) t with|true=>A|false=>C)):=by
 cases t
 ·exact h2 rfl
 ·exact h1 rfl
theorem eQ(h:lA O n=some l):lA (O++X) n=some l:=by
 have e:=aL h
 exact aM (by rw[getElem?_append_left (List.getElem?_eq_some_iff.mp e).1];exact e)
theorem nR.cons'(t:nR O s (v::l)):∃s',(∀X,gB (O++X) s=some (some (v,s')))∧nR O s' l:=by
 generalize e:v::l=l' at t
 cases t with
 |items l'=>exact⟨.items l,fun _=>by rw[←e];rfl,.items l⟩
 | @live n k l' h=>
  obtain⟨e1,e2⟩:=xL e.symm
  exact⟨.live n (k+1),fun _=>oN (eQ h) e1,e2▸ .live h⟩
theorem nR.nil'(t:nR O s []):gB (O++X) s=some none:=by
 generalize e:([]:List V)=l' at t
 cases t with
 |items l'=>rw[←e];rfl
 | @live n k l' h=>exact rn (eQ h) (getElem?_eq_none (drop_eq_nil_iff.mp e.symm))
noncomputable def xU{α:Type}(J:WI)(ifs:List Expr)(elt:Expr)(O:Oj)(FR:Option α→List Fr)(p:α→Bool)(g:α→V)(a:α):Prop:=
 ∀aK (K1:V→Oj→Prop) (K2:Oj→Prop),(p a=true→K1 (g a) (O++[.list aK]))→(p a=false→K2 (O++[.list aK]))→
  CL J ifs (FR (some a)) O.length (fun t O1=>uT t (J.e elt (FR (some a)) O.length K1 O1) (K2 O1)) (O++[.list aK])
theorem jI{aK:List V}(h:aK.length<300):pU (O++[.list aK]) O.length v=some (O++[.list (aK++[v])]):=by
 unfold pU
 rw[aU,Option.bind_some,if_pos (aq h),List.set_append_right _ _ (le_refl _),sub_self];rfl
theorem Dx{α:Type}{FR:Option α→List Fr}{p:α→Bool}{g e:α→V}{Q:Oj→Prop}(set:∀t a,dG (FR t) tgt (e a)=some (FR (some a)))(l:List α):∀(f:Nat) (t:Option α) (s:gV) (aK:List V),
 (∀a∈l,xU J ifs elt O FR p g a)→nR O s (l.map e)→l.length<f→aK.length+l.length<300→Q (O++[.list (aK++(l.filter p).map g)])→iX J tgt ifs elt O.length (fun _=>Q) f s (FR t) (O++[.list aK]):=by
 induction l with
 |nil=>
  intro f t s aK st h hf ha q
  cases f with
  |zero=>exact absurd hf (not_lt_zero _)
  |succ f=>exact lf h.nil' (append_nil aK▸q)
 |cons a l ih=>
  intro f t s aK st h hf ha q
  replace ha:aK.length+(l.length+1)<300:=ha
  cases f with
  |zero=>exact absurd hf (not_lt_zero _)
  |succ f=>
   obtain⟨s',e1,h''⟩:=h.cons'
   refine lf (e1 _) (lf (set t a) (st a (mem_cons_self ..) aK _ _ (fun hp=>?_) fun hp=>?_))
   ·refine lf (jI (lt_of_le_of_lt (le_add_right _ _) (by with_reducible assumption))) (ih f _ _ _ (fun x hx=>st x (mem_cons_of_mem _ hx)) h'' (lt_of_succ_lt_succ hf) (by rw[length_append];show aK.length+1+l.length<300;exact lt_of_le_of_lt (le_of_eq (succ_add _ _)) ha) ?_)
    rw[List.filter_cons_of_pos hp,map_cons]at q
    rw[append_assoc]
    exact q
   ·refine ih f _ _ _ (fun x hx=>st x (mem_cons_of_mem _ hx)) h'' (lt_of_succ_lt_succ hf) (lt_of_succ_lt ha) ?_
    rw[List.filter_cons_of_neg (by rw[hp];decide)]at q
    exact q
theorem lc{α:Type}(l:List α)(FR:Option α→List Fr)(p:α→Bool)(g e:α→V)(ts:nR O s (l.map e))(set:∀t a,dG (FR t) tgt (e a)=some (FR (some a)))
 (st:∀a∈l,xU J ifs elt O FR p g a) (hl:l.length<300) (hp:d0 ((l.filter p).map g)=true) (q:Q (.lst ((l.filter p).map g)) O):EC J tgt ifs elt O.length (fun _=>kN O.length Q) s (FR none) (O++[.list []]):=by
 refine⟨?_⟩
 refine Dx set l 300 none s [] st ts hl (by rw[length_nil,zero_add];exact hl) ?_
 refine Lf.of (aU O _) ?_
 rw[nil_append,hp]
 show Q _ ((O++[aT.list _]).take O.length)
 rw[take_left]
 exact q
noncomputable def Jx{α:Type}(_:α):Bool:=true
theorem m7{α:Type}(l:List α):l.filter Jx=l:=List.filter_eq_self.mpr fun _ _=>rfl
theorem CF{α:Type}(l:List α)(FR:Option α→List Fr)(g e:α→V)(ts:nR O s (l.map e))(set:∀t a,dG (FR t) tgt (e a)=some (FR (some a)))
 (st:∀a∈l,xU J ifs elt O FR Jx g a) (hl:l.length<300) (hp:d0 (l.map g)=true) (q:Q (.lst (l.map g)) O):EC J tgt ifs elt O.length (fun _=>kN O.length Q) s (FR none) (O++[.list []]):=
 lc l FR Jx g e ts set st hl (by rw[m7];exact hp) (by rw[m7];exact q)
theorem f7(hd:(((d:Int)==2||(d:Int)==3||(d:Int)==4||(d:Int)==10||(d:Int)==64))=true)(h:k<600):dA O .Pow (.int (d:Nat)) (.int (k:Nat))=some (.int ((d^k:Nat):Int)):=by
 have e:dA O .Pow (.int (d:Nat)) (.int (k:Nat))=if((d:Int)==2||(d:Int)==3||(d:Int)==4||(d:Int)==10||(d:Int)==64)&&0≤(k:Int)&&(k:Int)<600 then some (.int ((d:Int)^k))else none:=by kernel_rfl!
 exact e.trans ((if_pos (and_eq_true_iff.mpr ⟨and_eq_true_iff.mpr ⟨hd,decide_eq_true (natCast_nonneg k)⟩,decide_eq_true (ofNat_lt.mpr h)⟩)).trans (congrArg (fun i=>some (V.int i)) (Int.natCast_pow d k).symm))
theorem iJ(h:k<2^300):cm (k:Nat)=true:=decide_eq_true (lt_trans h (Nat.pow_lt_pow_of_lt (by decide) (by decide)))
theorem lK{a:Nat}(h:0<d)(h2:d<2^300):dA O .FloorDiv (.int (a:Nat)) (.int (d:Nat))=some (.int ((a/d:Nat):Int)):=by
 have e:dA O .FloorDiv (.int (a:Nat)) (.int (d:Nat))=if(d:Int)>0&&cm (d:Nat)then some (.int ((a:Int)/(d:Int)))else none:=by kernel_rfl!
 exact e.trans (if_pos (and_eq_true_iff.mpr ⟨decide_eq_true (ofNat_lt.mpr h),iJ h2⟩))
theorem Cq(h:k<1000)(hl:l.length*k<1000000):dA O .Mult (.lst l) (.int (k:Nat))=some (.lst (replicate k l).flatten):=by
 have e:dA O .Mult (.lst l) (.int (k:Nat))=if 0≤(k:Int)&&(k:Int)<1000&&lO (l.length*k)then some (.lst (replicate k l).flatten)else none:=by kernel_rfl!
 exact e.trans (if_pos (and_eq_true_iff.mpr ⟨and_eq_true_iff.mpr ⟨decide_eq_true (natCast_nonneg k),decide_eq_true (ofNat_lt.mpr h)⟩,dK hl⟩))
theorem xN{r:List V}(hl:l.length+r.length<1000000):dA O .Add (.lst l) (.lst r)=some (.lst (l++r)):=if_pos (dK hl)
theorem kq{K:V→Oj→Prop}{i j:Int}(e:i=j)(k:K (.int j) O):K (.int i) O:=e▸k
theorem aJ(l:List Nat):(aC l).length=l.length:=length_map ..
theorem cn(l r:List Nat):aC (l++r)=aC l++aC r:=map_append
theorem bx:∀l:List Nat,d0 (aC l)=true
 |[]=>rfl
 |_::l=>bx l
mutual
noncomputable def kS:Nat→V→Bool
 |0,_=>false
 |n+1,v=>match v with
  |.tup l=>l.all (kS n)
  |.lst l=>l.all (kS n)
  |.ref _=>false
  |_=>true
end
theorem fU{α:Type}{f:α→Option α}:∀{l:List α},(∀v∈l,f v=some v)→l.mapM f=some l
 |[],_=>rfl
 |v::l,h=>by
  rw[mapM_cons,h v (mem_cons_self ..),fU fun x hx=>h x (mem_cons_of_mem _ hx)];rfl
theorem fA{O:Oj}{b:Nat}:∀(n:Nat) {v:V},kS n v=true→cB O b n v=some v
 |n+1,v,h=>by
  cases v with
  |tup l=>exact(congrArg (map V.tup) (fU fun v hv=>fA n (all_eq_true.mp h v hv)))
  |lst l=>exact(congrArg (map V.lst) (fU fun v hv=>fA n (all_eq_true.mp h v hv)))
  |ref=>exact aj h
  |_=>rfl
theorem lv{b:Nat}(h:kS 4 v=true):leave b v O=some v:=fA 4 h
theorem yb(l:List Nat):kS (n+2) (.lst (aC l))=true:=all_eq_true.mpr fun v hv=>by
 obtain⟨c,_,rfl⟩:=mem_map.mp hv;rfl
theorem ET:∀n:Nat,(replicate n [V.int 64]).flatten=aC (replicate n 64)
 |0=>rfl
 |n+1=>by rw[replicate_succ,replicate_succ,flatten_cons,ET n];rfl
noncomputable def zE(nm:af)(F:List Fr)(x:String)(t:Option Nat):List Fr:=⟨nm,[(u ".0",none),(u x,t.map fun(k:Nat)=>V.int k)],false,0,none⟩::F
theorem eu{α:Type}(f:α→Int):∀l:List α,d0 (l.map fun a=>V.int (f a))=true
 |[]=>rfl
 |_::l=>eu f l
end
section
variable {p c i:Nat} {v:V} {l:List V} {pa p1 p2 p3:Pos} {Q:V→Oj→Prop} {O1 X:Oj} {x:List Nat} {j:Int} {o:aT}
set_option backward.match.sparseCases false
theorem eN{α:Type}(l:List α)(a c:Nat):aO l (sliceRange a c 1)=(l.drop a).take (c-a):=by
 rw[sliceRange_one]
 exact(congrArg (fun f=>((List.range (c-a)).map (a+ ·)).filterMap f) (funext fun i=>(List.getElem?_toArray ..).symm)).trans (pick_run l.toArray a (c-a))
theorem jW{n:Nat}{d:Int}(h:p≤n):ff n 1 (some (p:Int)) d=p:=by
 have e:ff n 1 (some (p:Int)) d=max 0 (min (if(p:Int)<0 then(p:Int)+n else p) n):=by kernel_rfl!
 rw[e,if_neg (not_lt.mpr (natCast_nonneg p)),Int.min_eq_left (ofNat_le.mpr h),Int.max_eq_right (natCast_nonneg p)]
theorem v5{n:Nat}(h:p≤n):av (some (p:Int)) none none n=some (sliceRange p n 1):=congrArg (fun i=>some (sliceRange i n 1)) (jW h)
theorem Hi{n:Nat}(h:p≤n):av none (some (p:Int)) none n=some (sliceRange (0:Nat) p 1):=congrArg (fun i=>some (sliceRange (0:Nat) i 1)) (jW h)
theorem zU{lo hi:V}{a c:Option Int}{is:List Nat}{O:Oj}(h:iO O v=some l)(hs:l.length<300)(h1:dr lo=some a)(h2:dr hi=some c)(h3:av a c none l.length=some is):cT O v lo hi .none=some (.lst (aO l is)):=by
 have e:(if lO l.length then(av a c none l.length).map fun is=>V.lst (aO l is)else none)=some (.lst (aO l is)):=by rw[if_pos (aq hs),h3];rfl
 refine bs h1 (bs h2 ?_)
 cases v with
 |lst l'=>obtain rfl:=sI h;exact e
 |ref n=>exact bs (f:=fun l:List V=>if lO l.length then(av a c none l.length).map fun is=>V.lst (aO l is)else none) (show lA O n=some l from h) e
 |_=>exact nN h
theorem BA{O:Oj}(h:iO O v=some l)(hs:l.length<300)(hp:p≤l.length):cT O v (.int (p:Nat)) .none .none=some (.lst (l.drop p)):=by
 have e:=zU (lo:=.int (p:Nat)) (hi:=.none) h hs rfl rfl (v5 hp)
 rwa[eN,take_of_length_le (le_of_eq length_drop)]at e
theorem FZ{O:Oj}(h:iO O v=some l)(hs:l.length<300)(hp:p≤l.length):cT O v .none (.int (p:Nat)) .none=some (.lst (l.take p)):=by
 have e:=zU (lo:=.none) (hi:=.int (p:Nat)) h hs rfl rfl (Hi hp)
 rwa[eN,drop_zero,Nat.sub_zero]at e
theorem Ml{t:Bool}{A B C:Prop}(h1:t=true→C)(h2:t=false→B):(match(generalizing:=false) t with|true=>C|false=>(match(generalizing:=false) t with|true=>A|false=>B)):=by
 cases t
 ·exact h2 rfl
 ·exact h1 rfl
noncomputable def sW(p:Pos):Arguments:=⟨[],[⟨u "one",none,p⟩],none,[],[],none,[]⟩
noncomputable def sV(k:Nat)(p1 p2 p3:Pos):Expr:=.Subscript (.Name (u "one") p1) (.Constant (.int 0) k p2) p3
noncomputable def sU:Scope:={ kind:=.function,names:=[(u "one",.local)],isGenerator:=false,isCoroutine:=false }
theorem At{m k:Nat}{i:Int}{O:Oj}(q:Q (.int i) O):bw (W G3 (m+8)) (.lam (sW pa) (sV k p1 p2 p3) sU) [.tup [.int i,v]] [] c Q O:=n0 (tk (Q:=Q) q)
noncomputable def bz{α:Type}(f:α→Nat)(g:α→V)(l:List α):List V:=l.map fun a=>.tup [.int (f a),g a]
noncomputable def cA{α:Type}(f:α→Nat)(l:List α):List Int:=l.map fun a=>(f a:Int)
theorem GV{α:Type}{f:α→Nat}{g:α→V}{l:List α}{k:Nat}:∀i v,(bz f g l)[i]? =some v→∀{m c O Q},Q (.int ((cA f l).getD i 0)) O→bw (W G3 (m+8)) (.lam (sW pa) (sV k p1 p2 p3) sU) [v] [] c Q O:=by
 intro i v h m c O Q q
 unfold bz at h
 unfold cA at q
 rw[getD_eq_getElem?_getD,getElem?_map]at q
 rw[getElem?_map]at h
 cases hl:l[i]? with
 |none=>rw[hl]at h;exact nN h
 |some a=>
  rw[hl]at h q
  obtain rfl:=sI h
  exact At q
theorem bW{α:Type}{f:α→Nat}{g:α→V}(l:List α):(bz f g l).length=l.length:=length_map ..
theorem gj{α:Type}{f:α→Nat}{g:α→V}{l:List α}{n:Nat}(h:l.length<n):(bz f g l).length<n:=(bW (f:=f) (g:=g) l).symm▸h
theorem HQ{α:Type}{f:α→Nat}{g:α→V}{l:List α}{O:Oj}(h:iO O v=some (bz f g l))(hs:l.length<300)(hp:p≤l.length):cT O v (.int (p:Nat)) .none .none=some (.lst (bz f g (l.drop p))):=by
 have e:=BA (p:=p) h (gj hs) (by rw[bW];exact hp)
 rwa[bz, ←map_drop]at e
theorem Jl{α:Type}{f:α→Nat}{g:α→V}{l:List α}{O:Oj}(h:iO O v=some (bz f g l))(hs:l.length<300)(hp:p≤l.length):cT O v .none (.int (p:Nat)) .none=some (.lst (bz f g (l.take p))):=by
 have e:=FZ (p:=p) h (gj hs) (by rw[bW];exact hp)
 rwa[bz, ←map_take]at e
theorem vq{O:Oj}{k:Nat}(hT:O1.take k=O)(q:Q v O):Q v (O1.take k):=by subst hT;exact q
theorem mf:∀l:List Nat,kP (aC l)=some (l.map fun(c:Nat)=>(c:Int))
 |[]=>rfl
 |_::l=>congrArg (map _) (mf l)
theorem qf:∀l:List Nat,(l.map fun(c:Nat)=>(c:Int)).sum=((l.sum:Nat):Int)
 |[]=>rfl
 |c::l=>by rw[map_cons,sum_cons,qf l,sum_cons];rfl
theorem vy{l:List Nat}{b:Nat}{O:Oj}(h:iO O v=some (aC l))(hs:l.length<300)(hb:l.sum<2^62):cq (u "sum") [v] b O=some (.int (l.sum:Nat),O):=by
 have e:cq (u "sum") [v] b O=(iO O v).bind fun l=>(kP l).bind fun is=>if is.all (fun i=>decide (0≤i))&&decide (is.sum.toNat<2^62)&&lO l.length then some (V.int is.sum,O)else none:=by kernel_rfl!
 rw[e,h,Option.bind_some,mf,Option.bind_some,qf]
 refine if_pos (and_eq_true_iff.mpr ⟨and_eq_true_iff.mpr ⟨all_eq_true.mpr fun i hi=>?_,decide_eq_true hb⟩,aq (by rw[aJ];exact hs)⟩)
 obtain⟨c,_,rfl⟩:=mem_map.mp hi
 exact decide_eq_true (natCast_nonneg c)
theorem qM(x:List Nat):∀l:List (List Nat),gQ (aF l) (.str x)=some (l.contains x)
 |[]=>rfl
 |y::l=>by
  show(gt (.str y) (.str x)).bind _=_
  rw[show gt (.str y) (.str x)=some (decide (y=x))from rfl,Option.bind_some]
  show(gQ (aF l) (.str x)).map _=_
  rw[qM x l,Option.map_some,List.contains_cons]
  congr 2
  exact Bool.eq_iff_iff.mpr ⟨fun h=>beq_iff_eq.mpr (of_decide_eq_true h).symm,fun h=>decide_eq_true (beq_iff_eq.mp h).symm⟩
theorem Di{l:List (List Nat)}{O:Oj}(h:iO O v=some (aF l)):i5 G3 O .In (.str x) v=some (l.contains x):=by
 cases v with
 |lst l'=>obtain rfl:=sI h;exact qM x l
 |ref n=>
  show CG G3 O (.str x) (.ref n)=_
  unfold CG
  simp only[(lC h (.str x)).1]
  exact bs (f:=fun l=>gQ l (.str x)) (show lA O n=some (aF l)from h) (qM x l)
 |_=>exact nN h
theorem ab{O:Oj}{j:Nat}{o':aT}(h:O[i]? =some o)(hn:j≠i):(O.set j o')[i]? =some o:=(getElem?_set_ne hn).trans h
theorem eX{O:Oj}(h:O[i]? =some o):(O++X)[i]? =some o:=by rw[getElem?_append_left (List.getElem?_eq_some_iff.mp h).1];exact h
theorem fg{O:Oj}{k:Nat}(h:O1.take k=O)(hk:k≤O1.length):(O1++X).take k=O:=by rw[List.take_append_of_le_length hk];exact h
theorem GI{O:Oj}{k:Nat}(h:O[i]? =some o)(hk:k≤i):k≤O.length:=le_of_lt (lt_of_le_of_lt hk (List.getElem?_eq_some_iff.mp h).1)
theorem GM{O:Oj}(h:O[i]? =some o)(ht:O1.take O.length=O):O1[i]? =some o:=by
 have hi:=(List.getElem?_eq_some_iff.mp h).1
 have h:(O1.take O.length)[i]? =some o:=by rw[ht];exact h
 rwa[List.getElem?_take_of_lt hi]at h
theorem jj{α:Type}{f:α→Nat}{g:α→V}(R:List α)(p:Nat)(x:α):(bz f g R).take p++V.tup [.int (f x),g x]::(bz f g R).drop p=bz f g (R.take p++x::R.drop p):=by rw[bz, ←map_take, ←map_drop,bz,map_append];rfl
section
variable {n b k r:Nat} {O:Oj} {a:V}
theorem Av{α:Type}{f:α→Nat}{g:α→V}{R:List α}{x:α}(ha:lA O k=some (bz f g R))(hs:R.length<300)(hg:(g x).pure=true)(q:Q .none (O.set k (.list (bz f g (R.take (o7 (cA f R) (f x) R.length 0 R.length)++x::R.drop (o7 (cA f R) (f x) R.length 0 R.length)))))):
 bw (W G3 (n+30)) (.cst (.ref 48)) [.ref k,.tup [.int (f x),g x]] [(u "key",.lam (sW pa) (sV i p1 p2 p3) sU)] b Q O:=
 yX (ks:=cA f R) (y:=f x) At GV ha (gj hs) (and_eq_true_iff.mpr ⟨hg,rfl⟩) (by rw[bW,jj];exact q)
theorem si{α:Type}{f:α→Nat}{g:α→V}{R:List α}{x:α}(ha:lA O k=some (bz f g R))(hs:R.length<300)(hg:(g x).pure=true)(q:Q .none (O.set k (.list (bz f g (R.take (yo (cA f R) (f x) R.length 0 R.length)++x::R.drop (yo (cA f R) (f x) R.length 0 R.length)))))):
 bw (W G3 (n+30)) (.cst (.ref 30)) [.ref k,.tup [.int (f x),g x]] [(u "key",.lam (sW pa) (sV i p1 p2 p3) sU)] b Q O:=
 yV (ks:=cA f R) (y:=f x) At GV ha (gj hs) (and_eq_true_iff.mpr ⟨hg,rfl⟩) (by rw[bW,jj];exact q)
theorem D0{α:Type}{f:α→Nat}{g:α→V}{R:List α}{x:Nat}(ha:iO O a=some (bz f g R))(hs:R.length<300)(q:Q (.int (o7 (cA f R) x R.length 0 R.length)) O):
 bw (W G3 (n+20)) (.cst (.ref 57)) [a,.int (x:Nat)] [(u "key",.lam (sW pa) (sV i p1 p2 p3) sU)] b Q O:=
 Bo (ks:=cA f R) GV ha (gj hs) (by rw[bW];exact q)
end
theorem Dg{α:Type}{l:List α}{x:α}(h:p≤l.length):(l.take p++x::l.drop p).length=l.length+1:=by
 rw[length_append,length_cons,length_take,length_drop,min_eq_left h,Nat.add_succ,Nat.add_sub_cancel' h]
theorem mh{a:Nat}(h:a<1000000):cm (a:Nat)=true:=iJ (lt_trans h (by decide))
theorem bN{i:Int}{a b:Nat}{O:Oj}(e:i=(a:Nat))(h:a<1000000):d5 (u "range") [.int i] b O=some (.rng 0 (a:Nat) 1,O):=by
 subst e
 exact(show d5 (u "range") [.int (a:Nat)] b O=(if cm (a:Nat)then some (.rng 0 (a:Nat) 1,O)else none)by kernel_rfl!).trans (if_pos (mh h))
theorem l6{i:Int}{a b:Nat}{O:Oj}(e:i=(a:Nat))(e2:j=(c:Nat))(h:a<1000000)(h2:c<1000000):d5 (u "range") [.int i,.int j] b O=some (.rng (a:Nat) (c:Nat) 1,O):=by
 subst e;subst e2
 exact(show d5 (u "range") [.int (a:Nat),.int (c:Nat)] b O=(if cm (a:Nat)&&cm (c:Nat)then some (.rng (a:Nat) (c:Nat) 1,O)else none)by kernel_rfl!).trans (if_pos (and_eq_true_iff.mpr ⟨mh h,mh h2⟩))
theorem l5(a c:Nat):bG a c 1=(range' a (c-a)).map fun(k:Nat)=>(k:Int):=by
 rw[bG,LZ,List.range'_eq_map_range,map_map]
 exact map_congr_left fun k _=>congrArg ((a:Int)+ ·) (Int.mul_one k)
theorem zX{a:Nat}(ha:a<1000000)(hc:c<1000000):l4 a c 1=true:=or_eq_true_iff.mpr (.inl (and_eq_true_iff.mpr ⟨and_eq_true_iff.mpr ⟨decide_eq_true (lt_trans ha (by decide)),decide_eq_true (lt_trans hc (by decide))⟩,rfl⟩))
theorem lg{a:Nat}{O:Oj}(ha:a<1000000)(h:c<1000000):gb O (.rng (a:Nat) (c:Nat) 1)=some (.items (kg (range' a (c-a)))):=by
 have e:gb O (.rng (a:Nat) (c:Nat) 1)=if l4 a c 1&&lO (bG a c 1).length then some (.items ((bG a c 1).map .int))else none:=by kernel_rfl!
 rw[e,zX ha h,l5,length_map,length_range',map_map]
 exact if_pos (and_eq_true_iff.mpr ⟨rfl,dK (lt_of_le_of_lt (le_trans (sub_le _ _) (le_of_lt_succ h)) (by decide))⟩)
theorem dD{a:Nat}{O:Oj}(h:a<1000000):gb O (.rng 0 (a:Nat) 1)=some (.items (kg (List.range a))):=by
 have e:=lg (a:=0) (c:=a) (O:=O) (by decide) h
 rwa[Nat.sub_zero, ←List.range_eq_range']at e
theorem zL{O:Oj}(h:l.length<300):fo O (.lst l)=some (!l.isEmpty):=if_pos (aq h)
theorem gu{O:Oj}{l:List Nat}(h:l.getLast? =some p):cN O (.lst (aC l)) (.int (-1))=some (.int (p:Nat)):=by
 have h0:0<(aC l).length:=by
  cases l with
  |nil=>exact nN h
  |cons=>exact succ_pos _
 show uE (aC l) (-1)=_
 rw[uE,if_pos (by rfl),jP h0]
 show(aC l)[_]? =_
 rw[←List.getLast?_eq_getElem?,aC,List.getLast?_map,h];rfl
noncomputable def bM(l:List Nat)(a c:Nat):List Nat:=(l.drop a).take (c-a)
theorem Fe{n a:Nat}(h:a≤n)(h2:c≤n):av (some (a:Int)) (some (c:Int)) none n=some (sliceRange a c 1):=by
 show some (sliceRange (ff n 1 (some (a:Int)) _) (ff n 1 (some (c:Int)) _) 1)=_
 exact Eq.symm (jW h)▸Eq.symm (jW h2)▸rfl
theorem xM{O:Oj}{l:List Nat}{i:Int}{a:Nat}(e1:i=(a:Nat))(e2:j=(c:Nat))(h:l.length<300)(ha:a≤l.length)(hc:c≤l.length):cT O (.str l) (.int i) (.int j) .none=some (.str (bM l a c)):=by
 subst e1;subst e2
 refine bs (f:=fun lo=>(dr (.int (c:Nat))).bind fun hi=>(dr .none).bind fun st=>if lO l.length&&st.isNone then(av lo hi st l.length).map fun is=>V.str (aO l is)else none) (v:=some (a:Int)) rfl ?_
 refine(if_pos (show(lO l.length&&true)=true from and_eq_true_iff.mpr ⟨aq h,rfl⟩)).trans ?_
 rw[Fe ha hc,Option.map_some,eN];rfl
theorem dP{O:Oj}{y:List Nat}(h:x.length+y.length<1000000):dA O .Add (.str x) (.str y)=some (.str (x++y)):=if_pos (dK h)
theorem Dy{O:Oj}{n:Nat}{r:List V}(h:lA O n=some l)(hl:l.length+r.length<300):dA O .Add (.ref n) (.lst r)=some (.lst (l++r)):=bs (f:=fun l=>HB O l (.lst r)) h (if_pos (aq hl))
theorem r8(x y:Nat):yE (x:Int) (y:Int)=((min x y:Nat):Int):=by
 unfold yE
 rcases Nat.lt_or_ge y x with h|h
 ·rw[if_pos (ofNat_lt.mpr h),Nat.min_eq_right (le_of_lt h)]
 ·rw[if_neg (not_lt.mpr (ofNat_le.mpr h)),min_eq_left h]
theorem lF{l:List Nat}{k:Nat}{O:Oj}(h:iO O v=some (aC l))(hs:l.length<300)(hk:k<l.length):cN O v (.int (k:Nat))=some (.int (l.getD k 0:Nat)):=
 ay h (by rw[aJ];exact hs) (by rw[aC,getElem?_map,getElem?_eq_getElem hk,getD_eq_getElem?_getD,getElem?_eq_getElem hk];rfl)
end
section
variable {b n base aW aI k c:Nat} {Q:V→Oj→Prop} {O O1:Oj} {want word first aY ap cF bp x:List Nat} {wo:V}
set_option backward.match.sparseCases false
noncomputable def kf(x y:List Nat):List (List Nat):=(Txt.split (S x) (S y)).map fun p=>p.cps.toList
noncomputable def gv(x:List Nat)(l:List (List Nat)):List Nat:=(Txt.join (S x) (l.map S)).cps.toList
noncomputable def qq(x y:List Nat):Bool:= !y.isEmpty&&decide (x.length≤1000000)&&decide ((Builtin.Str.partsBetween (S x) (Builtin.Str.occurrences (S x) (S y) 0 x.length (x.length+1)) y.length).length≤1000000)
noncomputable def fW(x:List Nat)(l:List (List Nat)):Bool:=JoinOk (S x) (l.map S)
noncomputable def dE(word:List Nat):List (List Nat):=word.map fun c=>[c]
noncomputable def FY(word first aY ap cF:List Nat):List Nat:=gv cF (kf (gv ap (kf word (first++first))) (first++aY))
noncomputable def J7(word bp:List Nat):List Nat:=gv bp (dE word)++bp
noncomputable def zC(base c:Nat):Nat:=if c=46 then 46 else base+c-97
noncomputable def CT(word:List Nat)(base:Nat):List Nat:=word.map (zC base)
noncomputable def uL(word:List Nat)(aW:Nat)(first aY ap cF bp:List Nat)(aI:Nat):List Nat:=
 if aW%2=1 then CT word (if aW=1 then 65 else aI)else if aW=2 then FY word first aY ap cF else J7 word bp
noncomputable def sn(c:Nat):Bool:=JC.contains (c:Int)
noncomputable def gh(typed:List Nat):List (List Nat):=(typed.filter fun c=> !sn c).map oQ
noncomputable def jJ(word:List Nat)(aW:Nat)(first aY ap cF bp:List Nat)(aI:Nat):List Nat:=gv [] (gh (uL word aW first aY ap cF bp aI))
noncomputable def pO(c:Nat):Bool:=decide (c<2000000)&&lO (Txt.lower (S [c])).length
structure hV (word:List Nat) (aW:Nat) (first aY ap cF bp:List Nat) (aI:Nat):Prop where
 hw:word.length<200
 hs:aW<4
 two:aW=2→first.length+aY.length≤1000∧first.length+first.length≤1000∧qq word (first++first)=true∧fW ap (kf word (first++first))=true∧qq (gv ap (kf word (first++first))) (first++aY)=true∧fW cF (kf (gv ap (kf word (first++first))) (first++aY))=true
 nul:aW≠2→fW bp (dE word)=true∧(gv bp (dE word)).length+bp.length≤1000
 odd:aW%2=1→∀c∈word,c=46∨97≤c∧c<1000∧(aW=1∨60000≤aI∧aI<900000)
 sg:∀c∈uL word aW first aY ap cF bp aI,pO c=true
 len:(uL word aW first aY ap cF bp aI).length<290
 fin:fW [] (gh (uL word aW first aY ap cF bp aI))=true
theorem tP{b:Bool}(h:(b==false)=false):b=true:=by cases b with
 |true=>rfl
 |false=>cases h
noncomputable def EU:af:=(cV (dB 18)).names
noncomputable def wV(want:List Nat)(st base:Nat)(first aY ap cF bp:List Nat)(aI:Nat):V:=.tup [.str want,.int st,.int base,.str first,.str aY,.str ap,.str cF,.str bp,.int aI]
noncomputable def Jk(word:List Nat)(aW:Nat)(wo:V)(fi se tw bo ma al ty:Option V):fP:=[(u "word",some (.str word)),(u "style",some (.int aW)),(u "world",some wo),(u "first",fi),(u "second",se),(u "twice",tw),(u "both",bo),(u "mark",ma),(u "alphabet",al),(u "typed",ty)]
noncomputable def Ht(word:List Nat)(aW:Nat)(wo:V)(first aY ap cF bp:List Nat)(aI:Nat)(ty:Option V):fP:=Jk word aW wo (some (.str first)) (some (.str aY)) (some (.str ap)) (some (.str cF)) (some (.str bp)) (some (.int aI)) ty
set_option backward.match.sparseCases true
noncomputable abbrev Jv(k:Nat)(Q:V→Oj→Prop):Fl→List Fr→Oj→Prop:=fun f _ O1=>match f with
 |.ret v=>Lf (leave k v O1) fun r=>Q r (O1.take k)
 |.next=>Q .none (O1.take k)
 |_=>False
theorem fx{J:WI}{l:List Stmt}{i:Nat}{F:List Fr}{Q:Fl→List Fr→Oj→Prop}{O:Oj}(hi:l.drop i=aX l i::l.drop (i+1))(h:J.s (aX l i) F b (fun f F1 O1=>match f with
 |.next=>xs J (l.drop (i+1)) F1 b Q O1
 |f=>Q f F1 O1) O):xs J (l.drop i) F b Q O:=by rw[hi];exact h
set_option backward.match.sparseCases false
theorem Hs{st:Nat}{Q:Fl→List Fr→Oj→Prop}(q:Q .next [⟨EU,Ht word aW (wV want st base first aY ap cF bp aI) first aY ap cF bp aI none,false,0,none⟩] O):
 (W G3 (n+42)).s (aX (bF (dB 18)) 0) [⟨EU,Jk word aW (wV want st base first aY ap cF bp aI) none none none none none none none,false,0,none⟩] b Q O:=
 Eq.mpr (show(W G3 (n+42)).s (aX (bF (dB 18)) 0) [⟨EU,Jk word aW (wV want st base first aY ap cF bp aI) none none none none none none none,false,0,none⟩] b Q O=Q .next [⟨EU,Ht word aW (wV want st base first aY ap cF bp aI) first aY ap cF bp aI none,false,0,none⟩] O by kernel_rfl!) q
theorem An{l:List Nat}(h:l.length<300):d5 (u "list") [.str l] b O=some (.ref O.length,O++[.list (aF (dE l))]):=by
 have e:d5 (u "list") [.str l] b O=if lO (l.map fun c=>V.str [c]).length then some (.ref O.length,O++[.list (l.map fun c=>V.str [c])])else none:=by kernel_rfl!
 rw[e,if_pos (aq (by rw[length_map];exact h)),aF,dE,map_map];rfl
theorem qD{i:Int}(e:i=(k:Nat))(h:k<55000∨60000≤k∧k<1000000):cq (u "chr") [.int i] b O=some (.str [k],O):=by
 subst e
 have e:cq (u "chr") [.int (k:Nat)] b O=if 0≤(k:Int)&&(decide (k<55000)||ble 60000 k&&decide (k<1000000))then some (.str [k],O)else none:=by kernel_rfl!
 refine e.trans (if_pos (and_eq_true_iff.mpr ⟨decide_eq_true (natCast_nonneg k),or_eq_true_iff.mpr (h.imp decide_eq_true fun h=>and_eq_true_iff.mpr ⟨Nat.ble_eq.mpr h.1,decide_eq_true h.2⟩)⟩))
theorem v3{y:List Nat}(h:qq x y=true):dU G3 (u "split") (.str x) [.str y] b O=some (.ref O.length,O++[.list (aF (kf x y))]):=oC h
theorem eA{v:V}{l:List (List Nat)}(h:iO O v=some (aF l))(hj:fW x l=true):dU G3 (u "join") (.str x) [v] b O=some (.str (gv x l),O):=sX h hj
theorem iC{α:Type}(f:α→List Nat):∀l:List α,d0 (l.map fun a=>V.str (f a))=true
 |[]=>rfl
 |_::l=>iC f l
noncomputable def HK{α:Type}(e:α→V)(nm:af)(F:List Fr)(x:String)(t:Option α):List Fr:=⟨nm,[(u ".0",none),(u x,t.map e)],false,0,none⟩::F
theorem wD{tv:V}{t:List Nat}(htv:gb O1 tv=some (.items (t.map fun c=>.str [c])))(hsg:∀c∈t,pO c=true)(hl:t.length<290)(hf:fW [] (gh t)=true)(hT:O1.take k=O)(q:Q (.str (gv [] (gh t))) O):
 xs (W G3 (n+40)) ((bF (dB 18)).drop 3) [⟨EU,Ht word aW wo first aY ap cF bp aI (some tv),false,0,none⟩] b (fun f _ O1=>match f with
  |.ret v=>Lf (leave k v O1) fun r=>Q r (O1.take k)
  |.next=>Q .none (O1.take k)
  |_=>False) O1:=by
 have e1:((t.filter fun c=> !sn c).map fun c=>V.str (oQ c))=aF (gh t):=by rw[gh,aF,map_map];rfl
 refine lf htv (lc t (HK (fun c=>.str [c]) _ _ "sign") (fun c=> !sn c) (fun c=>.str (oQ c)) (fun c=>.str [c]) (.items _) (fun _ _=>rfl) (fun c hc aK K1 K2 k1 k2=>?_) (lt_trans (by with_reducible assumption) (by decide)) (iC _ _) ?_)
 ·have h:=and_eq_true_iff.mp (hsg c hc)
  refine D3 (of_decide_eq_true h.1) (sl (t:=JC.contains (c:Int)==false) (fun h2=>D2 (of_decide_eq_true h.1) h.2 (k1 ?_)) fun h2=>k2 ?_)
  ·exact congrArg (!·) (show sn c=false from eq_of_beq h2)
  ·exact congrArg (!·) (show sn c=true from tP h2)
 ·rw[e1]
  exact lf (eA rfl hf) (vq (Q:=Q) hT q)
theorem Ex(h:97≤c∧c<1000):(65:Int)+c-97=((65+c-97:Nat):Int)∧65+c-97<55000:=by exact⟨(Int.ofNat_sub (le_trans h.1 (le_add_left c 65))).symm,lt_of_le_of_lt (sub_le _ _) (lt_trans (Nat.add_lt_add_left h.2 65) (by decide))⟩
theorem Ip{a:Nat}(h:97≤c∧c<1000)(h2:60000≤a∧a<900000):(a:Int)+c-97=((a+c-97:Nat):Int)∧60000≤a+c-97∧a+c-97<1000000:=by exact⟨(Int.ofNat_sub (le_trans h.1 (le_add_left c a))).symm,Nat.le_sub_of_add_le (add_le_add h2.1 h.1),lt_of_le_of_lt (sub_le _ _) (lt_trans (add_lt_add h2.2 h.2) (by decide))⟩
theorem zh{t0:List Nat}(H:hV word aW first aY ap cF bp aI)(h0:aW%2≠1→uL word aW first aY ap cF bp aI=t0)(hT:O1.take k=O)(q:Q (.str (jJ word aW first aY ap cF bp aI)) O):
 xs (W G3 (n+41)) ((bF (dB 18)).drop 2) [⟨EU,Ht word aW wo first aY ap cF bp aI (some (.str t0)),false,0,none⟩] b (fun f _ O1=>match f with
  |.ret v=>Lf (leave k v O1) fun r=>Q r (O1.take k)
  |.next=>Q .none (O1.take k)
  |_=>False) O1:=by
 have hw:=H.hw
 refine sd (p:=((aW:Int)%2≠0)) (fun h=>?_) fun h=>?_
 ·have ho:aW%2=1:=zs h
  have et:uL word aW first aY ap cF bp aI=CT word (if aW=1 then 65 else aI):=if_pos ho
  have e1:(word.map fun c=>V.str [zC (if aW=1 then 65 else aI) c])=(CT word (if aW=1 then 65 else aI)).map fun c=>V.str [c]:=by rw[CT,map_map];rfl
  refine CF word (HK (fun c=>.str [c]) _ _ "sign") (fun c=>.str [zC (if aW=1 then 65 else aI) c]) (fun c=>.str [c]) (.items _) (fun _ _=>rfl) (fun c hc aK K1 K2 k1 k2=>?_) (lt_trans (by with_reducible assumption) (by decide)) (iC _ _) ?_
  ·have hb:=H.odd ho c hc
   refine sd (p:=([c]:List Nat)=[46]) (fun h=>?_) fun h=>?_
   ·injection h with h9 h8;subst h9
    exact k1 rfl
   ·have hb:=hb.resolve_left fun z=>h (congrArg (fun x=>[x]) z)
    have k1:K1 (.str [(if aW=1 then 65 else aI)+c-97]) (O1++[aT.list aK]):=(if_neg fun z=>h (congrArg (fun x=>[x]) z):zC (if aW=1 then 65 else aI) c=_)▸k1 rfl
    by_cases h1:aW=1
    ·subst h1
     exact lf (qD (k:=65+c-97) (Ex ⟨hb.1,hb.2.1⟩).1 (.inl (Ex ⟨hb.1,hb.2.1⟩).2)) k1
    ·have hc:=Ip ⟨hb.1,hb.2.1⟩ (hb.2.2.resolve_left h1)
     refine Ff (t:=decide ((aW:Int)=1)) (decide_eq_false fun z=>h1 (Int.ofNat.inj z)) (lf (qD (k:=aI+c-97) hc.1 (.inr hc.2)) ?_)
     have k1:=(if_neg h1)▸k1
     exact k1
  ·rw[e1]
   refine Lf.of rfl (xn ?_)
   exact wD (n:=n+1) rfl (et▸H.sg) (et▸H.len) (et▸H.fin) hT (et▸q)
 ·have et:=h0 (xG h)
  refine xn ?_
  exact wD (n:=n+1) rfl (et▸H.sg) (et▸H.len) (et▸H.fin) hT (et▸q)
theorem Hr(H:hV word aW first aY ap cF bp aI)(q:Q (.str (jJ word aW first aY ap cF bp aI)) O):
 xs (W G3 (n+42)) ((bF (dB 18)).drop 1) [⟨EU,Ht word aW wo first aY ap cF bp aI none,false,0,none⟩] b (Jv O.length Q) O:=by
 have hw:=H.hw
 by_cases h2:aW=2
 ·subst h2
  refine hG fun _ kk=>?_
  obtain⟨a1,a2,a3,a4,a5,a6⟩:=H.two rfl
  refine kk ?_
  refine lf (dP (lt_of_le_of_lt (by with_reducible assumption) (by decide))) (lf (v3 a3) (lf (eA (aU _ _) a4) (lf (dP (lt_of_le_of_lt (by with_reducible assumption) (by decide))) (lf (v3 a5) (lf (eA (aU _ _) a6) ?_)))))
  exact zh (n:=n+1) H (fun _=>rfl) (by rw[append_assoc];exact dI) q
 ·obtain⟨a1,a2⟩:=H.nul h2
  refine Ff (t:=decide ((aW:Int)=2)) (decide_eq_false fun z=>h2 (Int.ofNat.inj z)) (lf (An (lt_trans (by with_reducible assumption) (by decide))) (lf (eA (aU _ _) a1) (lf (dP (lt_of_le_of_lt (by with_reducible assumption) (by decide))) ?_)))
  exact zh (n:=n+1) H (fun h=>(if_neg h).trans (if_neg h2)) dI q
theorem wF{st:Nat}(H:hV word aW first aY ap cF bp aI)(q:Q (.str (jJ word aW first aY ap cF bp aI)) O):
 bw (W G3 (n+43)) (.cst (.ref 141)) [.str word,.int aW,wV want st base first aY ap cF bp aI] [] b Q O:=
 n0 (show xs (W G3 (n+42)) ((bF (dB 18)).drop 0) [⟨EU,Jk word aW (wV want st base first aY ap cF bp aI) none none none none none none none,false,0,none⟩] O.length (Jv O.length Q) O from fx rfl (Hs (Hr H q)))
set_option backward.match.sparseCases true
end
section
variable {n b tb front:Nat} {O1 O:Oj} {text gaps letters:List Nat} {T:List V} {ft:Option V} {Q:Fl→List Fr→Oj→Prop}
set_option backward.match.sparseCases false
noncomputable def bK(text:List Nat)(begin low front c:Nat):List Nat:=(range' low (min (front+2) (text.length+1)-low)).filter fun p=>Txt.endswith (S (bM text begin front++[c])) (S (bM text begin p))
noncomputable def eG(gaps:List Nat)(front:Nat):List Nat:=(List.range (front+1)).filter fun k=>decide (gaps.getD k 0≠0)
noncomputable def cG(gaps:List Nat)(front:Nat):Nat×Nat:=match(eG gaps front).getLast? with
 |some p=>(p,p)
 |none=>(0,front+1)
noncomputable def dH(lost:Nat)(l:List Nat):Nat:=(l.getLast?).getD lost
noncomputable def uh(text gaps letters:List Nat)(front:Nat):List Nat:=letters.map fun c=>dH (text.length+1) (bK text (cG gaps front).1 (cG gaps front).2 front c)
noncomputable def uX(p:Bool×List Nat):V:=.lst (.bool p.1::aC p.2)
noncomputable def az(T:List (Bool×List Nat)):List V:=T.map uX
noncomputable def mI(text gaps letters:List Nat)(front:Nat):Bool×List Nat:=(decide (front=text.length),uh text gaps letters front)
noncomputable def rH(text gaps letters:List Nat):List (Bool×List Nat):=(List.range (text.length+1)).map (mI text gaps letters)++[(false,[text.length+1,text.length+1])]
noncomputable def HS:af:=(cV (dB 21)).names
noncomputable def Hw:Stmt:=aX (bF (dB 21)) 1
noncomputable def HR(text gaps letters:List Nat)(tb:Nat)(fr bs bg lw ft:Option V):fP:=[(u "text",some (.str text)),(u "gaps",some (.lst (aC gaps))),(u "letters",some (.str letters)),(u "table",some (.ref tb)),(u "lost",some (.int ((text.length+1:Nat):Int))),(u "front",fr),(u "begins",bs),(u "begin",bg),(u "low",lw),(u "fits",ft)]
theorem Iu(gaps:List Nat)(front:Nat):(cG gaps front).1≤front∧(cG gaps front).2≤front+1:=by
 unfold cG
 cases h:(eG gaps front).getLast? with
 |none=>exact⟨zero_le _,le_refl _⟩
 |some p=>
  have:=mem_range.mp (mem_filter.mp (List.mem_of_getLast? h)).1
  exact⟨le_of_lt_succ this,le_of_lt this⟩
theorem gE(l:List Nat):(aC l).isEmpty=l.isEmpty:=List.isEmpty_map
theorem oI{α:Type}(f:α→List Nat):∀l:List α,d0 (l.map fun a=>V.lst (aC (f a)))=true
 |[]=>rfl
 |a::l=>and_eq_true_iff.mpr ⟨bx (f a),oI f l⟩
theorem wH{begin low:Nat}{bs:Option V}(ht:text.length<100)(hl:letters.length<100)(hf:front≤text.length)(hbg:begin≤front)(hlw:low≤front+1)(hT:lA O1 tb=some T)(hTl:T.length<200)(hb:b≤tb)
 (q:∀ft,Q .next [⟨HS,HR text gaps letters tb (some (.int front)) bs (some (.int begin)) (some (.int low)) ft,false,0,none⟩] (O1.set tb (.list (T++[uX (decide (front=text.length),letters.map fun c=>dH (text.length+1) (bK text begin low front c))])))):
 xs (W G3 (n+40)) ((fm Hw).drop 2) [⟨HS,HR text gaps letters tb (some (.int front)) bs (some (.int begin)) (some (.int low)) ft,false,0,none⟩] b Q O1:=by
 have hmn:yE ((front+2:Nat):Int) ((text.length+1:Nat):Int)=((min (front+2) (text.length+1):Nat):Int):=r8 _ _
 have eb:decide ((front:Int)=(text.length:Int))=decide (front=text.length):=decide_eq_decide.mpr ⟨Int.ofNat.inj,congrArg Int.ofNat⟩
 have hmn2:min (front+2) (text.length+1)≤text.length+1:=min_le_right _ _
 refine CF letters (HK (fun c=>.str [c]) _ _ "letter") (fun c=>.lst (aC (bK text begin low front c))) (fun c=>.str [c]) (.items _) (fun _ _=>rfl) (fun c hc aK K1 K2 k1 k2=>?_) (lt_trans (by with_reducible assumption) (by decide)) ?_ ?_
 ·have e1:((range' low (min (front+2) (text.length+1)-low)).filter fun p=>Txt.endswith (S (bM text begin front++[c])) (S (bM text begin p))).map (fun(k:Nat)=>V.int k)=aC (bK text begin low front c):=rfl
  have hln:(range' low (min (front+2) (text.length+1)-low)).length<300:=by rw[length_range'];exact lt_of_le_of_lt (le_trans (sub_le _ _) (le_trans hmn2 (succ_le_succ (le_of_lt ht)))) (by decide)
  refine lf (l6 rfl hmn (lt_of_le_of_lt (le_trans hlw (succ_le_succ (le_trans hf (le_of_lt ht)))) (by decide)) (lt_of_le_of_lt (le_trans hmn2 (succ_le_succ (le_of_lt ht))) (by decide))) (lf (lg (lt_of_le_of_lt (le_trans hlw (succ_le_succ (le_trans hf (le_of_lt ht)))) (by decide)) (lt_of_le_of_lt (le_trans hmn2 (succ_le_succ (le_of_lt ht))) (by decide))) (lc _ (zE _ _ "place") (fun p=>Txt.endswith (S (bM text begin front++[c])) (S (bM text begin p))) (fun(k:Nat)=>V.int k) (fun(k:Nat)=>V.int k) (.items _) (fun _ _=>rfl) (fun p hp aK K1 K2 k1 k2=>?_) hln (e1▸bx _) (e1▸k1 rfl)))
  have hp:=List.mem_range'_1.mp hp
  have hp2:p≤text.length:=le_of_lt_succ (lt_of_lt_of_le (IZ hp) hmn2)
  have hsb:(bM text begin front).length≤text.length:=le_trans (List.length_take_le _ _) (le_trans (sub_le _ _) hf)
  exact lf (xM rfl rfl (lt_trans (by with_reducible assumption) (by decide)) (le_trans (by with_reducible assumption) (by with_reducible assumption)) hf) (lf (dP (by simp;exact lt_of_le_of_lt (succ_le_succ (le_trans hsb (le_of_lt ht))) (by decide))) (lf (xM rfl rfl (lt_trans (by with_reducible assumption) (by decide)) (le_trans (by with_reducible assumption) (by with_reducible assumption)) hp2) (sl k1 k2)))
 ·exact oI _ _
 ·have e1:letters.map (fun c=>V.lst (aC (bK text begin low front c)))=(letters.map (bK text begin low front)).map fun r=>V.lst (aC r):=by rw[map_map];rfl
  have e2:((letters.map (bK text begin low front)).map fun r=>V.int (dH (text.length+1) r:Nat))=aC (letters.map fun c=>dH (text.length+1) (bK text begin low front c)):=by rw[map_map,aC,map_map];rfl
  refine Eq.symm (e1)▸?_
  refine lf (dX hT rfl) (lf (len_str (lt_trans (by with_reducible assumption) (by decide))) (CF (letters.map (bK text begin low front)) (HK (fun r=>.lst (aC r)) _ _ "row") (fun r=>V.int (dH (text.length+1) r:Nat)) (fun r=>.lst (aC r)) (.items _) (fun _ _=>rfl) (fun r hr aK K1 K2 k1 k2=>?_) (by rw[length_map];exact lt_trans (by with_reducible assumption) (by decide)) (eu _ _) ?_))
  ·obtain⟨c,hc,rfl⟩:=mem_map.mp hr
   have hln:(aC (bK text begin low front c)).length<300:=by
    rw[aJ]
    exact lt_of_le_of_lt (length_filter_le _ _) (by rw[length_range'];exact lt_of_le_of_lt (le_trans (sub_le _ _) (le_trans hmn2 (succ_le_succ (le_of_lt ht)))) (by decide))
   refine lf (zL hln) (sl (fun h=>?_) fun h=>?_)
   ·rw[gE]at h
    cases hq:(bK text begin low front c).getLast? with
    |none=>rw[List.getLast?_eq_none_iff.mp hq]at h;exact aj h
    |some p=>exact lf (gu hq) (kq (congrArg Nat.cast (show p=dH (text.length+1) (bK text begin low front c)by rw[dH,hq];rfl)) (k1 rfl))
   ·rw[gE]at h
    exact kq (congrArg Nat.cast (show text.length+1=dH (text.length+1) (bK text begin low front c)by rw[isEmpty_iff.mp (eH h)];rfl)) (k1 rfl)
  ·rw[e2]
   rw[←eb]at q
   exact lf (xN (by rw[aJ,length_map];exact lt_of_lt_of_le (Nat.add_lt_add_left hl 1) (by decide))) (lf (bP hT (lt_trans (by with_reducible assumption) (by decide)) (jq hb)) (q _))
theorem C7{bs bg lw:Option V}(ht:text.length<100)(hg:gaps.length=text.length+1)(hl:letters.length<100)(hf:front≤text.length)(hT:lA O1 tb=some T)(hTl:T.length<200)(hb:b≤tb)
 (q:∀bs bg lw ft,Q .next [⟨HS,HR text gaps letters tb (some (.int front)) bs bg lw ft,false,0,none⟩] (O1.set tb (.list (T++[uX (mI text gaps letters front)])))):
 xs (W G3 (n+40)) (fm Hw) [⟨HS,HR text gaps letters tb (some (.int front)) bs bg lw ft,false,0,none⟩] b Q O1:=by
 have e1:((List.range (front+1)).filter fun k=>decide (gaps.getD k 0≠0)).map (fun(k:Nat)=>V.int k)=aC (eG gaps front):=rfl
 have hbl:(aC (eG gaps front)).length<300:=by
  rw[aJ]
  exact lt_of_le_of_lt (length_filter_le _ _) (by rw[length_range];exact lt_of_le_of_lt (succ_le_succ (le_trans hf (le_of_lt ht))) (by decide))
 have hB:=Iu gaps front
 refine lf (bN (a:=front+1) rfl (lt_of_le_of_lt (succ_le_succ (le_trans hf (le_of_lt ht))) (by decide))) (lf (dD (lt_of_le_of_lt (succ_le_succ (le_trans hf (le_of_lt ht))) (by decide))) (lc (List.range (front+1)) (zE _ _ "place") (fun k=>decide (gaps.getD k 0≠0)) (fun(k:Nat)=>V.int k) (fun(k:Nat)=>V.int k) (.items _) (fun _ _=>rfl) (fun k hk aK K1 K2 k1 k2=>?_) (by rw[length_range];exact lt_of_le_of_lt (succ_le_succ (le_trans hf (le_of_lt ht))) (by decide)) (e1▸bx _) ?_))
 ·have hk:=mem_range.mp hk
  refine lf (lF (l:=gaps) rfl (lt_of_le_of_lt (le_trans (le_of_eq hg) (succ_le_succ (le_of_lt ht))) (by decide)) (lt_of_lt_of_le hk (le_trans (succ_le_succ hf) (le_of_eq hg.symm)))) (sd (p:=(((gaps.getD k 0:Nat):Int)≠0)) (fun h=>k1 ?_) fun h=>k2 ?_)
  ·exact decide_eq_true fun z=>h (congrArg Int.ofNat z)
  ·exact decide_eq_false fun z=>h fun z2=>z (Int.ofNat.inj z2)
 ·rw[e1]
  refine lf (zL hbl) (sl (fun h=>?_) fun h=>?_)
  ·rw[gE]at h
   cases hq:(eG gaps front).getLast? with
   |none=>rw[List.getLast?_eq_none_iff.mp hq]at h;exact aj h
   |some p=>
    have e2:cG gaps front=(p,p):=by rw[cG,hq]
    unfold mI uh at q
    rw[e2]at q hB
    exact lf (gu hq) (lf (gu hq) (wH ht hl hf hB.1 hB.2 hT hTl hb (q _ _ _)))
  ·rw[gE]at h
   have e2:cG gaps front=(0,front+1):=by rw[cG,isEmpty_iff.mp (eH h)];rfl
   unfold mI uh at q
   rw[e2]at q hB
   exact wH ht hl hf hB.1 hB.2 hT hTl hb (q _ _ _)
theorem C4{k:Nat}(ht:text.length<100)(hg:gaps.length=text.length+1)(hl:letters.length<100)(hb:b≤tb)(hk:k≤tb)(fs:List Nat):∀(f:Nat) (O1:Oj) (T:List (Bool×List Nat)) (fr bs bg lw ft:Option V),fs.length<f→(∀x∈fs,x≤text.length)→T.length+fs.length<200→lA O1 tb=some (az T)→O1.take k=O→
 (∀O2 fr bs bg lw ft,lA O2 tb=some (az (T++fs.map (mI text gaps letters)))→O2.take k=O→Q .next [⟨HS,HR text gaps letters tb fr bs bg lw ft,false,0,none⟩] O2)→
 fY (W G3 (n+40)) (xC Hw) (fm Hw) (xD Hw) b Q f (.items (kg fs)) [⟨HS,HR text gaps letters tb fr bs bg lw ft,false,0,none⟩] O1:=by
 induction fs with
 |nil=>
  intro f O1 T fr bs bg lw ft hf hx hT hl1 ht1 q
  cases f with
  |zero=>exact absurd hf (not_lt_zero _)
  |succ f=>exact q O1 fr bs bg lw ft ((append_nil T).symm▸hl1) ht1
 |cons x fs ih=>
  intro f O1 T fr bs bg lw ft hf hx hT hl1 ht1 q
  replace hT:T.length+(fs.length+1)<200:=hT
  cases f with
  |zero=>exact absurd hf (not_lt_zero _)
  |succ f=>
   have e:az T++[uX (mI text gaps letters x)]=az (T++[mI text gaps letters x]):=by rw[az,az,map_append];rfl
   show xs _ _ _ _ _ _
   refine C7 ht hg hl (hx x (mem_cons_self ..)) hl1 (by rw[az,length_map];exact lt_of_le_of_lt (le_add_right _ _) (by with_reducible assumption)) hb fun bs bg lw ft=>?_
   refine ih f _ (T++[mI text gaps letters x]) _ bs bg lw ft (lt_of_succ_lt_succ hf) (fun y hy=>hx y (mem_cons_of_mem _ hy)) (by rw[length_append];show T.length+1+fs.length<200;exact lt_of_le_of_lt (le_of_eq (succ_add _ _)) hT) (e▸ac hl1) (bU ht1 hk) fun O2 fr bs bg lw ft h1 h2=>q O2 fr bs bg lw ft ?_ h2
   rw[append_assoc]at h1
   exact h1
theorem vS(T:List (Bool×List Nat)):kS 4 (.lst (az T))=true:=all_eq_true.mpr fun v hv=>by
 obtain⟨c,_,rfl⟩:=mem_map.mp hv;exact and_eq_true_iff.mpr ⟨rfl,yb (n:=1) c.2⟩
theorem C6{Q:V→Oj→Prop}(ht:text.length<100)(hg:gaps.length=text.length+1)(hl:letters.length<100)(q:Q (.lst (az (rH text gaps letters))) O):
 bw (W G3 (n+50)) (.cst (.ref 158)) [.str text,.lst (aC gaps),.str letters] [] b Q O:=by
 have hw:=fun Q q=>C4 (n:=n+8) (k:=O.length) (O:=O) (Q:=Q) ht hg hl (le_refl O.length) (le_refl _) (List.range (text.length+1)) 300 (O++[aT.list []]) [] none none none none none (by rw[length_range];exact lt_of_le_of_lt (succ_le_succ (le_of_lt ht)) (by decide)) (fun x hx=>le_of_lt_succ (mem_range.mp hx)) (by rw[length_range,length_nil];exact lt_of_le_of_lt (add_le_add_left (succ_le_succ (le_of_lt ht)) _) (by decide)) (aU O _) dI q
 refine n0 (lf (len_str (lt_trans (by with_reducible assumption) (by decide))) (lf (bN (a:=text.length+1) rfl (lt_of_le_of_lt (succ_le_succ (le_of_lt ht)) (by decide))) (lf (dD (lt_of_le_of_lt (succ_le_succ (le_of_lt ht)) (by decide))) (vw (hw _ fun O2 fr bs bg lw ft h1 h2=>?_)))))
 have e:az ([]++(List.range (text.length+1)).map (mI text gaps letters))++[uX (false,[text.length+1,text.length+1])]=az (rH text gaps letters):=by rw[az,nil_append,rH,az,map_append];rfl
 have ec:dA O2 .Add (.ref O.length) (.lst [uX (false,[text.length+1,text.length+1])])=some (.lst (az (rH text gaps letters))):=by
  rw[←e]
  exact Dy h1 (by rw[az,length_map,nil_append,length_map,length_range];show text.length+1+1<300;exact lt_of_le_of_lt (succ_le_succ (succ_le_succ (le_of_lt ht))) (by decide))
 exact lf ec (lf (lv (vS (rH text gaps letters))) (vq (Q:=Q) h2 q))
set_option backward.match.sparseCases true
end
section
variable {t:Bool}
noncomputable def sg(c0 c1:Nat)(b:Bool):Nat:=match b with
 |true=>c1
 |false=>c0
noncomputable def cd(c0 c1:Nat)(w:List Bool):List Nat:=w.map (sg c0 c1)
theorem aS(c0 c1:Nat)(w:List Bool):(cd c0 c1 w).length=w.length:=length_map ..
theorem j4(c0 c1:Nat)(w x:List Bool):cd c0 c1 (w++x)=cd c0 c1 w++cd c0 c1 x:=map_append
theorem Fg{c0 c1:Nat}(h:c0≠c1){x y:Bool}(e:sg c0 c1 x=sg c0 c1 y):x=y:=by
 cases x<;>cases y<;>first|rfl|exact absurd e h|exact absurd e.symm h
theorem j3{c0 c1:Nat}(h:c0≠c1):∀{x y:List Bool},cd c0 c1 x=cd c0 c1 y→x=y
 |[],[],_=>rfl
 |[],_::_,e=>nomatch e
 |_::_,[],e=>nomatch e
 |a::x,b::y,e=>by
  obtain⟨e1,e2⟩:=List.cons.inj e
  exact Eq.symm (Fg h e1)▸Eq.symm (j3 h e2)▸rfl
theorem oV{α β:Type}[BEq α][LawfulBEq α]{k:α}:∀{l:List (α×β)},l.lookup k=none→∀p∈l,p.1≠k
 |(y,d)::l,e,p,hp=>by
  rw[lookup_cons]at e
  cases hq:k==y with
  |true=>rw[hq]at e;exact nomatch e
  |false=>
   rw[hq]at e
   rcases mem_cons.mp hp with rfl|hp
   ·exact fun z=>nomatch hq.symm.trans (beq_iff_eq.mpr z.symm)
   ·exact oV e p hp
noncomputable abbrev bJ:=List (List Bool×Bool)
noncomputable def aN(c0 c1:Nat)(A:bJ):List (List Nat×V):=A.map fun p=>(cd c0 c1 p.1,.bool p.2)
theorem nL{c0 c1:Nat}(h:c0≠c1)(w:List Bool):∀A:bJ,getD (aN c0 c1 A) (cd c0 c1 w)=(A.lookup w).map V.bool
 |[]=>rfl
 |p::A=>by
  unfold getD aN
  rw[map_cons,find?_cons,lookup_cons]
  by_cases e:w=p.1
  ·subst e;rw[decide_eq_true rfl,beq_self_eq_true];rfl
  ·rw[decide_eq_false (fun z=>e (j3 h z).symm),(beq_eq_false_iff_ne.mpr e)]
   exact nL h w A
noncomputable def ask(f:List Bool→Bool)(w:List Bool)(A:bJ):Bool×bJ:=match A.lookup w with
 |some t=>(t,A)
 |none=>(f w,A++[(w,f w)])
structure Wd where
 want:List Nat
 st:Nat
 base:Nat
 c0:Nat
 c1:Nat
 p2:List Nat
 p3:List Nat
 mar:List Nat
 al:Nat
noncomputable def Wd.v(D:Wd):V:=wV D.want D.st D.base [D.c0] [D.c1] D.p2 D.p3 D.mar D.al
noncomputable def Wd.pr(D:Wd)(word:List Nat):List Nat:=jJ word ((D.st+word.length)%4) [D.c0] [D.c1] D.p2 D.p3 D.mar D.al
structure HM (want:List Nat):Prop where
 len:want.length<1000
 hin:nF want=true→(2≤(nq want).length∧(nq want).length<300)∧(∀w∈nq want,w.length<1000000)∧(Builtin.Str.partsBetween (S want) (Builtin.Str.occurrences (S want) (S [46,46,46]) 0 want.length (want.length+1)) 3).length≤1000000
structure Je (D:Wd) (word:List Nat) (t:Bool):Prop where
 prep:hV word ((D.st+word.length)%4) [D.c0] [D.c1] D.p2 D.p3 D.mar D.al
 len:(D.pr word).length<1000
 val:jx D.want (D.pr word)=t
structure eZ (D:Wd) (f:List Bool→Bool):Prop where
 ne:D.c0≠D.c1
 el:HM D.want
 ok:∀w:List Bool,w.length<100→Je D (cd D.c0 D.c1 w) (f w)
section
variable {n b r:Nat} {O:Oj} {D:Wd} {f:List Bool→Bool} {A:bJ} {w:List Bool}
theorem GX(h:D.c0≠D.c1)(hr:O[r]? =some (.dS (aN D.c0 D.c1 A))):i5 G3 O .NotIn (.str (cd D.c0 D.c1 w)) (.ref r)=some (!(A.lookup w).isSome):=by
 show(CG G3 O (.str (cd D.c0 D.c1 w)) (.ref r)).map (!·)=_
 unfold CG dN
 simp only[hr,nL h]
 cases A.lookup w<;>rfl
theorem vf(h:D.c0≠D.c1)(hr:O[r]? =some (.dS (aN D.c0 D.c1 A)))(hw:A.lookup w=some t):cN O (.ref r) (.str (cd D.c0 D.c1 w))=some (.bool t):=by
 unfold cN dN
 simp only[hr,nL h,hw]
 rfl
theorem Cr(h:D.c0≠D.c1)(hr:O[r]? =some (.dS (aN D.c0 D.c1 A)))(hl:A.length<300)(hc:A.lookup w=none):Cu O b (.ref r) (.str (cd D.c0 D.c1 w)) (.bool t)=some (O.set r (.dS (aN D.c0 D.c1 (A++[(w,t)])))):=by
 have e:Cu O b (.ref r) (.str (cd D.c0 D.c1 w)) (.bool t)=if dC b r (.bool t)then Cd O r (.str (cd D.c0 D.c1 w)) (.bool t)else none:=rfl
 rw[e,if_pos (iD rfl)]
 unfold Cd
 simp only[hr]
 rw[if_pos (aq (by rw[aN,length_map];exact hl))]
 have h2:¬((aN D.c0 D.c1 A).any fun e=>decide (e.1=cd D.c0 D.c1 w))=true:=fun z=>by
  obtain⟨e,he,h3⟩:=List.any_eq_true.mp z
  obtain⟨p,hp,rfl⟩:=mem_map.mp he
  exact oV hc p hp (j3 h (of_decide_eq_true h3))
 rw[x5,if_neg h2,aN,aN,map_append];rfl
theorem jZ{Q:V→Oj→Prop}(H:eZ D f)(hr:O[r]? =some (.dS (aN D.c0 D.c1 A)))(hl:A.length<300)(hw:w.length<100)(q:Q (.bool (ask f w A).1) (O.set r (.dS (aN D.c0 D.c1 (ask f w A).2)))):
 bw (W G3 (n+60)) (.cst (.ref 148)) [.str (cd D.c0 D.c1 w),D.v,.ref r] [] b Q O:=by
 unfold ask at q
 refine n0 (lf (GX (w:=w) H.ne hr) (sl (fun h=>?_) fun h=>?_))
 ·have hL:A.lookup w=none:=Option.not_isSome_iff_eq_none.mp (by rw[eO h];decide)
  rw[hL]at q
  have hlen:(cd D.c0 D.c1 w).length<1000000:=by rw[aS];exact lt_trans hw (by decide)
  have K:=H.ok w hw
  rw[←K.val]at q
  have hx:(O.set r (.dS (aN D.c0 D.c1 (A++[(w,jx D.want (D.pr (cd D.c0 D.c1 w)))]))))[r]? =some (.dS (aN D.c0 D.c1 (A++[(w,jx D.want (D.pr (cd D.c0 D.c1 w)))]))):=dL hr
  have hy:(A++[(w,jx D.want (D.pr (cd D.c0 D.c1 w)))]).lookup w=some (jx D.want (D.pr (cd D.c0 D.c1 w))):=by
   rw[List.lookup_append,hL,List.lookup_cons_self];rfl
  refine lf (len_str hlen) (show bw (W G3 (n+43+12)) (.cst (.ref 141)) [.str (cd D.c0 D.c1 w),.int (((D.st+(cd D.c0 D.c1 w).length)%4:Nat):Int),D.v] [] _ _ _ from wF K.prep (Dt H.el.len K.len H.el.hin (lf (Cr H.ne hr hl hL) (xn ?_))))
  exact lf (vf H.ne hx hy) (Hf (Q:=Q) q)
 ·obtain⟨t,hL⟩:=isSome_iff_exists.mp (eH h)
  have q:=(hL)▸q
  refine xn ?_
  exact lf (vf H.ne hr hL) (tk (Q:=Q) (bV hr▸q))
end
end
section
variable {O O1:Oj} {v x tb:V} {l:List V} {T:fF} {i:Int} {p:Bool×List Nat} {k b n c0 c1:Nat}
theorem gU{α β:Type}{o:Option α}{f:α→Option β}{r:β}(h:o.bind f=some r):∃v,o=some v∧f v=some r:=by
 cases o with
 |none=>exact nomatch h
 |some v=>exact⟨v,rfl,h⟩
theorem wk{α β:Type}{o:Option α}{f:α→β}{r:β}(h:o.map f=some r):∃v,o=some v∧f v=r:=by
 cases o with
 |none=>exact nomatch h
 |some v=>exact⟨v,rfl,Option.some.inj h⟩
noncomputable abbrev fF:=List (Bool×List Nat)
noncomputable def i8(O:Oj)(v:V)(T:fF):Prop:=∃l:List V,iO O v=some l∧l.length=T.length∧∀(i:Nat) (p:Bool×List Nat),T[i]? =some p→∃x,l[i]? =some x∧iO O x=some (.bool p.1::aC p.2)
theorem oh(h:iO O v=some l)(ht:O1.take O.length=O):iO O1 v=some l:=by
 cases v with
 |lst l'=>exact h
 |ref n=>exact aM (GM (aL h) ht)
 |_=>exact nN h
theorem i8.low(h:i8 O v T)(ht:O1.take O.length=O):i8 O1 v T:=by
 obtain⟨l,h1,h2,h3⟩:=h
 exact⟨l,oh h1 ht,h2,fun i p hp=>(by obtain⟨x,hx,hl⟩:=h3 i p hp;exact⟨x,hx,oh hl ht⟩)⟩
theorem i8.lst(O:Oj)(T:fF):i8 O (.lst (az T)) T:=⟨az T,rfl,length_map ..,fun i p hp=>⟨uX p,by rw[az,getElem?_map,hp];rfl,rfl⟩⟩
theorem i8.row{i:Nat}(h:i8 O v T)(hl:T.length<300)(hp:T[i]? =some p):∃x,cN O v (.int (i:Nat))=some x∧iO O x=some (.bool p.1::aC p.2):=by
 refine hG fun _ kk=>?_
 obtain⟨l,h1,h2,h3⟩:=h
 obtain⟨x,hx,hr⟩:=h3 i p hp
 refine kk ?_
 exact⟨x,ay h1 (h2▸hl) hx,hr⟩
theorem qJ(e:i=(k:Nat))(h:iO O v=some l)(hs:l.length<300)(hk:l[k]? =some x):cN O v (.int i)=some x:=e▸ay h hs hk
noncomputable def b1(b:Bool):Nat:=match b with
 |true=>1
 |false=>0
theorem il{b:Bool}(e:i=((1+b1 b:Nat):Int))(h:iO O x=some (.bool p.1::aC p.2))(hl:p.2.length<290)(hk:p.2[b1 b]? =some k):cN O x (.int i)=some (.int (k:Nat)):=
 qJ e h (by rw[length_cons,aJ];exact lt_trans (succ_lt_succ hl) (by decide)) (by rw[add_comm 1,List.getElem?_cons_succ,aC,getElem?_map,hk];rfl)
noncomputable def CD(T:fF):List Bool→Nat→Option (List Nat)
 |[],_=>some []
 |b::w,s=>(T[s]?).bind fun p=>(p.2[b1 b]?).bind fun t=>(CD T w t).map (t:: ·)
noncomputable def Li:af:=(cV (dB 22)).names
noncomputable def Ku:Stmt:=aX (bF (dB 22)) 1
noncomputable def Lh(w tb le:V)(tr:Nat)(l:Option V):fP:=[(u "word",some w),(u "table",some tb),(u "letters",some le),(u "trail",some (.ref tr)),(u "letter",l)]
theorem yN{r p:Nat}{l:List Nat}(h:lA O r=some (aC (l++[p])))(hl:l.length<290):cN O (.ref r) (.int (-1))=some (.int (p:Nat)):=by
 refine(jS (v:=.ref r) h).trans ?_
 refine bs (f:=fun l=>uE l (-1)) h ?_
 rw[uE,if_pos (by rfl),jP (by rw[aJ,length_append];exact succ_pos _)]
 show(aC (l++[p]))[_]? =_
 rw[aJ,length_append,aC,getElem?_map,List.length_singleton,Nat.add_sub_cancel,getElem?_append_right (le_refl _),sub_self];rfl
theorem DT{tr:Nat}{wv:V}{Q:Fl→List Fr→Oj→Prop}(hf:∀b,cH [c0,c1] [sg c0 c1 b] 0 2=(b1 b:Nat))(hT:i8 O tb T)(hTl:T.length<290)(hr:∀p∈T,p.2.length<290)(hk:O.length≤k)(hkt:k≤tr)(hb:b≤tr)(ws:List Bool):∀(f:Nat) (O1:Oj) (tl:List Nat) (s:Nat) (r:List Nat) (l:Option V),CD T ws s=some r→ws.length<f→tl.length+ws.length<280→O1.take O.length=O→lA O1 tr=some (aC (tl++[s]))→
 (∀O2 l,lA O2 tr=some (aC (tl++(s::r)))→O2.take k=O1.take k→Q .next [⟨Li,Lh wv tb (.str [c0,c1]) tr l,false,0,none⟩] O2)→
 fY (W G3 (n+24)) (xC Ku) (fm Ku) (xD Ku) b Q f (.items ((cd c0 c1 ws).map fun c=>.str [c])) [⟨Li,Lh wv tb (.str [c0,c1]) tr l,false,0,none⟩] O1:=by
 induction ws with
 |nil=>
  intro f O1 tl s r l h hf' hs ht hl q
  cases f with
  |zero=>exact absurd hf' (not_lt_zero _)
  |succ f=>obtain rfl:=sI h;exact q O1 l hl rfl
 |cons c ws ih=>
  intro f O1 tl s r l h hf' hs ht hl q
  replace hs:tl.length+(ws.length+1)<280:=hs
  have hs1:tl.length<280:=lt_of_le_of_lt (le_add_right _ _) hs
  cases f with
  |zero=>exact absurd hf' (not_lt_zero _)
  |succ f=>
   refine hG fun _ kk=>?_
   obtain⟨p,hp,h⟩:=gU h
   obtain⟨t,htt,h⟩:=gU h
   obtain⟨r',h',h⟩:=wk h
   subst h
   obtain⟨x,hx,hrow⟩:=(hT.low ht).row (lt_trans hTl (by decide)) hp
   refine kk ?_
   have hln:(aC (tl++[s])).length<300:=by rw[aJ,length_append];exact lt_trans (succ_lt_succ hs1) (by decide)
   refine lf (dX hl rfl) (lf (yN hl (lt_trans hs1 (by decide))) (lf hx (lf (il (b:=c) (show(1:Int)+cH [c0,c1] [sg c0 c1 c] 0 2=_ from congrArg (1+ ·) (hf c)) hrow (hr p (mem_of_getElem? hp)) htt) (lf (bP hl hln (jq hb)) ?_))))
   refine ih f _ (tl++[s]) t r' _ h' (lt_of_succ_lt_succ hf') (by rw[length_append];show tl.length+1+ws.length<280;exact lt_of_le_of_lt (le_of_eq (succ_add _ _)) hs) (bU ht (le_trans hk hkt)) (cn (tl++[s]) [t]▸ac hl) fun O2 l h1 h2=>q O2 l (by rw[append_assoc]at h1;exact h1) (h2.trans (bU rfl hkt))
theorem mV{w:List Bool}{r:List Nat}{Q:V→Oj→Prop}(hf:∀b,cH [c0,c1] [sg c0 c1 b] 0 2=(b1 b:Nat))(hT:i8 O tb T)(hTl:T.length<290)(hr:∀p∈T,p.2.length<290)(hw:w.length<200)(h:CD T w 0=some r)(q:Q (.lst (aC (0::r))) O):
 bw (W G3 (n+30)) (.cst (.ref 165)) [.str (cd c0 c1 w),tb,.str [c0,c1]] [] b Q O:=by
 have hw:=fun Q q=>DT (n:=n+4) (b:=O.length) (Q:=Q) (wv:=.str (cd c0 c1 w)) (k:=O.length) hf hT hTl hr (le_refl _) (le_refl _) (le_refl _) w 300 (O++[aT.list [V.int 0]]) [] 0 r none h (lt_trans hw (by decide)) (by rw[length_nil,zero_add];exact lt_trans hw (by decide)) dI (aU O _) q
 refine n0 (vw (hw _ fun O2 l h1 h2=>?_))
 have e:O2.take O.length=O:=h2.trans dI
 have e2:leave O.length (.ref O.length) O2=some (.lst (aC (0::r))):=by
  show cB O2 O.length 4 (.ref O.length)=_
  show(if O.length<O.length then _ else(lA O2 O.length).bind _)=_
  rw[if_neg (Nat.lt_irrefl _),show lA O2 O.length=some (aC (0::r))from h1]
  show map V.lst ((aC (0::r)).mapM (cB O2 O.length 3))=_
  rw[fU fun v hv=>by obtain⟨c,_,rfl⟩:=mem_map.mp hv;rfl];rfl
 exact lf e2 (vq (Q:=Q) e q)
end
section
variable {B x r:Nat} {bk:ae} {v:V} {l:List V} {X:Oj}
noncomputable def di(f:List Bool→Bool)(h:List Bool):List (List Bool)→Nat→bJ→List Nat×bJ
 |[],_,A=>([],A)
 |e::es,k,A=>(if(ask f (h++e) A).1 then k::(di f h es (k+1) (ask f (h++e) A).2).1 else(di f h es (k+1) (ask f (h++e) A).2).1,(di f h es (k+1) (ask f (h++e) A).2).2)
noncomputable def jo(ks:List Nat):Nat:=(ks.map fun k=>2^k).sum
noncomputable abbrev ae:=List (Nat×Nat)
noncomputable def uc(ks:List Nat)(x:Nat):Nat→Nat→Nat→Nat
 |0,lo,_=>lo
 |n+1,lo,hi=>if lo<hi then(if ks.getD ((lo+hi)/2) 0<x then uc ks x n ((lo+hi)/2+1) hi else uc ks x n lo ((lo+hi)/2))else lo
noncomputable def x7(ks:List Nat)(x:Nat):Nat→Nat→Nat→Nat
 |0,lo,_=>lo
 |n+1,lo,hi=>if lo<hi then(if x<ks.getD ((lo+hi)/2) 0 then x7 ks x n lo ((lo+hi)/2)else x7 ks x n ((lo+hi)/2+1) hi)else lo
noncomputable def kb(B:Nat)(p:Nat×Nat):Nat:=p.1*B
noncomputable def vb(p:Nat×Nat):V:=.int (p.2:Nat)
noncomputable def aQ(B:Nat)(bk:ae):List V:=bz (kb B) vb bk
theorem u0(B:Nat)(bk:ae)(i:Nat):(cA (kb B) bk).getD i 0=(((bk.map (·.1)).getD i 0*B:Nat):Int):=by
 rw[cA,getD_eq_getElem?_getD,getElem?_map,getD_eq_getElem?_getD,getElem?_map]
 cases bk[i]? with
 |none=>exact(congrArg Int.ofNat (Nat.zero_mul B)).symm
 |some p=>rfl
theorem gq{y:Nat}(h:0<B):((x*B:Nat):Int)<((y*B:Nat):Int)↔x<y:=ofNat_lt.trans ⟨Nat.lt_of_mul_lt_mul_right,fun z=>Nat.mul_lt_mul_of_pos_right z h⟩
theorem nK(h:0<B)(n:Nat):∀lo hi:Nat,o7 (cA (kb B) bk) ((x*B:Nat):Int) n lo hi=uc (bk.map (·.1)) x n lo hi:=by
 induction n with
 |zero=>exact fun _ _=>rfl
 |succ n ih=>
  intro lo hi
  show(if lo<hi then(if(cA (kb B) bk).getD ((lo+hi)/2) 0<((x*B:Nat):Int)then _ else _)else lo)=if lo<hi then(if(bk.map (·.1)).getD ((lo+hi)/2) 0<x then _ else _)else lo
  rw[u0,ih,ih]
  by_cases l:lo<hi
  ·rw[if_pos l,if_pos l]
   by_cases c:(bk.map (·.1)).getD ((lo+hi)/2) 0<x
   ·rw[if_pos c,if_pos ((gq h).mpr c)]
   ·rw[if_neg c,if_neg fun z=>c ((gq h).mp z)]
  ·rw[if_neg l,if_neg l]
theorem tQ(h:0<B)(n:Nat):∀lo hi:Nat,yo (cA (kb B) bk) ((x*B:Nat):Int) n lo hi=x7 (bk.map (·.1)) x n lo hi:=by
 induction n with
 |zero=>exact fun _ _=>rfl
 |succ n ih=>
  intro lo hi
  show(if lo<hi then(if((x*B:Nat):Int)<(cA (kb B) bk).getD ((lo+hi)/2) 0 then _ else _)else lo)=if lo<hi then(if x<(bk.map (·.1)).getD ((lo+hi)/2) 0 then _ else _)else lo
  rw[u0,ih,ih]
  by_cases l:lo<hi
  ·rw[if_pos l,if_pos l]
   by_cases c:x<(bk.map (·.1)).getD ((lo+hi)/2) 0
   ·rw[if_pos c,if_pos ((gq h).mpr c)]
   ·rw[if_neg c,if_neg fun z=>c ((gq h).mp z)]
  ·rw[if_neg l,if_neg l]
noncomputable def vE(bk:ae)(i:Nat)(p:Nat×Nat):ae:=bk.take i++p::bk.drop i
noncomputable def kX(bk:ae)(x:Nat):Nat:=uc (bk.map (·.1)) x bk.length 0 bk.length
noncomputable def Jt(bk:ae)(x:Nat):Nat:=x7 (bk.map (·.1)) x bk.length 0 bk.length
noncomputable def uZ(place turn:Nat)(bk:ae)(x:Nat)(A:bJ):Option (Nat×ae×bJ):=
 if(bk[kX bk x]?).map (·.1)=some x then(bk[kX bk x]?).map fun p=>(p.2,bk,A)
 else if(bk.map (·.1)).contains x then none
 else((vE bk (if turn%2=1 then Jt bk x else kX bk x) (x,place))[kX bk x]?).map fun p=>(p.2,vE bk (if turn%2=1 then Jt bk x else kX bk x) (x,place),A)
noncomputable def put(f:List Bool→Bool)(place turn:Nat)(h:List Bool)(ends:List (List Bool))(bk:ae)(A:bJ):Option (Nat×ae×bJ):=
 uZ place turn bk (jo (di f h ends 0 A).1) (di f h ends 0 A).2
noncomputable def ME:af:=(cV (dB 20)).names
noncomputable def MD(bk pl tu hd en wo as:V)(nu at_:Option V):fP:=[(u "book",some bk),(u "place",some pl),(u "turn",some tu),(u "head",some hd),(u "ends",some en),(u "world",some wo),(u "asked",some as),(u "number",nu),(u "at",at_)]
noncomputable def ze(bk pl tu hd en wo as:V)(nu at_:Option V):List Fr:=[⟨ME,MD bk pl tu hd en wo as nu at_,false,0,none⟩]
theorem ub{O:Oj}{i:Int}{k:Nat}(e:i=(k:Nat))(h:k<600):dA O .Pow (.int 2) (.int i)=some (.int ((2^k:Nat):Int)):=e▸f7 (d:=2) rfl h
theorem mZ{O:Oj}{d d':List (List Nat×V)}(h:iO O v=some l)(hr:O[r]? =some (.dS d)):iO (O.set r (.dS d')) v=some l:=by
 cases v with
 |lst l'=>exact h
 |ref n=>
  by_cases e:r=n
  ·subst e;exact nomatch hr.symm.trans (aL h)
  ·exact aM (ab (aL h) e)
 |_=>exact nN h
theorem yT{O:Oj}(h:iO O v=some l):iO (O++X) v=some l:=by
 cases v with
 |lst l'=>exact h
 |ref n=>exact eQ h
 |_=>exact nN h
theorem v6{O:Oj}{o o':aT}(h:O[r]? =some o):(O++X).set r o'=O.set r o'++X:=List.set_append_left _ _ (List.getElem?_eq_some_iff.mp h).1
theorem qw{f:List Bool→Bool}{h:List Bool}:∀(es:List (List Bool)) (k:Nat) (A:bJ),(di f h es k A).1.length≤es.length∧(di f h es k A).2.length≤A.length+es.length
 |[],_,A=>⟨le_refl _,le_refl _⟩
 |e::es,k,A=>by
  have h1:(ask f (h++e) A).2.length≤A.length+1:=by
   unfold ask
   cases A.lookup (h++e)with
   |some t=>exact le_succ _
   |none=>exact le_of_eq length_append
  obtain⟨i1,i2⟩:=qw (f:=f) (h:=h) es (k+1) (ask f (h++e) A).2
  refine⟨?_,le_trans i2 ?_⟩
  ·show(if(ask f (h++e) A).1 then _ else _:List Nat).length≤_
   split
   ·exact succ_le_succ i1
   ·exact le_trans i1 (le_succ _)
  ·rw[length_cons,add_comm es.length 1, ←add_assoc];exact add_le_add_right h1 _
section
variable {n b br ra base:Nat} {O:Oj} {D:Wd} {f:List Bool→Bool} {A:bJ} {h:List Bool} {ends:List (List Bool)} {ev:V}
noncomputable def Jj:Expr:=match aX (bF (dB 20)) 0 with
 |.Assign _ e _=>(match e with
  |.Call _ args _ _=>args.getD 0 default
  |_=>default)
 |_=>default
set_option backward.match.sparseCases false
noncomputable def Eg:Expr→Expr
 |.ListComp e _ _ _=>e
 |_=>default
noncomputable def Jo(e:Expr)(i:Nat):Comprehension:=match e with
 |.ListComp _ gs _ _=>gs.getD i ⟨default,default,[],0⟩
 |_=>⟨default,default,[],0⟩
noncomputable def Lj:Expr→Scope
 |.ListComp _ _ s _=>s
 |_=>default
set_option backward.match.sparseCases true
theorem GF{Q:Oj→Prop}{bk pl tu:V}(H:eZ D f)(hh:h.length<40)(hel:∀e∈ends,e.length<40)(hbase:D.base<200)(hend:ends.length<100)(es:List (List Bool)):∀(k fu:Nat) (aK:List Nat) (A:bJ) (t:Option Nat) (O:Oj),ends.drop k=es→es.length<fu→A.length+es.length<290→aK.length+es.length<290→iO O ev=some (aF (ends.map (cd D.c0 D.c1)))→O[ra]? =some (.dS (aN D.c0 D.c1 A))→
 Q (O.set ra (.dS (aN D.c0 D.c1 (di f h es k A).2))++[.list (aC (aK++(di f h es k A).1.map fun k=>2^(D.base+k)))])→
 iX (W G3 (n+90)) (Jo Jj 0).target (Jo Jj 0).ifs (Eg Jj) O.length (fun _=>Q) fu (.items (kg (range' k es.length))) (zE (Lj Jj).names (ze bk pl tu (.str (cd D.c0 D.c1 h)) ev D.v (.ref ra) none none) "k" t) (O++[.list (aC aK)]):=by
 induction es with
 |nil=>
  intro k fu aK A t O hd hf hA hacc he hr q
  cases fu with
  |zero=>exact absurd hf (not_lt_zero _)
  |succ fu=>
   have e:=bV hr
   replace q:Q (O.set ra (.dS (aN D.c0 D.c1 A))++[.list (aC (aK++[]))]):=q
   rw[e,append_nil]at q
   exact q
 |cons e es ih=>
  intro k fu aK A t O hd hf hA hacc he hr q
  replace hA:A.length+(es.length+1)<290:=hA
  replace hacc:aK.length+(es.length+1)<290:=hacc
  cases fu with
  |zero=>exact absurd hf (not_lt_zero _)
  |succ fu=>
   have hk:ends[k]? =some e:=by rw[←List.head?_drop,hd];rfl
   have hd':ends.drop (k+1)=es:=by rw[←List.tail_drop,hd];rfl
   have hkl:=(List.getElem?_eq_some_iff.mp hk).1
   have hel':=hel e (mem_of_getElem? hk)
   have hw:(h++e).length<100:=by rw[length_append];exact lt_trans (add_lt_add hh hel') (by decide)
   refine lf (ay (k:=k) (x:=.str (cd D.c0 D.c1 e)) (yT he) (eo (by rw[length_map];exact lt_trans hend (by decide))) (by rw[aF,getElem?_map,getElem?_map,hk];rfl)) ?_
   refine lf (dP (by rw[aS,aS];exact lt_trans (add_lt_add hh hel') (by decide))) ?_
   rw[←j4]
   have hl:A.length<300:=lt_of_le_of_lt (le_add_right _ _) (lt_trans hA (by decide))
   have hacc1:(aC aK).length<300:=by rw[aJ];exact lt_of_le_of_lt (le_add_right _ _) (lt_trans hacc (by decide))
   refine jZ (D:=D) (f:=f) (A:=A) (w:=h++e) H (eX hr) hl hw ?_
   refine Eq.symm (v6 hr)▸?_
   have hr2:(O.set ra (.dS (aN D.c0 D.c1 (ask f (h++e) A).2)))[ra]? =some (.dS (aN D.c0 D.c1 (ask f (h++e) A).2)):=dL hr
   have hA2:(ask f (h++e) A).2.length+es.length<290:=by
    have h1:(ask f (h++e) A).2.length≤A.length+1:=by
     unfold ask
     cases A.lookup (h++e)with
     |some t=>exact le_succ _
     |none=>exact le_of_eq length_append
    exact lt_of_le_of_lt (add_le_add_right h1 _) (by rw[add_right_comm];exact hA)
   have ls:(O.set ra (.dS (aN D.c0 D.c1 (ask f (h++e) A).2))).length=O.length:=length_set
   replace q:Q (O.set ra (.dS (aN D.c0 D.c1 (di f h es (k+1) (ask f (h++e) A).2).2))++[.list (aC (aK++(if(ask f (h++e) A).1 then k::(di f h es (k+1) (ask f (h++e) A).2).1 else(di f h es (k+1) (ask f (h++e) A).2).1).map fun k=>2^(D.base+k)))]):=q
   rw[←set_set (l:=O) (.dS (aN D.c0 D.c1 (ask f (h++e) A).2))]at q
   refine sl (t:=(ask f (h++e) A).1) (fun ht=>?_) fun ht=>?_
   ·rw[if_pos ht,map_cons]at q
    refine lf (ub (k:=D.base+k) rfl (lt_trans (add_lt_add hbase (lt_trans hkl hend)) (by decide))) ?_
    refine lf (ls▸jI hacc1) ?_
    have:=ih (k+1) fu (aK++[2^(D.base+k)]) (ask f (h++e) A).2 (some k) _ hd' (lt_of_succ_lt_succ hf) hA2 (by rw[length_append];show aK.length+1+es.length<290;rw[add_right_comm];exact hacc) (mZ he hr) hr2 (by rw[append_assoc];exact q)
    rw[ls,cn]at this
    exact this
   ·rw[if_neg (by rw[ht];decide)]at q
    have:=ih (k+1) fu aK (ask f (h++e) A).2 (some k) _ hd' (lt_of_succ_lt_succ hf) hA2 (lt_of_succ_lt hacc) (mZ he hr) hr2 q
    rw[ls]at this
    exact this
end
end
section
variable {Q:Fl→List Fr→Oj→Prop} {x B i:Nat} {p:Nat×Nat}
theorem pg{O:Oj}{m:Nat}{l:List V}{Q:V→Oj→Prop}(hm:O.length=m)(hp:d0 l=true)(q:Q (.lst l) O):kN m Q (O++[.list l]):=by
 subst hm
 refine Lf.of (aU O _) ?_
 rw[hp]
 show Q _ ((O++[aT.list _]).take O.length)
 rw[take_left]
 exact q
theorem fS(base:Nat):∀ks:List Nat,(ks.map fun k=>2^(base+k)).sum=jo ks*2^base
 |[]=>(Nat.zero_mul _).symm
 |k::ks=>by
  have e:jo (k::ks)=2^k+jo ks:=by rw[jo,map_cons,sum_cons];rfl
  rw[map_cons,sum_cons,fS base ks,e,Nat.add_mul,Nat.pow_add,Nat.mul_comm]
structure B9 (D:Wd) (f:List Bool→Bool) (O:Oj) (ra br:Nat) (ev:V) (h:List Bool) (ends:List (List Bool)) (bk:ae) (A:bJ):Prop where
 asks:eZ D f
 hh:h.length<40
 hel:∀e∈ends,e.length<40
 hbase:D.base<200
 hend:ends.length<100
 hA:A.length+ends.length<290
 hk:bk.length<280
 ev:iO O ev=some (aF (ends.map (cd D.c0 D.c1)))
 ra:O[ra]? =some (.dS (aN D.c0 D.c1 A))
 br:lA O br=some (aQ (2^D.base) bk)
 x:jo (di f h ends 0 A).1*2^D.base<2^62
section
variable {n b br ra:Nat} {O:Oj} {D:Wd} {f:List Bool→Bool} {A:bJ} {h:List Bool} {ends:List (List Bool)} {ev pl tu:V} {bk:ae}
theorem Hq(P:B9 D f O ra br ev h ends bk A)(q:Q .next (ze (.ref br) pl tu (.str (cd D.c0 D.c1 h)) ev D.v (.ref ra) (some (.int ((jo (di f h ends 0 A).1*2^D.base:Nat):Int))) none) (O.set ra (.dS (aN D.c0 D.c1 (di f h ends 0 A).2)))):
 (W G3 (n+98)).s (aX (bF (dB 20)) 0) (ze (.ref br) pl tu (.str (cd D.c0 D.c1 h)) ev D.v (.ref ra) none none) b Q O:=by
 have hl:(aF (ends.map (cd D.c0 D.c1))).length=ends.length:=by rw[aF,length_map,length_map]
 have hlt:=lt_trans P.hend (show 100<300 by decide)
 have hlt':=lt_trans P.hend (show 100<1000000 by decide)
 refine lf (ai P.ev (hl▸hlt)) ?_
 rw[hl]
 refine lf (bN rfl hlt') (lf (dD hlt') ?_)
 rw[List.range_eq_range']
 refine⟨GF P.asks P.hh P.hel P.hbase P.hend ends 0 300 [] A none O drop_zero hlt P.hA (by rw[length_nil,zero_add];exact lt_trans P.hend (by decide)) P.ev P.ra ?_⟩
 rw[nil_append]
 refine pg length_set (bx _) ?_
 have hs:((di f h ends 0 A).1.map fun k=>2^(D.base+k)).sum<2^62:=by rw[fS];exact P.x
 refine lf (vy rfl (by rw[length_map];exact lt_of_le_of_lt (qw ends 0 A).1 hlt) hs) ?_
 rw[fS]
 exact q
theorem Hp(hb:lA O br=some (aQ (2^D.base) bk))(hk:bk.length<280)(q:Q .next (ze (.ref br) pl tu (.str (cd D.c0 D.c1 h)) ev D.v (.ref ra) (some (.int ((x*2^D.base:Nat):Int))) (some (.int (kX bk x:Nat)))) O):
 (W G3 (n+98)).s (aX (bF (dB 20)) 1) (ze (.ref br) pl tu (.str (cd D.c0 D.c1 h)) ev D.v (.ref ra) (some (.int ((x*2^D.base:Nat):Int))) none) b Q O:=by
 refine D0 (f:=kb (2^D.base)) (g:=vb) hb (lt_trans hk (by decide)) ?_
 rw[nK (pow_pos (by decide))]
 exact q
theorem Bk{p:Nat}:(aQ B bk).take i++V.tup [.int ((x*B:Nat):Int),.int (p:Nat)]::(aQ B bk).drop i=aQ B (vE bk i (x,p)):=jj (f:=kb B) (g:=vb) bk i (x,p)
theorem zd{place turn:Nat}{at_:Option V}(hb:lA O br=some (aQ (2^D.base) bk))(hk:bk.length<280)(hx:(bk.map (·.1)).contains x=false)
 (q:Q .next (ze (.ref br) (.int place) (.int turn) (.str (cd D.c0 D.c1 h)) ev D.v (.ref ra) (some (.int ((x*2^D.base:Nat):Int))) at_) (O.set br (.list (aQ (2^D.base) (vE bk (if turn%2=1 then Jt bk x else kX bk x) (x,place)))))):
 xs (W G3 (n+97)) (IQ (aX (bF (dB 20)) 2)) (ze (.ref br) (.int place) (.int turn) (.str (cd D.c0 D.c1 h)) ev D.v (.ref ra) (some (.int ((x*2^D.base:Nat):Int))) at_) b Q O:=by
 have hB:0<2^D.base:=pow_pos (by decide)
 have hk3:=lt_trans hk (show 280<300 by decide)
 refine sd (p:=((turn:Int)%2≠0)) (fun ht=>?_) fun ht=>?_
 ·rw[if_pos (zs ht)]at q
  refine si (f:=kb (2^D.base)) (g:=vb) (x:=(x,place)) hb hk3 rfl ?_
  rw[show((kb (2^D.base) (x,place):Nat):Int)=((x*2^D.base:Nat):Int)from rfl,tQ hB]
  exact q
 ·rw[if_neg (xG ht)]at q
  refine yW (ks:=cA (kb (2^D.base)) bk) (y:=((x*2^D.base:Nat):Int)) (fun i v hi=>?_) hb (by rw[aQ,bW];exact hk3) rfl ?_
  ·rw[aQ,bz,getElem?_map]at hi
   rw[u0]
   cases hp:bk[i]? with
   |none=>rw[hp]at hi;exact nomatch hi
   |some p=>
    rw[hp]at hi
    obtain rfl:=sI hi
    have e:(bk.map (·.1)).getD i 0=p.1:=by rw[getD_eq_getElem?_getD,getElem?_map,hp];rfl
    rw[e]
    have hne:((p.1*2^D.base:Nat):Int)≠((x*2^D.base:Nat):Int):=fun z=>by
     have e1:=Nat.eq_of_mul_eq_mul_right hB (Int.ofNat.inj z)
     have:(bk.map (·.1)).contains x=true:=contains_iff_mem.mpr (mem_map.mpr ⟨p,mem_of_getElem? hp,e1⟩)
     exact nomatch hx.symm.trans this
    show((some (decide (((p.1*2^D.base:Nat):Int)≠((x*2^D.base:Nat):Int)))).bind fun t=>if t then some (decide (((p.1*2^D.base:Nat):Int)<((x*2^D.base:Nat):Int)))else none)=_
    rw[decide_eq_true hne];rfl
  ·rw[aQ,bW,nK hB]
   have:=Bk (bk:=bk) (B:=2^D.base) (i:=kX bk x) (x:=x) (p:=place)
   rw[aQ]at this
   rw[show uc (bk.map (·.1)) x bk.length 0 bk.length=kX bk x from rfl,this]
   exact q
theorem zi(ks:List Nat)(x:Nat)(n:Nat):∀(lo hi:Nat),lo≤hi→uc ks x n lo hi≤hi:=by
 induction n with
 |zero=>exact fun _ _ h=>h
 |succ n ih=>
  intro lo hi h
  show(if lo<hi then(if ks.getD ((lo+hi)/2) 0<x then _ else _)else lo)≤hi
  by_cases l:lo<hi
  ·rw[if_pos l]
   split
   ·exact ih _ _ (Ai l)
   ·exact le_trans (ih _ _ (HU l)) (le_of_lt (Ai l))
  ·rw[if_neg l];exact h
theorem Gw(bk:ae)(x:Nat):kX bk x≤bk.length:=zi _ _ _ _ _ (zero_le _)
theorem xP{v:V}(hb:iO O v=some (aQ B bk))(hk:bk.length<290)(hp:bk[i]? =some p):cN O v (.int (i:Nat))=some (.tup [.int ((p.1*B:Nat):Int),.int (p.2:Nat)]):=
 ay hb (by rw[aQ,bW];exact lt_trans hk (by decide)) (by rw[aQ,bz,getElem?_map,hp];rfl)
theorem Hn{k:Nat}{bk':ae}{nu:Option V}{Q:V→Oj→Prop}(hb:lA O br=some (aQ (2^D.base) bk'))(hk:bk'.length<290)(hp:bk'[i]? =some p)(hT:O.take k=O)(q:Q (.int (p.2:Nat)) O):
 xs (W G3 (n+98)) ((bF (dB 20)).drop 3) (ze (.ref br) pl tu (.str (cd D.c0 D.c1 h)) ev D.v (.ref ra) nu (some (.int (i:Nat)))) b (Jv k Q) O:=by
 refine lf (xP (v:=.ref br) hb hk hp) ?_
 show Q _ (O.take k)
 rw[hT]
 exact q
end
end
section
variable {place turn p:Nat} {bk':ae} {A':bJ}
section
variable {n b br ra:Nat} {O:Oj} {D:Wd} {f:List Bool→Bool} {A:bJ} {h:List Bool} {ends:List (List Bool)} {ev pl tu:V} {bk:ae}
theorem Ho{x:Nat}{Q:Fl→List Fr→Oj→Prop}(hb:lA O br=some (aQ (2^D.base) bk))(hk:bk.length<280)(hp:uZ place turn bk x A=some (p,bk',A'))
 (q:∀y,bk'[kX bk x]? =some (y,p)→bk'.length≤bk.length+1→Q .next (ze (.ref br) (.int place) (.int turn) (.str (cd D.c0 D.c1 h)) ev D.v (.ref ra) (some (.int ((x*2^D.base:Nat):Int))) (some (.int (kX bk x:Nat)))) (O.set br (.list (aQ (2^D.base) bk')))):
 (W G3 (n+98)).s (aX (bF (dB 20)) 2) (ze (.ref br) (.int place) (.int turn) (.str (cd D.c0 D.c1 h)) ev D.v (.ref ra) (some (.int ((x*2^D.base:Nat):Int))) (some (.int (kX bk x:Nat)))) b Q O:=by
 have hB:0<2^D.base:=pow_pos (by decide)
 have hbl:(aQ (2^D.base) bk).length<300:=by rw[aQ,bW];exact lt_trans hk (by decide)
 have hlen:((aQ (2^D.base) bk).length:Int)=(bk.length:Int):=by rw[aQ,bW]
 unfold uZ at hp
 refine lf (ai (v:=.ref br) hb hbl) ?_
 rw[hlen]
 refine sl (t:= !decide ((kX bk x:Int)=(bk.length:Int))) (fun hc=>?_) fun hc=>?_
 ·have hne:kX bk x≠bk.length:=fun z=>of_decide_eq_false ((not_eq_true' _).mp hc) (congrArg Int.ofNat z)
  have hlt:kX bk x<bk.length:=Nat.lt_of_le_of_ne (Gw bk x) hne
  have hg:=getElem?_eq_getElem hlt
  generalize bk[kX bk x]=pr at hg
  refine lf (xP (v:=.ref br) hb (lt_trans hk (by decide)) hg) ?_
  refine sl (t:= !!decide (((pr.1*2^D.base:Nat):Int)=((x*2^D.base:Nat):Int))) (fun hd=>?_) fun hd=>?_
  ·have hx:(bk[kX bk x]?).map (·.1)=some x:=by rw[hg];exact congrArg some (Nat.eq_of_mul_eq_mul_right hB (Int.ofNat.inj (of_decide_eq_true ((Bool.not_not _).symm.trans hd))))
   rw[if_pos hx]at hp
   refine hG fun _ kk=>?_
   obtain⟨pr',hpr,e⟩:=wk hp
   clear hp
   cases e
   refine kk ?_
   have:=q pr'.1 hpr (le_succ _)
   rw[bV (aL hb)]at this
   exact this
  ·have hd:=of_decide_eq_false ((Bool.not_not _).symm.trans hd)
   have hx:¬(bk[kX bk x]?).map (·.1)=some x:=fun z=>hd (by rw[hg]at z;obtain rfl:=sI z;rfl)
   rw[if_neg hx]at hp
   split at hp
   ·exact nomatch hp
   ·rename_i hct
    obtain⟨pr',hpr,e⟩:=wk hp
    clear hp
    cases e
    refine sl (t:= !decide (((pr.1*2^D.base:Nat):Int)=((x*2^D.base:Nat):Int))) (fun _=>?_) fun z=>absurd (of_decide_eq_true ((Bool.not_eq_false' _).mp z)) hd
    exact zd hb hk (eq_false_of_ne_true hct) (q pr'.1 hpr (by rw[vE,length_append,length_cons, ←add_assoc, ←length_append,take_append_drop];exact le_refl _))
 ·have he:kX bk x=bk.length:=Int.ofNat.inj (of_decide_eq_true ((Bool.not_eq_false' _).mp hc))
  have hg:bk[kX bk x]? =none:=getElem?_eq_none (le_of_eq he.symm)
  have hx:¬(bk[kX bk x]?).map (·.1)=some x:=by rw[hg];exact fun z=>nomatch z
  rw[if_neg hx]at hp
  split at hp
  ·exact nomatch hp
  ·rename_i hct
   obtain⟨pr',hpr,e⟩:=wk hp
   cases e
   refine sd (p:=(kX bk x:Int)=(bk.length:Int)) (fun _=>?_) fun z=>absurd (congrArg Int.ofNat he) z
   exact zd hb hk (eq_false_of_ne_true hct) (q pr'.1 hpr (by rw[vE,length_append,length_cons, ←add_assoc, ←length_append,take_append_drop];exact le_refl _))
set_option backward.match.sparseCases true
theorem rB{Q:V→Oj→Prop}(P:B9 D f O ra br ev h ends bk A)(hne:ra≠br)(hp:put f place turn h ends bk A=some (p,bk',A'))
 (q:Q (.int p) ((O.set ra (.dS (aN D.c0 D.c1 A'))).set br (.list (aQ (2^D.base) bk')))):
 bw (W G3 (n+100)) (.cst (.ref 153)) [.ref br,.int place,.int turn,.str (cd D.c0 D.c1 h),ev,D.v,.ref ra] [] b Q O:=by
 unfold put at hp
 have hA':(di f h ends 0 A).2=A':=by
  unfold uZ at hp
  split at hp
  ·obtain⟨_,_,e⟩:=wk hp;cases e;rfl
  ·split at hp
   ·exact nomatch hp
   ·obtain⟨_,_,e⟩:=wk hp;cases e;rfl
 have hb2:=aM (ab (o':=.dS (aN D.c0 D.c1 (di f h ends 0 A).2)) (aL P.br) hne)
 refine n0 (show xs (W G3 (n+99)) ((bF (dB 20)).drop 0) (ze (.ref br) (.int place) (.int turn) (.str (cd D.c0 D.c1 h)) ev D.v (.ref ra) none none) O.length (Jv O.length Q) O from fx rfl (Hq (n:=n+1) P (fx (i:=1) rfl (Hp (n:=n+1) hb2 P.hk (fx (i:=2) rfl (Ho (n:=n+1) hb2 P.hk hp fun y hy hl=>?_))))))
 have hb3:=ac (l':=aQ (2^D.base) bk') hb2
 refine Hn (n:=n+1) hb3 (lt_of_le_of_lt hl (lt_trans (succ_lt_succ P.hk) (by decide))) hy ?_ ?_
 ·exact take_of_length_le (by rw[length_set,length_set];exact le_refl _)
 ·rw[hA']
  exact q
end
end
section
variable {O:Oj} {h t a m k:Nat} {w:List Bool} {c:Bool} {L L1:List zA} {p:Bool×List Nat} {e:zA} {tu:Option V}
set_option backward.match.sparseCases false
noncomputable abbrev zA:=Nat×Nat×List Bool
noncomputable def yd(c0 c1:Nat)(e:zA):V:=.tup [.int (e.1:Nat),.int (e.2.1:Nat),.str (cd c0 c1 e.2.2)]
noncomputable def yI(c0 c1:Nat)(L:List zA):List V:=L.map (yd c0 c1)
noncomputable def EP(a c:Nat)(e:zA):Bool:=decide (e.1=a)&&decide (e.2.1=c)
noncomputable def grow(L:List zA)(a c:Nat)(w:List Bool):List zA:=if(L.filter (EP a c)).isEmpty then L++[(a,c,w)]else L
noncomputable def xd(mv ow:fF)(h t:Nat)(w:List Bool)(b:Bool)(L:List zA):Option (List zA):=
 (mv[h]?).bind fun p=>(ow[t]?).bind fun q=>(p.2[b1 b]?).bind fun a=>(q.2[b1 b]?).bind fun c=>some (grow L a c (w++[b]))
noncomputable def EF(mv ow:fF):Nat→Nat→List zA→Option (Option (List Bool))
 |0,_,_=>some none
 |f+1,k,L=>match L[k]? with
  |none=>EF mv ow f (k+1) L
  |some e=>(mv[e.1]?).bind fun p=>(ow[e.2.1]?).bind fun q=>
   if p.1=q.1 then(xd mv ow e.1 e.2.1 e.2.2 false L).bind fun L1=>(xd mv ow e.1 e.2.1 e.2.2 true L1).bind fun L2=>EF mv ow f (k+1) L2
   else some (some e.2.2)
noncomputable def EH:af:=(cV (dB 23)).names
noncomputable def He:Stmt:=aX (bF (dB 23)) 1
noncomputable def FX:Stmt:=aX (IQ (aX (fm He) 0)) 2
noncomputable def EG(mv ow:V)(c0 c1 ln:Nat)(at_ he th wo tu:Option V):fP:=[(u "moves",some mv),(u "own",some ow),(u "letters",some (.str [c0,c1])),(u "line",some (.ref ln)),(u "at",at_),(u "here",he),(u "there",th),(u "word",wo),(u "turn",tu)]
theorem Gk{l:List V}(h:l.length<300):i5 G3 O .Eq (.lst l) (.lst [])=some l.isEmpty:=by
 cases l with
 |nil=>rfl
 |cons v l=>kernel_rfl!
theorem oJ{c0 c1:Nat}:∀L:List zA,d0 (L.map (yd c0 c1))=true
 |[]=>rfl
 |_::L=>oJ L
theorem GS{c0 c1:Nat}{b:Bool}:cN O (.str [c0,c1]) (.int (((1+b1 b:Nat):Int)-1))=some (.str [sg c0 c1 b]):=by
 cases b<;>rfl
theorem zH{n b ln c0 c1:Nat}{O1:Oj}{mvv owv at_:V}{mv ow:fF}{Q:Fl→List Fr→Oj→Prop}(hM:i8 O1 mvv mv)(hO:i8 O1 owv ow)(hMl:mv.length<290)(hOl:ow.length<290)(hMr:∀p∈mv,p.2.length<290)(hOr:∀p∈ow,p.2.length<290)
 (hb:b≤ln) (hL:lA O1 ln=some (yI c0 c1 L)) (hLl:L.length<280) (hw:w.length<200) (h1:xd mv ow h t w c L=some L1)
 (q:Q .next [⟨EH,EG mvv owv c0 c1 ln (some at_) (some (.int h)) (some (.int t)) (some (.str (cd c0 c1 w))) (some (.int ((1+b1 c:Nat):Int))),false,0,none⟩] (O1.set ln (.list (yI c0 c1 L1)))):
 (W G3 (n+30)).s (aX (fm FX) 0) [⟨EH,EG mvv owv c0 c1 ln (some at_) (some (.int h)) (some (.int t)) (some (.str (cd c0 c1 w))) (some (.int ((1+b1 c:Nat):Int))),false,0,none⟩] b Q O1:=by
 refine hG fun _ kk=>?_
 obtain⟨p,hp,h1⟩:=gU h1
 obtain⟨pq,hpq,h1⟩:=gU h1
 obtain⟨a,ha,h1⟩:=gU h1
 obtain⟨d,hd,h1⟩:=gU h1
 obtain rfl:=sI h1
 obtain⟨x,hx,hrow⟩:=hM.row (lt_trans hMl (by decide)) hp
 obtain⟨y,hy,hrowy⟩:=hO.row (lt_trans hOl (by decide)) hpq
 refine kk ?_
 have hmr:=hMr p (mem_of_getElem? hp)
 have hor:=hOr pq (mem_of_getElem? hpq)
 refine lf (qo hL) (lc L (HK (yd c0 c1) _ _ "one") (EP a d) (yd c0 c1) (yd c0 c1) (.live hL) (fun _ _=>rfl) (fun e he aK K1 K2 k1 k2=>?_) (lt_trans hLl (by decide)) ?_ ?_)
 ·obtain⟨x,hx,hrow⟩:=(hM.low (O1:=O1++[aT.list aK]) take_left).row (lt_trans hMl (by decide)) hp
  obtain⟨y,hy,hrowy⟩:=(hO.low (O1:=O1++[aT.list aK]) take_left).row (lt_trans hOl (by decide)) hpq
  refine lf hx (lf (il rfl hrow hmr ha) (lf hy (lf (il rfl hrowy hor hd) ?_)))
  have e1:decide ((e.1:Int)=(a:Int))=decide (e.1=a):=decide_eq_decide.mpr ⟨Int.ofNat.inj,congrArg Int.ofNat⟩
  have e2:decide ((e.2.1:Int)=(d:Int))=decide (e.2.1=d):=decide_eq_decide.mpr ⟨Int.ofNat.inj,congrArg Int.ofNat⟩
  refine sl (t:=decide ((e.1:Int)=(a:Int))&&(decide ((e.2.1:Int)=(d:Int))&&true)) (fun hg=>k1 ?_) fun hg=>k2 ?_
  ·rwa[e1,e2,Bool.and_true]at hg
  ·rwa[e1,e2,Bool.and_true]at hg
 ·exact oJ _
 ·refine lf (Gk (by rw[length_map];exact lt_of_le_of_lt (length_filter_le _ _) (lt_trans hLl (by decide)))) ?_
  rw[List.isEmpty_map]
  unfold grow at q
  refine sl (fun hg=>?_) fun hg=>?_
  ·rw[if_pos hg]at q
   refine lf (dX hL rfl) (lf hx (lf (il rfl hrow hmr ha) (lf hy (lf (il rfl hrowy hor hd) ?_))))
   refine lf (GS (b:=c)) (lf (dP (by rw[aS];exact lt_trans (succ_lt_succ hw) (by decide))) (lf (bP hL (by rw[yI,length_map];exact lt_trans hLl (by decide)) (jq hb)) ?_))
   have e3:yI c0 c1 (L++[(a,d,w++[c])])=yI c0 c1 L++[.tup [.int (a:Nat),.int (d:Nat),.str (cd c0 c1 w++[sg c0 c1 c])]]:=by
    rw[yI,map_append]
    show _++[V.tup [_,_,V.str (cd c0 c1 (w++[c]))]]=_
    rw[j4];rfl
   rw[e3]at q
   exact q
  ·rw[if_neg (by rw[hg];decide),bV (aL hL)]at q
   exact q
theorem v9{x:V}(h:iO O x=some (.bool p.1::aC p.2))(hl:p.2.length<290):cN O x (.int 0)=some (.bool p.1):=
 qJ (k:=0) rfl h (by rw[length_cons,aJ];exact lt_trans (succ_lt_succ hl) (by decide)) rfl
theorem A5{c:Nat}:(grow L a c w).length≤L.length+1:=by
 unfold grow
 split
 ·rw[length_append];exact le_refl _
 ·exact le_succ _
theorem A4{c:Nat}(h:∀e∈L,e.2.2.length≤m)(hw:w.length≤m):∀e∈grow L a c w,e.2.2.length≤m:=by
 unfold grow
 split
 ·intro e he
  rcases mem_append.mp he with he|he
  ·exact h e he
  ·rw[mem_singleton.mp he];exact hw
 ·exact h
theorem pH{mv ow:fF}(h1:xd mv ow h t w c L=some L1)(hw:w.length<m)(hm:∀e∈L,e.2.2.length≤m):L1.length≤L.length+1∧∀e∈L1,e.2.2.length≤m:=by
 refine hG fun _ kk=>?_
 obtain⟨p,hp,h1⟩:=gU h1
 obtain⟨pq,hpq,h1⟩:=gU h1
 obtain⟨a,ha,h1⟩:=gU h1
 obtain⟨d,hd,h1⟩:=gU h1
 obtain rfl:=sI h1
 refine kk ?_
 exact⟨A5,A4 hm (by rw[length_append];exact hw)⟩
section
variable {n b ln c0 c1:Nat} {mvv owv:V} {mv ow:fF} {O1:Oj} {Q:Fl→List Fr→Oj→Prop}
theorem CQ{q':Bool×List Nat}{he th wo:Option V}(hM:i8 O1 mvv mv)(hO:i8 O1 owv ow)(hMl:mv.length<290)(hOl:ow.length<290)(hMr:∀p∈mv,p.2.length<290)(hOr:∀p∈ow,p.2.length<290)
 (hb:b≤ln) (hL:lA O1 ln=some (yI c0 c1 L)) (hLl:L.length<250) (hk:L[k]? =some e) (hp:mv[e.1]? =some p) (hq:ow[e.2.1]? =some q')
 (q1:p.1≠q'.1→∀F,Q (.ret (.str (cd c0 c1 e.2.2))) F O1)
 (q2:p.1=q'.1→∀(Q':Fl→List Fr→Oj→Prop) tu,(∀F O,Q .next F O→Q' .next F O)→JZ (W G3 (n+31)) (xC FX) (fm FX) (xD FX) b Q' (.items [.int 1,.int 2]) [⟨EH,EG mvv owv c0 c1 ln (some (.int k)) (some (.int e.1)) (some (.int e.2.1)) (some (.str (cd c0 c1 e.2.2))) tu,false,0,none⟩] O1):
 xs (W G3 (n+33)) (fm He) [⟨EH,EG mvv owv c0 c1 ln (some (.int k)) he th wo tu,false,0,none⟩] b Q O1:=by
 have hkl:=(List.getElem?_eq_some_iff.mp hk).1
 have hLn:(yI c0 c1 L).length=L.length:=length_map ..
 refine hG fun _ kk=>?_
 obtain⟨x,hx,hrow⟩:=hM.row (lt_trans hMl (by decide)) hp
 obtain⟨y,hy,hrowy⟩:=hO.row (lt_trans hOl (by decide)) hq
 refine kk ?_
 have hmr:=hMr p (mem_of_getElem? hp)
 have hor:=hOr q' (mem_of_getElem? hq)
 refine lf (ai (v:=.ref ln) hL (by rw[hLn];exact lt_trans hLl (by decide))) ?_
 rw[hLn]
 refine sd (p:=((k:Int)<(L.length:Int))) (fun _=>?_) fun z=>absurd (ofNat_lt.mpr hkl) z
 refine lf (ay (v:=.ref ln) (k:=k) (x:=yd c0 c1 e) hL (by rw[hLn];exact lt_trans hLl (by decide)) (by rw[yI,getElem?_map,hk];rfl)) ?_
 refine lf hx (lf (v9 hrow hmr) (lf hy (lf (v9 hrowy hor) ?_)))
 refine sl (t:= !(p.1==q'.1)) (fun hne=>q1 (fun z=>?_) _) fun heq=>?_
 ·rw[z,beq_self_eq_true]at hne
  exact nomatch hne
 ·exact q2 (eq_of_beq ((Bool.not_eq_false' _).mp heq)) _ _ fun _ _ h=>h
theorem FV{L2:List zA}(hM:i8 O mvv mv)(hO:i8 O owv ow)(hMl:mv.length<290)(hOl:ow.length<290)(hMr:∀p∈mv,p.2.length<290)(hOr:∀p∈ow,p.2.length<290)
 (hb:b≤ln) (hn:O.length≤ln) (ht:O1.take O.length=O) (hL:lA O1 ln=some (yI c0 c1 L)) (hLl:L.length<250) (hm:∀e∈L,e.2.2.length≤m) (hmm:m<150) (hk:e∈L)
 (h1:xd mv ow e.1 e.2.1 e.2.2 false L=some L1) (h2:xd mv ow e.1 e.2.1 e.2.2 true L1=some L2)
 (q:∀tu,Q .next [⟨EH,EG mvv owv c0 c1 ln (some (.int k)) (some (.int e.1)) (some (.int e.2.1)) (some (.str (cd c0 c1 e.2.2))) tu,false,0,none⟩] (O1.set ln (.list (yI c0 c1 L2)))):
 JZ (W G3 (n+31)) (xC FX) (fm FX) (xD FX) b Q (.items [.int 1,.int 2]) [⟨EH,EG mvv owv c0 c1 ln (some (.int k)) (some (.int e.1)) (some (.int e.2.1)) (some (.str (cd c0 c1 e.2.2))) tu,false,0,none⟩] O1:=by
 have hw:=lt_of_le_of_lt (hm e hk) (lt_trans hmm (show 150<200 by decide))
 have k1:=pH h1 (lt_succ_of_le (hm e hk)) fun x hx=>le_succ_of_le (hm x hx)
 refine vw (zH (n:=n+1) (c:=false) (hM.low ht) (hO.low ht) hMl hOl hMr hOr hb hL (lt_trans hLl (by decide)) hw h1 ?_)
 refine zH (n:=n+1) (c:=true) (hM.low (bU ht hn)) (hO.low (bU ht hn)) hMl hOl hMr hOr hb (ac hL) (lt_of_le_of_lt k1.1 (lt_trans (succ_lt_succ hLl) (by decide))) hw h2 ?_
 rw[set_set]
 exact q _
end
noncomputable def LW(c0 c1:Nat):Option (List Bool)→V
 |none=>.none
 |some w=>.str (cd c0 c1 w)
theorem CR{n b ln c0 c1 k0:Nat}{mvv owv:V}{mv ow:fF}{Q:Fl→List Fr→Oj→Prop}(hM:i8 O mvv mv)(hO:i8 O owv ow)(hMl:mv.length<290)(hOl:ow.length<290)(hMr:∀p∈mv,p.2.length<290)(hOr:∀p∈ow,p.2.length<290)
 (hb:b≤ln) (hn:O.length≤ln) (f:Nat):∀(k g:Nat) (O1:Oj) (L:List zA) (r:Option (List Bool)) (at_ he th wo tu:Option V),EF mv ow f k L=some r→f<g→k+f<110→O1.take O.length=O→lA O1 ln=some (yI c0 c1 L)→L.length≤2*k+1→(∀e∈L,e.2.2.length≤k)→
 (∀O2 (F:Option V×Option V×Option V×Option V×Option V),O2.take O.length=O→(r=none→Q .next [⟨EH,EG mvv owv c0 c1 ln F.1 F.2.1 F.2.2.1 F.2.2.2.1 F.2.2.2.2,false,0,none⟩] O2))→(∀w O2 F,r=some w→O2.take O.length=O→Q (.ret (.str (cd c0 c1 w))) F O2)→
 fY (W G3 (n+33)) (xC He) (fm He) (xD He) b Q g (.items (kg (range' k f))) [⟨EH,EG mvv owv c0 c1 ln at_ he th wo tu,false,0,none⟩] O1:=by
 induction f with
 |zero=>
  intro k g O1 L r at_ he th wo tu h hg hk ht hL hl hm q1 q2
  cases g with
  |zero=>exact absurd hg (not_lt_zero _)
  |succ g=>obtain rfl:=sI h;exact q1 O1 (at_,he,th,wo,tu) ht rfl
 |succ f ih=>
  intro k g O1 L r at_ he th wo tu h hg hk ht hL hl hm q1 q2
  have hk1:k+1+f<110:=by rw[succ_add];exact hk
  have hk2:k<110:=lt_of_le_of_lt (le_add_right _ _) hk
  have hll:L.length<250:=lt_of_le_of_lt (le_trans hl (succ_le_succ (mul_le_mul_left _ (le_of_lt hk2)))) (by decide)
  cases g with
  |zero=>exact absurd hg (not_lt_zero _)
  |succ g=>
   unfold EF at h
   cases hL2:L[k]? with
   |none=>
    rw[hL2]at h
    have hge:=List.getElem?_eq_none_iff.mp hL2
    have hLn:(yI c0 c1 L).length=L.length:=length_map ..
    show xs _ _ _ _ _ _
    refine lf (ai (v:=.ref ln) hL (by rw[hLn];exact lt_trans hll (by decide))) ?_
    rw[hLn]
    refine sd (p:=((k:Int)<(L.length:Int))) (fun z=>absurd (ofNat_lt.mp z) (Nat.not_lt.mpr hge)) fun _=>?_
    exact ih (k+1) g O1 L r _ he th wo tu h (lt_of_succ_lt_succ hg) hk1 ht hL (le_trans hl (succ_le_succ (mul_le_mul_left 2 (le_succ k)))) (fun e he=>le_succ_of_le (hm e he)) q1 q2
   |some e=>
    rw[hL2]at h
    refine hG fun _ kk=>?_
    obtain⟨p,hp,h⟩:=gU h
    obtain⟨q',hq,h⟩:=gU h
    refine kk ?_
    have hmem:=mem_of_getElem? hL2
    show xs _ _ _ _ _ _
    refine CQ (p:=p) (q':=q') (hM.low ht) (hO.low ht) hMl hOl hMr hOr hb hL hll hL2 hp hq (fun hne F=>?_) fun heq Q' tu hq'=>?_
    ·rw[if_neg hne]at h
     clear q1
     obtain rfl:=sI h
     exact q2 _ _ _ rfl ht
    ·rw[if_pos heq]at h
     refine hG fun _ kk=>?_
     obtain⟨L1,h1,h⟩:=gU h
     obtain⟨L2,h2,h⟩:=gU h
     refine kk ?_
     have k1:=pH h1 (lt_succ_of_le (hm e hmem)) fun x hx=>le_succ_of_le (hm x hx)
     have k2:=pH h2 (lt_succ_of_le (hm e hmem)) k1.2
     refine FV hM hO hMl hOl hMr hOr hb hn ht hL hll hm (lt_trans hk2 (by decide)) hmem h1 h2 fun tu=>hq' _ _ ?_
     exact ih (k+1) g _ L2 r _ _ _ _ _ h (lt_of_succ_lt_succ hg) hk1 (bU ht hn) (ac hL) (le_trans k2.1 (succ_le_succ (le_trans k1.1 (succ_le_succ hl)))) k2.2 q1 q2
theorem CS{n b c0 c1:Nat}{mvv owv:V}{mv ow:fF}{r:Option (List Bool)}{Q:V→Oj→Prop}(hM:i8 O mvv mv)(hO:i8 O owv ow)(hMl:mv.length<290)(hOl:ow.length<290)(hMr:∀p∈mv,p.2.length<290)(hOr:∀p∈ow,p.2.length<290)(h:EF mv ow 99 0 [(0,0,[])]=some r)(q:Q (LW c0 c1 r) O):
 bw (W G3 (n+40)) (.cst (.ref 170)) [mvv,owv,.str [c0,c1]] [] b Q O:=by
 have hw:=fun Q q q2=>CR (n:=n+5) (b:=O.length) (Q:=Q) (c0:=c0) (c1:=c1) (k0:=O.length) hM hO hMl hOl hMr hOr (le_refl _) (le_refl O.length) 99 0 300 (O++[aT.list [.tup [.int 0,.int 0,.str []]]]) _ r none none none none none h (by decide) (by decide) dI (aU O _) (by decide) (fun e he=>by rw[mem_singleton.mp he];exact le_refl _) q q2
 refine n0 (vw (hw _ (fun O2 F ht hr=>?_) fun w O2 F hr ht=>?_))
 ·subst hr
  exact vq (Q:=Q) ht q
 ·subst hr
  exact vq (Q:=Q) ht q
set_option backward.match.sparseCases true
end
section
variable {l:List V} {m g lo h pl:Nat} {r:Nat×List Nat×bJ} {Q:Fl→List Fr→Oj→Prop} {mid:Option V}
set_option backward.match.sparseCases false
noncomputable def MN:Stmt→Arguments
 |.Assign _ (.Lambda a _ _ _) _=>a
 |_=>⟨[],[],none,[],[],none,[]⟩
noncomputable def MM:Stmt→Expr
 |.Assign _ (.Lambda _ e _ _) _=>e
 |_=>default
noncomputable def ML:Stmt→Scope
 |.Assign _ (.Lambda _ _ s _) _=>s
 |_=>{ kind:=.function,names:=[],isGenerator:=false,isCoroutine:=false }
noncomputable def ni:Stmt:=aX (bF (dB 24)) 1
noncomputable def Kq:Stmt:=aX (fm ni) 6
noncomputable def oW(nm:String)(k:Nat):gN:=⟨u nm,MN Kq,MM Kq,ML Kq,k⟩
noncomputable def oS(f:List Bool→Bool)(w:List Bool)(hs:List (List Bool))(tr:List Nat)(tru:Bool)(k:Nat)(A:bJ):Option (Bool×bJ):=
 (tr[k]?).bind fun t=>(hs[t]?).map fun h=>((ask f (h++w.drop k) A).1==tru,(ask f (h++w.drop k) A).2)
noncomputable def fJ(f:List Bool→Bool)(w:List Bool)(hs:List (List Bool))(tr:List Nat)(tru:Bool):Nat→Nat→Nat→List Nat→bJ→Option (Nat×List Nat×bJ)
 |0,_,_,_,_=>none
 |n+1,lo,hi,ls,A=>if lo<hi then(oS f w hs tr tru ((lo+hi)/2) A).bind fun r=>if r.1 then fJ f w hs tr tru n ((lo+hi)/2+1) hi (ls++[(lo+hi)/2]) r.2 else fJ f w hs tr tru n lo ((lo+hi)/2) (ls++[(lo+hi)/2]) r.2 else some (lo,ls,A)
theorem jh{l:List Nat}{p:Nat}{O:Oj}(hs:l.length<300)(hp:p≤l.length):cT O (.str l) (.int (p:Nat)) .none .none=some (.str (l.drop p)):=by
 refine bs (f:=fun lo=>(dr .none).bind fun hi=>(dr .none).bind fun st=>if lO l.length&&st.isNone then(av lo hi st l.length).map fun is=>V.str (aO l is)else none) (v:=some (p:Int)) rfl ?_
 refine(if_pos (show(lO l.length&&true)=true from and_eq_true_iff.mpr ⟨aq hs,rfl⟩)).trans ?_
 rw[v5 hp,Option.map_some,eN,take_of_length_le (le_of_eq length_drop)]
structure FK (f0:Fr) (D:Wd) (lr hr ra:Nat) (w:List Bool) (tr:List Nat) (tru:Bool):Prop where
 looks:dM [f0] 0 (u "looks")=some (.ref lr)
 heads:dM [f0] 0 (u "heads")=some (.ref hr)
 trail:dM [f0] 0 (u "trail")=some (.lst (aC tr))
 word:dM [f0] 0 (u "word")=some (.str (cd D.c0 D.c1 w))
 world:dM [f0] 0 (u "world")=some D.v
 asked:dM [f0] 0 (u "asked")=some (.ref ra)
 truth:dM [f0] 0 (u "truth")=some (.bool tru)
theorem Jh(O:Oj)(i j:Nat)(x y:aT):((O.set i x).set j y).take O.length=(O.set i x).set j y:=take_of_length_le (le_of_eq (by rw[length_set,length_set]))
theorem take_set(O:Oj)(k:Nat)(o:aT):(O.set k o).take O.length=O.set k o:=take_of_length_le (le_of_eq length_set)
section
variable {n b lr hr ra:Nat} {O:Oj} {a:V} {ad:Addr} {f0:Fr} {D:Wd} {f:List Bool→Bool} {A:bJ} {w:List Bool} {hs:List (List Bool)} {tr ls:List Nat} {tru:Bool}
theorem ww{X:Fr}{r:Bool×bJ}{Q:V→Oj→Prop}(L:FK f0 D lr hr ra w tr tru)(H:eZ D f)
 (hls:lA O lr=some (aC ls)) (hll:ls.length<290) (hhs:lA O hr=some (aF (hs.map (cd D.c0 D.c1)))) (hhl:hs.length<290) (hA:O[ra]? =some (.dS (aN D.c0 D.c1 A))) (hAl:A.length<290) (hw:w.length<50) (hhw:∀h∈hs,h.length<40) (hmw:m≤w.length) (htl:tr.length<290) (hne:lr≠ra) (hnh:lr≠hr)
 (hlk:oS f w hs tr tru m A=some r) (q1:r.1=true→Q (.int 0) ((O.set lr (.list (aC (ls++[m])))).set ra (.dS (aN D.c0 D.c1 r.2)))) (q2:r.1=false→Q (.int 1) ((O.set lr (.list (aC (ls++[m])))).set ra (.dS (aN D.c0 D.c1 r.2)))):
 (W G3 (n+97)).e (oW "key" 1).body [⟨(oW "key" 1).scope.names,pW (oW "key" 1).scope.names [(u "k",.int (m:Nat))],true,1,none⟩,X,f0] O.length Q O:=by
 obtain⟨t,ht,hlk⟩:=gU hlk
 obtain⟨hd,hhd,rfl⟩:=wk hlk
 have hO2:lA (O.set lr (.list (aC ls++[.int (m:Nat)]))) hr=some (aF (hs.map (cd D.c0 D.c1))):=aM (ab (aL hhs) hnh)
 have hA2:(O.set lr (.list (aC ls++[.int (m:Nat)])))[ra]? =some (.dS (aN D.c0 D.c1 A)):=ab hA hne
 have hhd40:=hhw hd (mem_of_getElem? hhd)
 have hwl:(hd++w.drop m).length<100:=by rw[length_append,length_drop];exact lt_of_le_of_lt (add_le_add (le_of_lt hhd40) (le_trans (sub_le _ _) (le_of_lt hw))) (by decide)
 refine lf L.looks (lf (dX hls rfl) (lf (bP hls (by rw[aJ];exact lt_trans hll (by decide)) (iD rfl)) (lf L.heads (lf L.trail (lf (ay (k:=m) (l:=aC tr) (x:=.int (t:Nat)) rfl (by rw[aJ];exact lt_trans htl (by decide)) (by rw[aC,getElem?_map,ht];rfl)) ?_)))))
 refine lf (ay (k:=t) (v:=.ref hr) (x:=.str (cd D.c0 D.c1 hd)) hO2 (by rw[aF,length_map,length_map];exact lt_trans hhl (by decide)) (by rw[aF,getElem?_map,getElem?_map,hhd];rfl)) (lf L.word ?_)
 refine lf (jh (p:=m) (by rw[aS];exact lt_trans hw (by decide)) (by rw[aS];exact hmw)) (lf (dP (by rw[length_drop,aS,aS];exact lt_of_le_of_lt (add_le_add (le_of_lt hhd40) (le_trans (sub_le _ _) (le_of_lt hw))) (by decide))) ?_)
 refine Eq.symm (show(cd D.c0 D.c1 hd++(cd D.c0 D.c1 w).drop m)=cd D.c0 D.c1 (hd++w.drop m)by rw[j4,cd,cd,cd,map_drop])▸?_
 refine lf L.world (lf L.asked (jZ (D:=D) (f:=f) (A:=A) H hA2 (lt_trans hAl (by decide)) hwl (lf L.truth ?_)))
 rw[cn]at q1 q2
 exact sl (t:=(ask f (hd++w.drop m) A).1==tru) q1 q2
theorem IA{r:Bool×bJ}(L:FK f0 D lr hr ra w tr tru)(H:eZ D f)(ha:iO O a=some l)(hsm:l.length<300)(hlt:lo<h)(hm:(lo+h)/2=m)(hc:l[m]? =some (.int (m:Nat)))
 (hls:lA O lr=some (aC ls)) (hll:ls.length<290) (hhs:lA O hr=some (aF (hs.map (cd D.c0 D.c1)))) (hhl:hs.length<290) (hA:O[ra]? =some (.dS (aN D.c0 D.c1 A))) (hAl:A.length<290) (hw:w.length<50) (hhw:∀h∈hs,h.length<40) (hmw:m≤w.length) (htl:tr.length<290) (hne:lr≠ra) (hnh:lr≠hr)
 (hlk:oS f w hs tr tru m A=some r)
 (q1:r.1=true→bQ (W G3 (n+100)) (wT kt) (wB kt) b Q g [⟨Bn,o9 a (.int 1) (m+1) h (.opq ad) (some (.int m)),false,0,some (oW "key" 1)⟩,f0] ((O.set lr (.list (aC (ls++[m])))).set ra (.dS (aN D.c0 D.c1 r.2))))
 (q2:r.1=false→bQ (W G3 (n+100)) (wT kt) (wB kt) b Q g [⟨Bn,o9 a (.int 1) lo m (.opq ad) (some (.int m)),false,0,some (oW "key" 1)⟩,f0] ((O.set lr (.list (aC (ls++[m])))).set ra (.dS (aN D.c0 D.c1 r.2)))):
 bQ (W G3 (n+100)) (wT kt) (wB kt) b Q (g+1) [⟨Bn,o9 a (.int 1) lo h (.opq ad) mid,false,0,some (oW "key" 1)⟩,f0] O:=by
 subst hm
 refine uB (t:=decide ((lo:Int)<h)) (decide_eq_true (ofNat_lt.mpr hlt)) ⟨rfl,lf (ay (k:=(lo+h)/2) ha hsm hc) (ww L H hls hll hhs hhl hA hAl hw hhw hmw htl hne hnh hlk (fun z=>?_) fun z=>?_)⟩
 ·exact(Jh O lr ra (.list (aC (ls++[(lo+h)/2]))) (.dS (aN D.c0 D.c1 r.2))).symm▸q1 z
 ·exact(Jh O lr ra (.list (aC (ls++[(lo+h)/2]))) (.dS (aN D.c0 D.c1 r.2))).symm▸q2 z
theorem H9{r:Bool×bJ}(L:FK f0 D lr hr ra w tr tru)(H:eZ D f)(ha:iO O a=some l)(hsm:l.length<300)(hlt:lo<h)(hm:(lo+h)/2=m)(hc:l[m]? =some (.int (m:Nat)))
 (hls:lA O lr=some (aC ls)) (hll:ls.length<290) (hhs:lA O hr=some (aF (hs.map (cd D.c0 D.c1)))) (hhl:hs.length<290) (hA:O[ra]? =some (.dS (aN D.c0 D.c1 A))) (hAl:A.length<290) (hw:w.length<50) (hhw:∀h∈hs,h.length<40) (hmw:m≤w.length) (htl:tr.length<290) (hne:lr≠ra) (hnh:lr≠hr)
 (hlk:oS f w hs tr tru m A=some r)
 (q1:r.1=true→bQ (W G3 (n+100)) (wT kr) (wB kr) b Q g [⟨Dz,o9 a (.int 0) (m+1) h (.opq ad) (some (.int m)),false,0,some (oW "key" 1)⟩,f0] ((O.set lr (.list (aC (ls++[m])))).set ra (.dS (aN D.c0 D.c1 r.2))))
 (q2:r.1=false→bQ (W G3 (n+100)) (wT kr) (wB kr) b Q g [⟨Dz,o9 a (.int 0) lo m (.opq ad) (some (.int m)),false,0,some (oW "key" 1)⟩,f0] ((O.set lr (.list (aC (ls++[m])))).set ra (.dS (aN D.c0 D.c1 r.2)))):
 bQ (W G3 (n+100)) (wT kr) (wB kr) b Q (g+1) [⟨Dz,o9 a (.int 0) lo h (.opq ad) mid,false,0,some (oW "key" 1)⟩,f0] O:=by
 subst hm
 refine uB (t:=decide ((lo:Int)<h)) (decide_eq_true (ofNat_lt.mpr hlt)) ⟨rfl,lf (ay (k:=(lo+h)/2) ha hsm hc) (ww L H hls hll hhs hhl hA hAl hw hhw hmw htl hne hnh hlk (fun z=>?_) fun z=>?_)⟩
 ·exact(Jh O lr ra (.list (aC (ls++[(lo+h)/2]))) (.dS (aN D.c0 D.c1 r.2))).symm▸q1 z
 ·exact(Jh O lr ra (.list (aC (ls++[(lo+h)/2]))) (.dS (aN D.c0 D.c1 r.2))).symm▸q2 z
theorem IB{P:Nat→Nat→Nat→Option V→Oj→Prop}{R:Nat→Nat→Option V→Oj→Prop}(hne:lr≠ra)(hnh:lr≠hr)(hpl:lr≠pl)(hpa:ra≠pl)(hha:ra≠hr)
 (st:∀{g lo h:Nat} {ls:List Nat} {A:bJ} {O:Oj} {mid:Option V} {r:Bool×bJ},lo<h→(lo+h)/2≤w.length→ls.length<290→A.length<290→lA O pl=some (aC (List.range (w.length+1)))→lA O lr=some (aC ls)→lA O hr=some (aF (hs.map (cd D.c0 D.c1)))→O[ra]? =some (.dS (aN D.c0 D.c1 A))→oS f w hs tr tru ((lo+h)/2) A=some r→
  (r.1=true→P g ((lo+h)/2+1) h (some (.int ((lo+h)/2:Nat))) ((O.set lr (.list (aC (ls++[(lo+h)/2])))).set ra (.dS (aN D.c0 D.c1 r.2))))→(r.1=false→P g lo ((lo+h)/2) (some (.int ((lo+h)/2:Nat))) ((O.set lr (.list (aC (ls++[(lo+h)/2])))).set ra (.dS (aN D.c0 D.c1 r.2))))→P (g+1) lo h mid O)
 (en:∀{g lo h:Nat} {mid:Option V} {O:Oj},¬lo<h→R lo h mid O→P (g+1) lo h mid O) (m:Nat):
 ∀(g lo h:Nat) (ls:List Nat) (A:bJ) (O:Oj) (mid:Option V) (r:Nat×List Nat×bJ),fJ f w hs tr tru m lo h ls A=some r→m≤g→ls.length+m<290→A.length+m<290→h≤w.length+1→lA O pl=some (aC (List.range (w.length+1)))→lA O lr=some (aC ls)→lA O hr=some (aF (hs.map (cd D.c0 D.c1)))→O[ra]? =some (.dS (aN D.c0 D.c1 A))→
  (∀h m,R r.1 h m ((O.set lr (.list (aC r.2.1))).set ra (.dS (aN D.c0 D.c1 r.2.2))))→P g lo h mid O:=by
 induction m with
 |zero=>exact fun _ _ _ _ _ _ _ _ h=>nomatch h
 |succ m ih=>
  intro g lo h ls A O mid r hr1 hg hls hAl hh hp hl1 hh1 hA q
  cases g with
  |zero=>exact absurd hg (Nat.not_succ_le_zero _)
  |succ g=>
   have hls0:ls.length<290:=lt_of_le_of_lt (le_add_right _ _) hls
   have hA0:A.length<290:=lt_of_le_of_lt (le_add_right _ _) hAl
   replace hr1:(if lo<h then _ else some (lo,ls,A))=some r:=hr1
   by_cases hlt:lo<h
   ·rw[if_pos hlt]at hr1
    obtain⟨s,hs1,hr1⟩:=gU hr1
    have hml:(lo+h)/2≤w.length:=le_of_lt_succ (lt_of_lt_of_le (Ai hlt) hh)
    have hsA:s.2.length≤A.length+1:=by
     obtain⟨t,ht,hs1⟩:=gU hs1
     obtain⟨hd,hhd,e⟩:=wk hs1
     clear hr1 hs1
     subst e
     show(ask f (hd++w.drop ((lo+h)/2)) A).2.length≤_
     unfold ask
     cases A.lookup (hd++w.drop ((lo+h)/2))with
     |some t=>exact le_succ _
     |none=>exact le_of_eq length_append
    have hl2:lA ((O.set lr (.list (aC (ls++[(lo+h)/2])))).set ra (.dS (aN D.c0 D.c1 s.2))) lr=some (aC (ls++[(lo+h)/2])):=aM (ab (aL (ac hl1)) (Ne.symm hne))
    have hp2:lA ((O.set lr (.list (aC (ls++[(lo+h)/2])))).set ra (.dS (aN D.c0 D.c1 s.2))) pl=some (aC (List.range (w.length+1))):=aM (ab (ab (aL hp) hpl) hpa)
    have hh2:lA ((O.set lr (.list (aC (ls++[(lo+h)/2])))).set ra (.dS (aN D.c0 D.c1 s.2))) hr=some (aF (hs.map (cd D.c0 D.c1))):=aM (ab (ab (aL hh1) hnh) hha)
    have hA2:((O.set lr (.list (aC (ls++[(lo+h)/2])))).set ra (.dS (aN D.c0 D.c1 s.2)))[ra]? =some (.dS (aN D.c0 D.c1 s.2)):=dL (ab hA hne)
    have hst:∀x y,(((O.set lr (.list (aC (ls++[(lo+h)/2])))).set ra (.dS (aN D.c0 D.c1 s.2))).set lr x).set ra y=(O.set lr x).set ra y:=fun x y=>by rw[List.set_comm _ _ hne.symm,set_set,set_set]
    have hlen:(ls++[(lo+h)/2]).length+m<290:=by rw[length_append];show ls.length+1+m<290;exact lt_of_le_of_lt (le_of_eq (succ_add _ _)) hls
    refine st hlt hml hls0 hA0 hp hl1 hh1 hA hs1 (fun hs=>?_) fun hs=>?_
    ·rw[if_pos hs]at hr1
     exact ih g _ h _ s.2 _ _ r hr1 (Nat.le_of_succ_le_succ hg) hlen (lt_of_le_of_lt (add_le_add_right hsA m) (lt_of_le_of_lt (le_of_eq (succ_add _ _)) hAl)) hh hp2 hl2 hh2 hA2 fun h m=>by rw[hst];exact q h m
    ·rw[if_neg (by rw[hs];decide)]at hr1
     exact ih g lo _ _ s.2 _ _ r hr1 (Nat.le_of_succ_le_succ hg) hlen (lt_of_le_of_lt (add_le_add_right hsA m) (lt_of_le_of_lt (le_of_eq (succ_add _ _)) hAl)) (le_succ_of_le hml) hp2 hl2 hh2 hA2 fun h m=>by rw[hst];exact q h m
   ·rw[if_neg hlt]at hr1
    obtain rfl:=sI hr1
    have q:=q h mid
    rw[bV (aL hl1),bV hA]at q
    exact en hlt q
theorem GP(L:FK f0 D lr hr ra w tr tru)(H:eZ D f)(hhl:hs.length<290)(hw:w.length<50)(hhw:∀h∈hs,h.length<40)(htl:tr.length<290)(hne:lr≠ra)(hnh:lr≠hr)(hpl:lr≠pl)(hpa:ra≠pl)(hha:ra≠hr)
 (hr1:fJ f w hs tr tru 60 1 (w.length+1) [] A=some r) (hAl:A.length<200) (hp:lA O pl=some (aC (List.range (w.length+1)))) (hl1:lA O lr=some (aC [])) (hh1:lA O hr=some (aF (hs.map (cd D.c0 D.c1)))) (hA:O[ra]? =some (.dS (aN D.c0 D.c1 A)))
 (q:∀h m,Q .next [⟨Bn,o9 (.ref pl) (.int 1) r.1 h (.opq ad) m,false,0,some (oW "key" 1)⟩,f0] ((O.set lr (.list (aC r.2.1))).set ra (.dS (aN D.c0 D.c1 r.2.2)))):
 bQ (W G3 (n+100)) (wT kt) (wB kt) b Q 300 [⟨Bn,o9 (.ref pl) (.int 1) 1 (w.length+1:Nat) (.opq ad) none,false,0,some (oW "key" 1)⟩,f0] O:=
 IB (P:=fun g lo h mid O=>bQ (W G3 (n+100)) (wT kt) (wB kt) b Q g [⟨Bn,o9 (.ref pl) (.int 1) lo h (.opq ad) mid,false,0,some (oW "key" 1)⟩,f0] O) (R:=fun lo h mid O=>Q .next [⟨Bn,o9 (.ref pl) (.int 1) lo h (.opq ad) mid,false,0,some (oW "key" 1)⟩,f0] O) hne hnh hpl hpa hha (fun hlt hml hls0 hA0 hp hl1 hh1 hA hs1 q1 q2=>IA (l:=aC (List.range (w.length+1))) L H hp (by rw[aJ,length_range];exact lt_of_le_of_lt (succ_le_succ (le_of_lt hw)) (by decide)) hlt rfl (by rw[aC,getElem?_map,List.getElem?_range (lt_succ_of_le hml)];rfl) hl1 hls0 hh1 hhl hA hA0 hw hhw hml htl hne hnh hs1 q1 q2) (fun hlt q=>Ff (t:=decide _) (decide_eq_false fun z=>hlt (ofNat_lt.mp z)) q) 60 300 1 (w.length+1) [] A O none r hr1 (by decide) (by decide) (lt_of_le_of_lt (add_le_add_right (le_of_lt hAl) _) (by decide)) (le_refl _) hp hl1 hh1 hA q
theorem uv{Q:V→Oj→Prop}(L:FK f0 D lr hr ra w tr tru)(hlk:pL [f0] (u "look")=some (.opq ad))(H:eZ D f)(hhl:hs.length<290)(hw:w.length<50)(hhw:∀h∈hs,h.length<40)(htl:tr.length<290)(hne:lr≠ra)(hnh:lr≠hr)(hpl:lr≠pl)(hpa:ra≠pl)(hha:ra≠hr)
 (hr1:fJ f w hs tr tru 60 1 (w.length+1) [] A=some r) (hAl:A.length<200) (hp:lA O pl=some (aC (List.range (w.length+1)))) (hl1:lA O lr=some (aC [])) (hh1:lA O hr=some (aF (hs.map (cd D.c0 D.c1)))) (hA:O[ra]? =some (.dS (aN D.c0 D.c1 A)))
 (q:Q (.int r.1) ((O.set lr (.list (aC r.2.1))).set ra (.dS (aN D.c0 D.c1 r.2.2)))):
 xb (W G3 (n+110)) (.cst (.ref 57)) [.ref pl,.int 1,.int 1] [(u "key",.opq ad)] (u "key") (oW "look" 0) [f0] b Q O:=by
 refine⟨⟨hlk.symm,?_⟩⟩
 refine lf (ai (v:=.ref pl) hp (by rw[aJ,length_range];exact lt_of_le_of_lt (succ_le_succ (le_of_lt hw)) (by decide))) ?_
 rw[aJ,length_range]
 refine Fa (GP (n:=n+7) L H hhl hw hhw htl hne hnh hpl hpa hha hr1 hAl hp hl1 hh1 hA fun h m=>⟨rfl,?_⟩)
 have hX:((O.set lr (.list (aC r.2.1))).set ra (.dS (aN D.c0 D.c1 r.2.2))).length=O.length:=by rw[length_set,length_set]
 rw[←take_of_length_le (le_of_eq hX)]at q
 exact q
theorem GO(L:FK f0 D lr hr ra w tr tru)(H:eZ D f)(hhl:hs.length<290)(hw:w.length<50)(hhw:∀h∈hs,h.length<40)(htl:tr.length<290)(hne:lr≠ra)(hnh:lr≠hr)(hpl:lr≠pl)(hpa:ra≠pl)(hha:ra≠hr)
 (hr1:fJ f w hs tr tru 60 1 (w.length+1) [] A=some r) (hAl:A.length<200) (hp:lA O pl=some (aC (List.range (w.length+1)))) (hl1:lA O lr=some (aC [])) (hh1:lA O hr=some (aF (hs.map (cd D.c0 D.c1)))) (hA:O[ra]? =some (.dS (aN D.c0 D.c1 A)))
 (q:∀h m,Q .next [⟨Dz,o9 (.ref pl) (.int 0) r.1 h (.opq ad) m,false,0,some (oW "key" 1)⟩,f0] ((O.set lr (.list (aC r.2.1))).set ra (.dS (aN D.c0 D.c1 r.2.2)))):
 bQ (W G3 (n+100)) (wT kr) (wB kr) b Q 300 [⟨Dz,o9 (.ref pl) (.int 0) 1 (w.length+1:Nat) (.opq ad) none,false,0,some (oW "key" 1)⟩,f0] O:=
 IB (P:=fun g lo h mid O=>bQ (W G3 (n+100)) (wT kr) (wB kr) b Q g [⟨Dz,o9 (.ref pl) (.int 0) lo h (.opq ad) mid,false,0,some (oW "key" 1)⟩,f0] O) (R:=fun lo h mid O=>Q .next [⟨Dz,o9 (.ref pl) (.int 0) lo h (.opq ad) mid,false,0,some (oW "key" 1)⟩,f0] O) hne hnh hpl hpa hha (fun hlt hml hls0 hA0 hp hl1 hh1 hA hs1 q1 q2=>H9 (l:=aC (List.range (w.length+1))) L H hp (by rw[aJ,length_range];exact lt_of_le_of_lt (succ_le_succ (le_of_lt hw)) (by decide)) hlt rfl (by rw[aC,getElem?_map,List.getElem?_range (lt_succ_of_le hml)];rfl) hl1 hls0 hh1 hhl hA hA0 hw hhw hml htl hne hnh hs1 q1 q2) (fun hlt q=>Ff (t:=decide _) (decide_eq_false fun z=>hlt (ofNat_lt.mp z)) q) 60 300 1 (w.length+1) [] A O none r hr1 (by decide) (by decide) (lt_of_le_of_lt (add_le_add_right (le_of_lt hAl) _) (by decide)) (le_refl _) hp hl1 hh1 hA q
theorem uu{Q:V→Oj→Prop}(L:FK f0 D lr hr ra w tr tru)(hlk:pL [f0] (u "look")=some (.opq ad))(H:eZ D f)(hhl:hs.length<290)(hw:w.length<50)(hhw:∀h∈hs,h.length<40)(htl:tr.length<290)(hne:lr≠ra)(hnh:lr≠hr)(hpl:lr≠pl)(hpa:ra≠pl)(hha:ra≠hr)
 (hr1:fJ f w hs tr tru 60 1 (w.length+1) [] A=some r) (hAl:A.length<200) (hp:lA O pl=some (aC (List.range (w.length+1)))) (hl1:lA O lr=some (aC [])) (hh1:lA O hr=some (aF (hs.map (cd D.c0 D.c1)))) (hA:O[ra]? =some (.dS (aN D.c0 D.c1 A)))
 (q:Q (.int r.1) ((O.set lr (.list (aC r.2.1))).set ra (.dS (aN D.c0 D.c1 r.2.2)))):
 xb (W G3 (n+110)) (.cst (.ref 39)) [.ref pl,.int 0,.int 1] [(u "key",.opq ad)] (u "key") (oW "look" 0) [f0] b Q O:=by
 refine⟨⟨hlk.symm,?_⟩⟩
 refine lf (ai (v:=.ref pl) hp (by rw[aJ,length_range];exact lt_of_le_of_lt (succ_le_succ (le_of_lt hw)) (by decide))) ?_
 rw[aJ,length_range]
 refine Fa (GO (n:=n+7) L H hhl hw hhw htl hne hnh hpl hpa hha hr1 hAl hp hl1 hh1 hA fun h m=>⟨rfl,?_⟩)
 have hX:((O.set lr (.list (aC r.2.1))).set ra (.dS (aN D.c0 D.c1 r.2.2))).length=O.length:=by rw[length_set,length_set]
 rw[←take_of_length_le (le_of_eq hX)]at q
 exact q
end
set_option backward.match.sparseCases true
end
section
variable {h:List Bool} {x:Str} {body:List Stmt}
set_option backward.match.sparseCases false
noncomputable def En(A:bJ)(bk:ae)(h:List Bool)(ends:List (List Bool)):Bool:=decide (A.length+ends.length<190)&&(decide (bk.length<180)&&(decide (h.length<39)&&(ends.all (fun e=>decide (e.length<39))&&decide (ends.length<20))))
noncomputable def zb(f:List Bool→Bool)(t:Nat)(ends:List (List Bool)):List (List Bool)→Nat→ae→bJ→Option (ae×bJ)
 |[],_,bk,A=>some (bk,A)
 |h::hs,k,bk,A=>if En A bk h ends then(put f k t h ends bk A).bind fun r=>zb f t ends hs (k+1) r.2.1 r.2.2 else none
noncomputable def ld(f:List Bool→Bool)(t:Nat)(ends:List (List Bool))(k:Nat)(h:List Bool)(b:Bool)(s:List (List Bool)×ae×bJ×List Nat):Option (List (List Bool)×ae×bJ×List Nat):=
 if(En s.2.2.1 s.2.1 (h++[b]) ends&&decide (s.1.length<40))&&decide (s.2.2.2.length<40)then(put f s.1.length t (h++[b]) ends s.2.1 s.2.2.1).bind fun r=>some (if r.1=s.1.length then s.1++[h++[b]]else s.1,r.2.1,r.2.2,s.2.2.2++[r.1])else none
noncomputable def lZ(f:List Bool→Bool)(t:Nat)(ends:List (List Bool)):Nat→Nat→List (List Bool)→ae→bJ→fF→Option (List (List Bool)×ae×bJ×fF)
 |0,_,hs,bk,A,mv=>some (hs,bk,A,mv)
 |n+1,k,hs,bk,A,mv=>match hs[k]? with
  |none=>lZ f t ends n (k+1) hs bk A mv
  |some h=>if decide (A.length<190)&&decide (h.length<90)then(ld f t ends k h false (hs,bk,(ask f h A).2,[])).bind fun s=>(ld f t ends k h true s).bind fun s=>lZ f t ends n (k+1) s.1 s.2.1 s.2.2.1 (mv++[((ask f h A).1,s.2.2.2)])else none
noncomputable def H7(hs es:List (List Bool))(A:bJ)(w:List Bool):Bool:=decide (A.length<190)&&(decide (w.length<40)&&(hs.all (fun h=>decide (h.length<40))&&(decide (hs.length<200)&&decide (es.length<200))))
noncomputable def GQ(es:List (List Bool))(w:List Bool)(r:Nat×List Nat×bJ):Bool:=decide (1≤r.1)&&(decide (r.1≤w.length)&&(!(es.contains (w.drop r.1))&&(!(r.2.1.contains 0)&&(decide (2^r.2.1.length≤2*w.length)&&decide (r.2.1.length<100)))))
structure D9 where
 hs:List (List Bool)
 es:List (List Bool)
 bk:ae
 mv:fF
 A:bJ
noncomputable def lrn(f:List Bool→Bool)(ow:fF):Nat→Nat→List (List Bool)→List (List Bool)→bJ→Option D9
 |0,_,_,_,_=>none
 |n+1,t,hs,es,A=>(zb f t es hs 0 [] A).bind fun p=>(lZ f t es 8 0 hs p.1 p.2 []).bind fun s=>(EF s.2.2.2 ow 99 0 [(0,0,[])]).bind fun r=>match r with
  |none=>some ⟨s.1,es,s.2.1,s.2.2.2,s.2.2.1⟩
  |some w=>(CD s.2.2.2 w 0).bind fun tr=>if H7 s.1 es s.2.2.1 w then(fJ f w s.1 (0::tr) (ask f w s.2.2.1).1 60 1 (w.length+1) [] (ask f w s.2.2.1).2).bind fun r=>if GQ es w r then lrn f ow n (t+1) s.1 (es++[w.drop r.1]) r.2.2 else none else none
noncomputable def Lg:af:=(cV (dB 24)).names
noncomputable def Ld(D:Wd)(ow:V)(ra en he:Nat)(tu bo mo pl at_ le wo tr th ps lo lk cu:Option V):fP:=[(u "world",some D.v),(u "own",some ow),(u "asked",some (.ref ra)),(u "letters",some (.str [D.c0,D.c1])),(u "ends",some (.ref en)),(u "turn",tu),(u "book",bo),(u "moves",mo),(u "place",pl),(u "at",at_),(u "letter",le),(u "places",ps),(u "look",lk),(u "cut",cu),(u "heads",some (.ref he)),(u "looks",lo),(u "trail",tr),(u "truth",th),(u "word",wo)]
noncomputable abbrev kT:Option gN:=some (oW "look" 0)
noncomputable def iP(cl:Option gN)(D:Wd)(ow:V)(ra en he:Nat)(tu bo mo pl at_ le wo tr th ps lo lk cu:Option V):List Fr:=[⟨Lg,Ld D ow ra en he tu bo mo pl at_ le wo tr th ps lo lk cu,false,0,cl⟩]
noncomputable def Kp:Stmt:=aX (fm ni) 1
noncomputable def H8:Stmt:=aX (fm ni) 2
theorem a8{D:Wd}(l:List (List Bool)):(aF (l.map (cd D.c0 D.c1))).length=l.length:=by rw[aF,length_map,length_map]
theorem j0{D:Wd}{l:List (List Bool)}{i:Nat}(e:l[i]? =some h):(aF (l.map (cd D.c0 D.c1)))[i]? =some (.str (cd D.c0 D.c1 h)):=by rw[aF,getElem?_map,getElem?_map,e];rfl
structure LS (O:Oj) (ra:Nat) (D:Wd) (S:Oj) (A:bJ) (hs es:List (List Bool)):Prop where
 take:S.take O.length=O.set ra (.dS (aN D.c0 D.c1 A))
 en:lA S O.length=some (aF (es.map (cd D.c0 D.c1)))
 he:lA S (O.length+1)=some (aF (hs.map (cd D.c0 D.c1)))
theorem LS.asked{O S:Oj}{ra:Nat}{D:Wd}{A:bJ}{hs es:List (List Bool)}(L:LS O ra D S A hs es)(h:ra<O.length):S[ra]? =some (.dS (aN D.c0 D.c1 A)):=by
 have e:(S.take O.length)[ra]? =some (.dS (aN D.c0 D.c1 A)):=by rw[L.take];exact getElem?_set_self h
 rwa[List.getElem?_take_of_lt h]at e
theorem LS.ask{O S:Oj}{ra:Nat}{D:Wd}{A A':bJ}{hs es:List (List Bool)}(L:LS O ra D S A hs es)(h:ra<O.length):LS O ra D (S.set ra (.dS (aN D.c0 D.c1 A'))) A' hs es:=
 ⟨by rw[List.take_set,L.take,set_set],aM (ab (aL L.en) (ne_of_lt h)),aM (ab (aL L.he) (ne_of_lt (lt_succ_of_lt h)))⟩
theorem LS.set{O S:Oj}{ra j:Nat}{o:aT}{D:Wd}{A:bJ}{hs es:List (List Bool)}(L:LS O ra D S A hs es)(h:O.length+1<j):LS O ra D (S.set j o) A hs es:=
 ⟨bU L.take (le_of_lt (lt_of_succ_lt h)),aM (ab (aL L.en) (ne_of_gt (lt_of_succ_lt h))),aM (ab (aL L.he) (ne_of_gt h))⟩
theorem LS.app{O S X:Oj}{ra:Nat}{D:Wd}{A:bJ}{hs es:List (List Bool)}(L:LS O ra D S A hs es):LS O ra D (S++X) A hs es:=
 ⟨fg L.take (GI (aL L.en) (le_refl _)),aM (eX (aL L.en)),aM (eX (aL L.he))⟩
theorem LS.head{O S:Oj}{ra:Nat}{D:Wd}{A:bJ}{hs es hs':List (List Bool)}(L:LS O ra D S A hs es):LS O ra D (S.set (O.length+1) (.list (aF (hs'.map (cd D.c0 D.c1))))) A hs' es:=
 ⟨bU L.take (le_succ _),aM (ab (aL L.en) (Nat.succ_ne_self _)),ac L.he⟩
theorem AV{f:List Bool→Bool}{h:List Bool}:∀(es:List (List Bool)) (k:Nat) (A:bJ),jo (di f h es k A).1+2^k≤2^(k+es.length)
 |[],k,_=>le_of_eq (zero_add _)
 |e::es,k,A=>by
  have ih:=AV (f:=f) (h:=h) es (k+1) (ask f (h++e) A).2
  rw[length_cons,add_comm es.length 1, ←add_assoc]
  have e2:2^(k+1)=2^k+2^k:=Nat.mul_two _
  have e3:0<2^k:=pow_pos (by decide)
  show jo (if(ask f (h++e) A).1 then _ else _)+_≤_
  split
  ·have e1:jo (k::(di f h es (k+1) (ask f (h++e) A).2).1)=2^k+jo (di f h es (k+1) (ask f (h++e) A).2).1:=by rw[jo,map_cons,sum_cons];rfl
   rw[e1];exact le_trans (le_of_eq (by rw[Nat.pow_succ,Nat.mul_two,add_comm (2^k),add_assoc])) ih
  ·exact le_trans (add_le_add_left (pow_le_pow_right (by decide) (le_succ k)) _) ih
theorem A7{D:Wd}{f:List Bool→Bool}{O S:Oj}{ra br:Nat}{ends hs:List (List Bool)}{bk:ae}{A:bJ}(H:eZ D f)(hb:D.base<34)(L:LS O ra D S A hs ends)(hra:ra<O.length)(hbr:lA S br=some (aQ (2^D.base) bk))(g:En A bk h ends=true):B9 D f S ra br (.ref O.length) h ends bk A:=by
 obtain⟨g1,g⟩:=and_eq_true_iff.mp g
 obtain⟨g2,g⟩:=and_eq_true_iff.mp g
 obtain⟨g3,g⟩:=and_eq_true_iff.mp g
 obtain⟨g4,g5⟩:=and_eq_true_iff.mp g
 have g1:=of_decide_eq_true g1
 have g2:=of_decide_eq_true g2
 have g3:=of_decide_eq_true g3
 have g5:=of_decide_eq_true g5
 refine⟨H,lt_trans g3 (by decide),fun e he=>lt_trans (of_decide_eq_true (all_eq_true.mp g4 e he)) (by decide),lt_trans hb (by decide),lt_trans g5 (by decide),lt_trans g1 (by decide),lt_trans g2 (by decide),L.en,L.asked hra,hbr,?_⟩
 have h1:=AV (f:=f) (h:=h) ends 0 A
 have h2:jo (di f h ends 0 A).1<2^20:=by
  refine lt_of_lt_of_le (lt_of_lt_of_le (lt_succ_self _) h1) ?_
  rw[zero_add]
  exact pow_le_pow_right (by decide) (le_of_lt g5)
 exact lt_of_lt_of_le (Nat.mul_lt_mul_of_lt_of_le h2 (pow_le_pow_right (by decide) (le_of_lt hb)) (pow_pos (by decide))) (by decide)
section
variable {n b ra bo:Nat} {O S:Oj} {D:Wd} {f:List Bool→Bool} {A:bJ} {hs es:List (List Bool)} {ow:V} {mo pl at_ le wo tr th ps lo lk cu:Option V} {cl:Option gN} {t:Nat} {Q:Fl→List Fr→Oj→Prop}
theorem kp(h:cl=none∨cl=kT)(hx:(u "look"==x)=false):e9 cl x=cl:=by
 rcases h with rfl|rfl
 ·rfl
 ·show(if(u "look"==x)=true then none else kT)=kT
  rw[hx];rfl
theorem ko(h:cl=none∨cl=kT)(hx:(u "look"==x)=false):e9 cl x=none∨e9 cl x=kT:=by rw[kp h hx];exact h
section
variable {J:WI} {N:af} {X:fP} {B:Bool} {k:Nat} {c d:Option gN}
theorem Jp(e:c=d)(h:Q .next [⟨N,X,B,k,d⟩] O):Q .next [⟨N,X,B,k,c⟩] O:=e▸h
theorem Ky(e:c=d)(h:xs J body [⟨N,X,B,k,d⟩] b Q O):xs J body [⟨N,X,B,k,c⟩] b Q O:=e▸h
theorem MZ{tgt:Expr}{els:List Stmt}{g:Nat}{src:gV}(e:c=d)(h:fY J tgt body els b Q g src [⟨N,X,B,k,d⟩] O):fY J tgt body els b Q g src [⟨N,X,B,k,c⟩] O:=e▸h
end
theorem yH(H:eZ D f)(hbase:D.base<34)(hra:ra<O.length)(hbo:O.length+1<bo)(rest:List (List Bool))(hcl:cl=none∨cl=kT):∀(k g:Nat) (S:Oj) (bk:ae) (A:bJ) (r:ae×bJ) (pl:Option V),hs.drop k=rest→rest.length<g→hs.length<200→zb f t es rest k bk A=some r→LS O ra D S A hs es→lA S bo=some (aQ (2^D.base) bk)→
 (∀S2 pl,LS O ra D S2 r.2 hs es→S2=(S.set ra (.dS (aN D.c0 D.c1 r.2))).set bo (.list (aQ (2^D.base) r.1))→Q .next (iP cl D ow ra O.length (O.length+1) (some (.int (t:Nat))) (some (.ref bo)) mo pl at_ le wo tr th ps lo lk cu) S2)→
 fY (W G3 (n+110)) (xC Kp) (fm Kp) (xD Kp) b Q g (.items (kg (range' k rest.length))) (iP cl D ow ra O.length (O.length+1) (some (.int (t:Nat))) (some (.ref bo)) mo pl at_ le wo tr th ps lo lk cu) S:=by
 induction rest with
 |nil=>
  intro k g S bk A r pl hd hg hl hp L hb q
  cases g with
  |zero=>exact absurd hg (not_lt_zero _)
  |succ g=>
   obtain rfl:=sI hp
   refine q S pl L ?_
   exact Eq.symm (bV (L.asked hra))▸Eq.symm (bV (aL hb))▸rfl
 |cons h rest ih=>
  intro k g S bk A r pl hd hg hl hp L hb q
  cases g with
  |zero=>exact absurd hg (not_lt_zero _)
  |succ g=>
   have hk:hs[k]? =some h:=by rw[←List.head?_drop,hd];rfl
   have hd':hs.drop (k+1)=rest:=by rw[←List.tail_drop,hd];rfl
   replace hp:(if En A bk h es then _ else none)=some r:=hp
   cases hg1:En A bk h es with
   |false=>rw[hg1]at hp;exact nomatch hp
   |true=>
    rw[if_pos hg1]at hp
    refine hG fun _ kk=>?_
    obtain⟨⟨p,bk',A'⟩,hp1,hp⟩:=gU hp
    refine kk ?_
    have hne:ra≠bo:=ne_of_lt (lt_trans hra (lt_of_succ_lt hbo))
    have hl3:(aF (hs.map (cd D.c0 D.c1))).length<300:=by rw[a8];exact lt_trans hl (by decide)
    show xs _ _ _ _ _ _
    have L2:=(L.ask (A':=A') hra).set (o:=.list (aQ (2^D.base) bk')) hbo
    have hb2:lA ((S.set ra (.dS (aN D.c0 D.c1 A'))).set bo (.list (aQ (2^D.base) bk'))) bo=some (aQ (2^D.base) bk'):=ac (aM (ab (aL hb) hne))
    have hS:∀x y,((((S.set ra (.dS (aN D.c0 D.c1 A'))).set bo (.list (aQ (2^D.base) bk'))).set ra x).set bo y)=(S.set ra x).set bo y:=fun x y=>by rw[List.set_comm _ _ (Ne.symm hne),set_set,set_set]
    refine lf (ay (v:=.ref (O.length+1)) (k:=k) L.he hl3 (j0 hk)) (rB (A7 H hbase L hra hb hg1) hne hp1 (MZ (kp hcl rfl) ?_))
    exact ih (k+1) g _ bk' A' r _ hd' (lt_of_succ_lt_succ hg) hl hp L2 hb2 fun S2 pl L e=>q S2 pl L (e.trans (hS _ _))
end
set_option backward.match.sparseCases true
end
set_option backward.match.sparseCases false
noncomputable def MK:Stmt:=aX (IQ (aX (fm H8) 0)) 1
theorem GU{O:Oj}{r:Nat}{l:List V}{v:V}(h:lA O r=some (l++[v]))(hl:l.length<290):cN O (.ref r) (.int (-1))=some v:=by
 refine(jS (v:=.ref r) h).trans ?_
 refine bs (f:=fun l=>uE l (-1)) h ?_
 rw[uE,if_pos (by rfl),jP (by rw[length_append];exact succ_pos _)]
 show(l++[v])[_]? =_
 rw[length_append,List.length_singleton,Nat.add_sub_cancel,getElem?_append_right (le_refl _),sub_self];rfl
section
variable {n b ra bo mo rr k:Nat} {O S:Oj} {D:Wd} {f:List Bool→Bool} {A A':bJ} {hs hs' es:List (List Bool)} {bk bk':ae} {row row':List Nat} {ow:V} {pl le wo tr th ps lo lk cu:Option V} {cl:Option gN} {t:Nat} {Q:Fl→List Fr→Oj→Prop} {rsV:List V} {h:List Bool} {b0 c:Bool}
theorem wu{r:List (List Bool)×ae×bJ×List Nat}(H:eZ D f)(hbase:D.base<34)(hra:ra<O.length)(hbo:O.length+1<bo)(hmo:bo<mo)(hrr:mo<rr)(hcl:cl=none∨cl=kT)(hst:ld f t es k h c (hs,bk,A,row)=some r)(hk:hs[k]? =some h)
 (L:LS O ra D S A hs es) (hb:lA S bo=some (aQ (2^D.base) bk)) (hM:lA S mo=some rsV) (hMl:rsV.length<290) (hMk:rsV[k]? =some (.ref rr)) (hR:lA S rr=some (.bool b0::aC row))
 (q:∀S',LS O ra D S' r.2.2.1 r.1 es→lA S' bo=some (aQ (2^D.base) r.2.1)→(∀j,bo<j→j≠rr→S'[j]? =S[j]?)→lA S' rr=some (.bool b0::aC r.2.2.2)→Q .next (iP cl D ow ra O.length (O.length+1) (some (.int (t:Nat))) (some (.ref bo)) (some (.ref mo)) pl (some (.int (k:Nat))) (some (.str [sg D.c0 D.c1 c])) wo tr th ps lo lk cu) S'):
 xs (W G3 (n+110)) (fm MK) (iP cl D ow ra O.length (O.length+1) (some (.int (t:Nat))) (some (.ref bo)) (some (.ref mo)) pl (some (.int (k:Nat))) (some (.str [sg D.c0 D.c1 c])) wo tr th ps lo lk cu) b Q S:=by
 unfold ld at hst
 dsimp only at hst
 by_cases hG:(En A bk (h++[c]) es&&decide (hs.length<40)&&decide (row.length<40))=true
 case neg=>rw[if_neg hG]at hst;exact nomatch hst
 rw[if_pos hG]at hst
 obtain⟨g,g3⟩:=and_eq_true_iff.mp hG
 obtain⟨g1,g2⟩:=and_eq_true_iff.mp g
 have g2:=of_decide_eq_true g2
 have g3:=of_decide_eq_true g3
 obtain⟨⟨p,bk2,A2⟩,hp,e⟩:=gU hst
 have hne:ra≠bo:=ne_of_lt (lt_trans hra (lt_of_succ_lt hbo))
 have hl3:(aF (hs.map (cd D.c0 D.c1))).length<300:=by rw[a8];exact lt_trans g2 (by decide)
 have hl4:((aF (hs.map (cd D.c0 D.c1))).length:Int)=(hs.length:Int):=by rw[a8]
 have hh:h.length<39:=by
  obtain⟨_,g⟩:=and_eq_true_iff.mp g1
  obtain⟨_,g⟩:=and_eq_true_iff.mp g
  have:=of_decide_eq_true (and_eq_true_iff.mp g).1
  rw[length_append]at this
  exact lt_of_succ_lt this
 have ecd:cd D.c0 D.c1 h++[sg D.c0 D.c1 c]=cd D.c0 D.c1 (h++[c]):=(j4 _ _ h [c]).symm
 have hsM:rsV.length<300:=lt_trans hMl (by decide)
 have hrow:(V.bool b0::aC row).length<300:=by rw[length_cons,aJ];exact lt_trans (succ_lt_succ g3) (by decide)
 have hrow2:(V.bool b0::aC row).length<290:=by rw[length_cons,aJ];exact lt_trans (succ_lt_succ g3) (by decide)
 have n1:ra≠rr:=ne_of_lt (lt_trans hra (lt_trans (lt_of_succ_lt hbo) (lt_trans hmo hrr)))
 have n2:bo≠rr:=ne_of_lt (lt_trans hmo hrr)
 have n3:ra≠mo:=ne_of_lt (lt_trans hra (lt_trans (lt_of_succ_lt hbo) hmo))
 have n4:bo≠mo:=ne_of_lt hmo
 have hR2:lA ((S.set ra (.dS (aN D.c0 D.c1 A2))).set bo (.list (aQ (2^D.base) bk2))) rr=some (.bool b0::aC row):=aM (ab (ab (aL hR) n1) n2)
 have L2:=(L.ask (A':=A2) hra).set (o:=.list (aQ (2^D.base) bk2)) hbo
 have L3:=L2.set (j:=rr) (o:=.list ((.bool b0::aC row)++[.int (p:Nat)])) (lt_trans (lt_trans hbo hmo) hrr)
 have hb2:lA ((S.set ra (.dS (aN D.c0 D.c1 A2))).set bo (.list (aQ (2^D.base) bk2))) bo=some (aQ (2^D.base) bk2):=ac (aM (ab (aL hb) hne))
 have hb3:lA (((S.set ra (.dS (aN D.c0 D.c1 A2))).set bo (.list (aQ (2^D.base) bk2))).set rr (.list ((.bool b0::aC row)++[.int (p:Nat)]))) bo=some (aQ (2^D.base) bk2):=aM (ab (aL hb2) (Ne.symm n2))
 have hM3:lA (((S.set ra (.dS (aN D.c0 D.c1 A2))).set bo (.list (aQ (2^D.base) bk2))).set rr (.list ((.bool b0::aC row)++[.int (p:Nat)]))) mo=some rsV:=aM (ab (ab (ab (aL hM) n3) n4) (ne_of_gt hrr))
 have hR3:lA (((S.set ra (.dS (aN D.c0 D.c1 A2))).set bo (.list (aQ (2^D.base) bk2))).set rr (.list ((.bool b0::aC row)++[.int (p:Nat)]))) rr=some ((.bool b0::aC row)++[.int (p:Nat)]):=ac hR2
 have hfar:∀j,bo<j→j≠rr→(((S.set ra (.dS (aN D.c0 D.c1 A2))).set bo (.list (aQ (2^D.base) bk2))).set rr (.list ((.bool b0::aC row)++[.int (p:Nat)])))[j]? =S[j]? :=fun j h1 h2=>by
  rw[getElem?_set_ne (Ne.symm h2),getElem?_set_ne (ne_of_lt h1),getElem?_set_ne (ne_of_lt (lt_trans (lt_trans hra (lt_of_succ_lt hbo)) h1))]
 have erow:(V.bool b0::aC row)++[V.int (p:Nat)]=.bool b0::aC (row++[p]):=by rw[cn];rfl
 have eh:aF ((hs++[h++[c]]).map (cd D.c0 D.c1))=aF (hs.map (cd D.c0 D.c1))++[.str (cd D.c0 D.c1 h++[sg D.c0 D.c1 c])]:=by
  rw[aF,map_append,map_append,ecd];rfl
 refine lf (ay (v:=.ref mo) (k:=k) hM hsM hMk) (lf (dX hR rfl) (lf (ai (v:=.ref (O.length+1)) L.he hl3) ?_))
 refine lf (ay (v:=.ref (O.length+1)) (k:=k) L.he hl3 (j0 hk)) (lf (dP (by rw[aS];exact lt_trans (succ_lt_succ hh) (by decide))) ?_)
 refine Eq.symm (hl4)▸Eq.symm (ecd)▸?_
 refine rB (A7 H hbase L hra hb g1) hne hp (lf (bP hR2 hrow (iD rfl)) ?_)
 refine lf (ay (v:=.ref mo) (k:=k) hM3 hsM hMk) (lf (GU hR3 hrow2) (lf (ai (v:=.ref (O.length+1)) L3.he hl3) ?_))
 rw[hl4]
 refine sd (p:=((p:Int)=(hs.length:Int))) (fun hpe=>?_) fun hpe=>?_
 ·have hpe:=Int.ofNat.inj hpe
  rw[if_pos hpe]at e
  clear hst
  obtain rfl:=sI e
  refine lf (dX L3.he rfl) (lf (ay (v:=.ref (O.length+1)) (k:=k) L3.he hl3 (j0 hk)) (lf (dP (by rw[aS];exact lt_trans (succ_lt_succ hh) (by decide))) (lf (bP L3.he hl3 (iD rfl)) ?_)))
  exact eh▸q _ L3.head (aM (ab (aL hb3) (ne_of_lt hbo))) (fun j h1 h2=>(getElem?_set_ne (ne_of_lt (lt_trans hbo h1))).trans (hfar j h1 h2)) (erow▸aM (ab (aL hR3) (ne_of_lt (lt_trans (lt_trans hbo hmo) hrr))))
 ·rw[if_neg fun z=>hpe (congrArg Int.ofNat z)]at e
  clear hst
  obtain rfl:=sI e
  exact q _ L3 hb3 hfar (erow▸hR3)
end
set_option backward.match.sparseCases true
set_option backward.match.sparseCases false
structure FJ (S:Oj) (mo:Nat) (mv:fF) (rs:List Nat):Prop where
 at_:lA S mo=some (rs.map V.ref)
 len:rs.length=mv.length
 row:∀(i:Nat) p r,mv[i]? =some p→rs[i]? =some r→mo<r∧r<S.length∧lA S r=some (.bool p.1::aC p.2)
theorem FJ.tab{S:Oj}{mo:Nat}{mv:fF}{rs:List Nat}(R:FJ S mo mv rs):i8 S (.ref mo) mv:=⟨rs.map V.ref,R.at_,by rw[length_map,R.len],fun i p hp=>by
 have hi:i<rs.length:=by rw[R.len];exact(List.getElem?_eq_some_iff.mp hp).1
 have hr:=getElem?_eq_getElem hi
 exact⟨.ref rs[i],by rw[getElem?_map,hr];rfl,(R.row i p _ hp hr).2.2⟩⟩
theorem j6{O:Oj}{i:Nat}{l:List V}(h:lA O i=some l):i<O.length:=(List.getElem?_eq_some_iff.mp (aL h)).1
theorem Le{O:Oj}{c0 c1:Nat}:gb O (.str [c0,c1])=some (.items [.str [c0],.str [c1]]):=by kernel_rfl!
theorem oB{f:List Bool→Bool}{t k:Nat}{ends:List (List Bool)}{h:List Bool}{b:Bool}{s s':List (List Bool)×ae×bJ×List Nat}(e:ld f t ends k h b s=some s'):s'.2.2.2.length=s.2.2.2.length+1∧s'.1.length<200∧s'.2.2.2.length<100∧(∀(i:Nat) x,s.1[i]? =some x→s'.1[i]? =some x):=by
 unfold ld at e
 by_cases hG:(En s.2.2.1 s.2.1 (h++[b]) ends&&decide (s.1.length<40)&&decide (s.2.2.2.length<40))=true
 case neg=>rw[if_neg hG]at e;exact nomatch e
 rw[if_pos hG]at e
 obtain⟨g,g3⟩:=and_eq_true_iff.mp hG
 obtain⟨g1,g2⟩:=and_eq_true_iff.mp g
 have g2:=of_decide_eq_true g2
 have g3:=of_decide_eq_true g3
 obtain⟨r,hr,e⟩:=gU e
 obtain rfl:=sI e
 have e2:(s.2.2.2++[r.1]).length=s.2.2.2.length+1:=length_append
 refine⟨e2,?_,e2▸lt_trans (succ_lt_succ g3) (by decide),?_⟩
 ·show(if r.1=s.1.length then s.1++[h++[b]]else s.1).length<200
  split
  ·rw[length_append];exact lt_trans (succ_lt_succ g2) (by decide)
  ·exact lt_trans g2 (by decide)
 ·show ∀(i:Nat) x,s.1[i]? =some x→(if r.1=s.1.length then s.1++[h++[b]]else s.1)[i]? =some x
  split
  ·exact fun i x hx=>by rw[getElem?_append_left (List.getElem?_eq_some_iff.mp hx).1];exact hx
  ·exact fun i x hx=>hx
section
variable {n b ra bo mo:Nat} {O:Oj} {D:Wd} {f:List Bool→Bool} {es:List (List Bool)} {ow:V} {pl wo tr th ps lo lk cu:Option V} {cl:Option gN} {t:Nat} {Q:Fl→List Fr→Oj→Prop}
theorem GL(H:eZ D f)(hbase:D.base<34)(hra:ra<O.length)(hbo:O.length+1<bo)(hmo:bo<mo)(hbm:b≤mo)(hcl:cl=none∨cl=kT)(m:Nat):∀(k g:Nat) (S:Oj) (hs:List (List Bool)) (bk:ae) (A:bJ) (mv:fF) (rs:List Nat) (r:List (List Bool)×ae×bJ×fF) (at_ le:Option V),lZ f t es m k hs bk A mv=some r→m<g→k+m<200→hs.length<200→(mv.length=k∨hs.length≤k)→mv.length≤k→LS O ra D S A hs es→lA S bo=some (aQ (2^D.base) bk)→FJ S mo mv rs→(∀p∈mv,p.2.length<290)→
 (∀S' rs' at_ le,LS O ra D S' r.2.2.1 r.1 es→lA S' bo=some (aQ (2^D.base) r.2.1)→FJ S' mo r.2.2.2 rs'→(∀p∈r.2.2.2,p.2.length<290)→r.2.2.2.length≤k+m→Q .next (iP cl D ow ra O.length (O.length+1) (some (.int (t:Nat))) (some (.ref bo)) (some (.ref mo)) pl at_ le wo tr th ps lo lk cu) S')→
 fY (W G3 (n+114)) (xC H8) (fm H8) (xD H8) b Q g (.items (kg (range' k m))) (iP cl D ow ra O.length (O.length+1) (some (.int (t:Nat))) (some (.ref bo)) (some (.ref mo)) pl at_ le wo tr th ps lo lk cu) S:=by
 induction m with
 |zero=>
  intro k g S hs bk A mv rs r at_ le hst hg hk hl hml hmle L hb R hmr q
  cases g with
  |zero=>exact absurd hg (not_lt_zero _)
  |succ g=>obtain rfl:=sI hst;exact q S rs at_ le L hb R hmr hmle
 |succ m ih=>
  intro k g S hs bk A mv rs r at_ le hst hg hk hl hml hmle L hb R hmr q
  cases g with
  |zero=>exact absurd hg (not_lt_zero _)
  |succ g=>
   have hk1:k+1+m<200:=by rw[succ_add];exact hk
   have hl3:(aF (hs.map (cd D.c0 D.c1))).length<300:=by rw[a8];exact lt_trans hl (by decide)
   have hl4:((aF (hs.map (cd D.c0 D.c1))).length:Int)=(hs.length:Int):=by rw[a8]
   replace hst:(match hs[k]? with
    |none=>lZ f t es m (k+1) hs bk A mv
    |some h=>_)=some r:=hst
   show xs _ _ _ _ _ _
   cases hh:hs[k]? with
   |none=>
    rw[hh]at hst
    have hge:=List.getElem?_eq_none_iff.mp hh
    refine Ky (kp hcl rfl) (lf (ai (v:=.ref (O.length+1)) L.he hl3) ?_)
    rw[hl4]
    refine sd (p:=((k:Int)<(hs.length:Int))) (fun z=>absurd (ofNat_lt.mp z) (Nat.not_lt.mpr hge)) fun _=>?_
    exact ih (k+1) g S hs bk A mv rs r _ le hst (lt_of_succ_lt_succ hg) hk1 hl (.inr (le_succ_of_le hge)) (le_succ_of_le hmle) L hb R hmr fun S' rs' at_ le h1 h2 h3 h4 h5=>q S' rs' at_ le h1 h2 h3 h4 (le_trans h5 (le_of_eq (succ_add k m)))
   |some h=>
    have hst:=(hh)▸hst
    dsimp only at hst
    have hlt:=(List.getElem?_eq_some_iff.mp hh).1
    have hmk:mv.length=k:=hml.resolve_right (Nat.not_le.mpr hlt)
    by_cases hG:(decide (A.length<190)&&decide (h.length<90))=true
    case neg=>rw[if_neg hG]at hst;exact nomatch hst
    rw[if_pos hG]at hst
    obtain⟨g1,g2⟩:=and_eq_true_iff.mp hG
    have g1:=of_decide_eq_true g1
    have g2:=of_decide_eq_true g2
    obtain⟨⟨hs1,bk1,A1,row1⟩,e1,hst⟩:=gU hst
    obtain⟨⟨hs2,bk2,A2,row2⟩,e2,hst⟩:=gU hst
    obtain⟨z1,z2,z4,z3⟩:=oB e1
    obtain⟨y1,y2,y4,y3⟩:=oB e2
    have hrsl:rs.length=k:=R.len.trans hmk
    have hrk:((rs++[S.length]).map V.ref)[k]? =some (.ref S.length):=by rw[getElem?_map,getElem?_append_right (le_of_eq hrsl),hrsl,sub_self];rfl
    have hmoS:mo<S.length:=j6 R.at_
    have hboS:bo<S.length:=j6 hb
    have hS1:(S.set ra (.dS (aN D.c0 D.c1 (ask f h A).2))).length=S.length:=length_set
    have L1:=((L.ask (A':=(ask f h A).2) hra).app (X:=[aT.list [.bool (ask f h A).1]])).set (j:=mo) (o:=.list ((rs++[S.length]).map V.ref)) (lt_trans hbo hmo)
    have hM0:lA (S.set ra (.dS (aN D.c0 D.c1 (ask f h A).2))++[aT.list [.bool (ask f h A).1]]) mo=some (rs.map V.ref):=aM (eX (ab (aL R.at_) (ne_of_lt (lt_trans hra (lt_trans (lt_of_succ_lt hbo) hmo)))))
    have hb1:lA ((S.set ra (.dS (aN D.c0 D.c1 (ask f h A).2))++[aT.list [.bool (ask f h A).1]]).set mo (.list ((rs++[S.length]).map V.ref))) bo=some (aQ (2^D.base) bk):=aM (ab (eX (ab (aL hb) (ne_of_lt (lt_trans hra (lt_of_succ_lt hbo))))) (ne_of_gt hmo))
    have hM1:lA ((S.set ra (.dS (aN D.c0 D.c1 (ask f h A).2))++[aT.list [.bool (ask f h A).1]]).set mo (.list ((rs++[S.length]).map V.ref))) mo=some ((rs++[S.length]).map V.ref):=ac hM0
    have hR1:lA ((S.set ra (.dS (aN D.c0 D.c1 (ask f h A).2))++[aT.list [.bool (ask f h A).1]]).set mo (.list ((rs++[S.length]).map V.ref))) S.length=some (.bool (ask f h A).1::aC []):=aM (ab (hS1▸getElem?_concat_length) (ne_of_lt hmoS))
    have hfar:∀j,bo<j→j≠S.length→j≠mo→((S.set ra (.dS (aN D.c0 D.c1 (ask f h A).2))++[aT.list [.bool (ask f h A).1]]).set mo (.list ((rs++[S.length]).map V.ref)))[j]? =S[j]? :=fun j h1 h2 h3=>by
     rw[getElem?_set_ne (Ne.symm h3)]
     rcases Nat.lt_or_gt_of_ne h2 with h4|h4
     ·rw[getElem?_append_left (by rw[hS1];exact h4),getElem?_set_ne (ne_of_lt (lt_trans hra (lt_trans (lt_of_succ_lt hbo) h1)))]
     ·rw[getElem?_eq_none (by rw[length_append,hS1];exact h4),getElem?_eq_none (le_of_lt h4)]
    have hrs290:((rs++[S.length]).map V.ref).length<290:=by rw[length_map,length_append,hrsl];exact lt_of_le_of_lt (le_add_right _ _) (lt_trans hk1 (by decide))
    have hrl:(rs.map V.ref).length<300:=by rw[length_map,hrsl];exact lt_trans (lt_of_le_of_lt (le_add_right _ _) hk) (by decide)
    have step:∀{Q:Fl→List Fr→Oj→Prop} (q2:∀S' rs' le,LS O ra D S' A2 hs2 es→lA S' bo=some (aQ (2^D.base) bk2)→FJ S' mo (mv++[((ask f h A).1,row2)]) rs'→Q .next (iP cl D ow ra O.length (O.length+1) (some (.int (t:Nat))) (some (.ref bo)) (some (.ref mo)) pl (some (.int (k:Nat))) le wo tr th ps lo lk cu) S'),xs (W G3 (n+114)) (fm H8) (iP cl D ow ra O.length (O.length+1) (some (.int (t:Nat))) (some (.ref bo)) (some (.ref mo)) pl (some (.int (k:Nat))) le wo tr th ps lo lk cu) b Q S:=fun {Q} q2=>by
     have fin:∀S1' S2':Oj,(∀j,bo<j→j≠S.length→S1'[j]? =((S.set ra (.dS (aN D.c0 D.c1 (ask f h A).2))++[aT.list [.bool (ask f h A).1]]).set mo (.list ((rs++[S.length]).map V.ref)))[j]?)→(∀j,bo<j→j≠S.length→S2'[j]? =S1'[j]?)→lA S2' S.length=some (.bool (ask f h A).1::aC row2)→FJ S2' mo (mv++[((ask f h A).1,row2)]) (rs++[S.length]):=fun S1' S2' f1 f2 hr=>by
      refine⟨aM (((f2 mo hmo (ne_of_lt hmoS)).trans (f1 mo hmo (ne_of_lt hmoS))).trans (aL hM1)),by rw[length_append,length_append,R.len];rfl,fun i p r hp hr'=>?_⟩
      rcases Nat.lt_or_ge i k with hi|hi
      ·rw[getElem?_append_left (by rw[hmk];exact hi)]at hp
       rw[getElem?_append_left (by rw[hrsl];exact hi)]at hr'
       obtain⟨r1,r2,r3⟩:=R.row i p r hp hr'
       refine⟨r1,lt_trans r2 (j6 hr),aM ?_⟩
       rw[f2 r (lt_trans hmo r1) (ne_of_lt r2),f1 r (lt_trans hmo r1) (ne_of_lt r2),hfar r (lt_trans hmo r1) (ne_of_lt r2) (ne_of_gt r1)]
       exact aL r3
      ·have hi2:i=k:=by
        have:=(List.getElem?_eq_some_iff.mp hp).1
        rw[length_append,hmk]at this
        exact Nat.le_antisymm (le_of_lt_succ this) hi
       clear hk hml hmle q hk1 hh hlt e1 e2 hst hrk q2 hi
       subst hi2
       rw[getElem?_append_right (le_of_eq hmk),hmk,sub_self]at hp
       rw[getElem?_append_right (le_of_eq hrsl),hrsl,sub_self]at hr'
       obtain rfl:=sI hp
       obtain rfl:=sI hr'
       exact⟨hmoS,j6 hr,hr⟩
     refine lf (ai (v:=.ref (O.length+1)) L.he hl3) ?_
     refine Eq.symm (hl4)▸?_
     refine sd (p:=((k:Int)<(hs.length:Int))) (fun _=>?_) fun z=>absurd (ofNat_lt.mpr hlt) z
     refine lf (dX R.at_ rfl) (lf (ay (v:=.ref (O.length+1)) (k:=k) L.he hl3 (j0 hh)) (jZ (D:=D) (f:=f) (A:=A) (w:=h) H (L.asked hra) (lt_trans g1 (by decide)) (lt_trans g2 (by decide)) ?_))
     refine lf (bP hM0 hrl (jq hbm)) ?_
     refine Eq.symm (hS1)▸Eq.symm (show rs.map V.ref++[V.ref S.length]=(rs++[S.length]).map V.ref by rw[map_append];rfl)▸?_
     refine vw (wu (c:=false) H hbase hra hbo hmo hmoS (ko hcl rfl) e1 hh L1 hb1 hM1 hrs290 hrk hR1 fun S1' K1 K2 K3 K4=>?_)
     refine wu (c:=true) H hbase hra hbo hmo hmoS (ko (ko hcl rfl) rfl) e2 (z3 k h hh) K1 K2 (aM ((K3 mo hmo (ne_of_lt hmoS)).trans (aL hM1))) hrs290 hrk K4 fun S2' M1 M2 M3 M4=>?_
     exact Jp ((kp (ko hcl rfl) rfl).trans (kp hcl rfl)) (q2 S2' _ _ M1 M2 (fin S1' S2' K3 M3 M4))
    have hmr2:∀p∈mv++[((ask f h A).1,row2)],p.2.length<290:=fun p hp=>by
     rcases mem_append.mp hp with hp|hp
     ·exact hmr p hp
     ·rw[mem_singleton.mp hp];exact lt_trans y4 (by decide)
    refine Ky (kp hcl rfl) (step fun S' rs' le M1 M2 M3=>?_)
    refine ih (k+1) g S' hs2 bk2 A2 _ rs' r _ le hst (lt_of_succ_lt_succ hg) hk1 y2 (.inl (by rw[length_append,hmk];rfl)) (by rw[length_append,hmk];exact le_refl _) M1 M2 M3 hmr2 fun S' rs' at_ le h1 h2 h3 h4 h5=>q S' rs' at_ le h1 h2 h3 h4 (le_trans h5 (le_of_eq (succ_add k m)))
end
set_option backward.match.sparseCases true
set_option backward.match.sparseCases false
theorem Ao{n b:Nat}{O:Oj}(h:n<300):d5 (u "list") [.rng 0 (n:Nat) 1] b O=some (.ref O.length,O++[.list (aC (List.range n))]):=by
 have e:d5 (u "list") [.rng 0 (n:Nat) 1] b O=(if l4 0 n 1&&lO (bG 0 n 1).length then some ((bG 0 n 1).map V.int)else none).bind fun l=>if lO l.length then some (.ref O.length,O++[.list l])else none:=by kernel_rfl!
 have e2:bG 0 (n:Int) 1=(List.range n).map fun(k:Nat)=>(k:Int):=by
  have:=l5 0 n
  rwa[Nat.sub_zero, ←List.range_eq_range']at this
 have hr:l4 0 (n:Int) 1=true:=zX (a:=0) (c:=n) (by decide) (lt_trans h (by decide))
 have e3:lO (bG 0 (n:Int) 1).length=true:=by rw[e2,length_map,length_range];exact aq h
 rw[e,if_pos (and_eq_true_iff.mpr ⟨hr,e3⟩),e2,Option.bind_some,length_map,length_map,length_range,if_pos (aq h),map_map];rfl
section
variable {n b ra bo mo:Nat} {O S:Oj} {D:Wd} {f:List Bool→Bool} {A A':bJ} {hs es:List (List Bool)} {bk:ae} {own:V} {bo' mo' pl at_ le wo tr th ps lo lk cu:Option V} {cl:Option gN} {t:Nat} {Q:Fl→List Fr→Oj→Prop}
theorem MY(hcl:cl=none∨cl=kT)(q:Q .next (iP cl D own ra O.length (O.length+1) (some (.int (t:Nat))) (some (.ref S.length)) (some (.ref (S.length+1))) pl at_ le wo tr th ps lo lk cu) (S++[aT.list []]++[aT.list []])):
 (W G3 (n+130)).s (aX (fm ni) 0) (iP cl D own ra O.length (O.length+1) (some (.int (t:Nat))) bo' mo' pl at_ le wo tr th ps lo lk cu) b Q S:=by
 have e:(S++[aT.list []]).length=S.length+1:=length_append
 rw[←e]at q
 exact Jp ((kp (ko hcl rfl) rfl).trans (kp hcl rfl)) q
theorem MX{r:ae×bJ}(H:eZ D f)(hbase:D.base<34)(hra:ra<O.length)(hbo:O.length+1<bo)(hcl:cl=none∨cl=kT)(hl:hs.length<200)(hp:zb f t es hs 0 [] A=some r)(L:LS O ra D S A hs es)(hb:lA S bo=some [])
 (q:∀pl,Q .next (iP cl D own ra O.length (O.length+1) (some (.int (t:Nat))) (some (.ref bo)) mo' pl at_ le wo tr th ps lo lk cu) ((S.set ra (.dS (aN D.c0 D.c1 r.2))).set bo (.list (aQ (2^D.base) r.1)))):
 (W G3 (n+130)).s (aX (fm ni) 1) (iP cl D own ra O.length (O.length+1) (some (.int (t:Nat))) (some (.ref bo)) mo' pl at_ le wo tr th ps lo lk cu) b Q S:=by
 have hl3:(aF (hs.map (cd D.c0 D.c1))).length<300:=by rw[a8];exact lt_trans hl (by decide)
 have hl4:((aF (hs.map (cd D.c0 D.c1))).length:Int)=(hs.length:Int):=by rw[a8]
 have hw:∀Q q,_:=fun Q q=>yH (n:=n+19) (mo:=mo') (at_:=at_) (le:=le) (wo:=wo) (tr:=tr) (th:=th) (ps:=ps) (lo:=lo) (lk:=lk) (cu:=cu) (ow:=own) (b:=b) (Q:=Q) H hbase hra hbo hs hcl 0 300 S [] A r pl drop_zero (lt_trans hl (by decide)) hl hp L hb q
 refine lf (ai (v:=.ref (O.length+1)) L.he hl3) ?_
 rw[hl4]
 refine lf (bN rfl (lt_trans hl (by decide))) (lf (dD (lt_trans hl (by decide))) ?_)
 rw[List.range_eq_range']
 exact vw (hw _ fun S2 pl L2 e=>e▸q pl)
theorem MV{r:List (List Bool)×ae×bJ×fF}(H:eZ D f)(hbase:D.base<34)(hra:ra<O.length)(hbo:O.length+1<bo)(hmo:bo<mo)(hbm:b≤mo)(hcl:cl=none∨cl=kT)(hl:hs.length<200)(hst:lZ f t es 8 0 hs bk A []=some r)(L:LS O ra D S A hs es)(hb:lA S bo=some (aQ (2^D.base) bk))(hM:lA S mo=some [])
 (q:∀S' rs' at_ le,LS O ra D S' r.2.2.1 r.1 es→lA S' bo=some (aQ (2^D.base) r.2.1)→FJ S' mo r.2.2.2 rs'→(∀p∈r.2.2.2,p.2.length<290)→r.2.2.2.length≤8→Q .next (iP cl D own ra O.length (O.length+1) (some (.int (t:Nat))) (some (.ref bo)) (some (.ref mo)) pl at_ le wo tr th ps lo lk cu) S'):
 (W G3 (n+130)).s (aX (fm ni) 2) (iP cl D own ra O.length (O.length+1) (some (.int (t:Nat))) (some (.ref bo)) (some (.ref mo)) pl at_ le wo tr th ps lo lk cu) b Q S:=by
 have hw:∀Q q,_:=fun Q q=>GL (n:=n+15) (wo:=wo) (tr:=tr) (th:=th) (ps:=ps) (lo:=lo) (lk:=lk) (cu:=cu) (pl:=pl) (ow:=own) (b:=b) (Q:=Q) H hbase hra hbo hmo hbm hcl 8 0 300 S hs bk A [] [] r at_ le hst (by decide) (by decide) hl (.inl rfl) (le_refl _) L hb ⟨hM,rfl,fun i p r h=>nomatch h⟩ (fun p hp=>nomatch hp) q
 exact vw (hw _ q)
end
set_option backward.match.sparseCases true
section
variable {r:Nat×List Nat×bJ} {w:List Bool} {lr:Nat}
set_option backward.match.sparseCases false
section
variable {n b ra bo mo en he:Nat} {O S:Oj} {D:Wd} {f:List Bool→Bool} {A A':bJ} {hs es:List (List Bool)} {bk:ae} {own:V} {tu bo' mo' pl at_ le wo tr th ps lo lk cu:Option V} {cl:Option gN} {t:Nat} {Q:Fl→List Fr→Oj→Prop} {mv ow:fF}
theorem MU{r:Option (List Bool)}(hcl:cl=none∨cl=kT)(hM:i8 S (.ref mo) mv)(hO:i8 S own ow)(hMl:mv.length<290)(hOl:ow.length<290)(hMr:∀p∈mv,p.2.length<290)(hOr:∀p∈ow,p.2.length<290)(h:EF mv ow 99 0 [(0,0,[])]=some r)
 (q:Q .next (iP cl D own ra en he tu bo' (some (.ref mo)) pl at_ le (some (LW D.c0 D.c1 r)) tr th ps lo lk cu) S):
 (W G3 (n+130)).s (aX (fm ni) 3) (iP cl D own ra en he tu bo' (some (.ref mo)) pl at_ le wo tr th ps lo lk cu) b Q S:=by
 exact CS hM hO hMl hOl hMr hOr h (Jp (kp hcl rfl) q)
theorem Kx(hcl:cl=none∨cl=kT)(q:∀F,Q (.ret (.tup [.ref he,.ref en,.ref bo,.ref mo])) F S):
 (W G3 (n+130)).s (aX (fm ni) 4) (iP cl D own ra en he tu (some (.ref bo)) (some (.ref mo)) pl at_ le (some .none) tr th ps lo lk cu) b Q S:=by
 exact q _
theorem Kw{w:List Nat}(hcl:cl=none∨cl=kT)(q:Q .next (iP cl D own ra en he tu bo' mo' pl at_ le (some (.str w)) tr th ps lo lk cu) S):
 (W G3 (n+130)).s (aX (fm ni) 4) (iP cl D own ra en he tu bo' mo' pl at_ le (some (.str w)) tr th ps lo lk cu) b Q S:=by
 exact q
theorem MS{r:List Nat}(H:eZ D f)(hcl:cl=none∨cl=kT)(hf:∀b,cH [D.c0,D.c1] [sg D.c0 D.c1 b] 0 2=(b1 b:Nat))(hM:i8 S (.ref mo) mv)(hMl:mv.length<290)(hMr:∀p∈mv,p.2.length<290)(hA:S[ra]? =some (.dS (aN D.c0 D.c1 A)))(hAl:A.length<190)(hw:w.length<40)(hr:CD mv w 0=some r)
 (q:Q .next (iP cl D own ra en he tu bo' (some (.ref mo)) pl at_ le (some (.str (cd D.c0 D.c1 w))) (some (.lst (aC (0::r)))) (some (.bool (ask f w A).1)) (some (.ref S.length)) (some (.ref (S.length+1))) lk cu) (S.set ra (.dS (aN D.c0 D.c1 (ask f w A).2))++[.list (aC (List.range (w.length+1)))]++[.list []])):
 (W G3 (n+130)).s (aX (fm ni) 5) (iP cl D own ra en he tu bo' (some (.ref mo)) pl at_ le (some (.str (cd D.c0 D.c1 w))) tr th ps lo lk cu) b Q S:=by
 have hlen:(cd D.c0 D.c1 w).length<1000000:=by rw[aS];exact lt_trans hw (by decide)
 have hl4:((cd D.c0 D.c1 w).length:Int)=(w.length:Int):=by rw[aS]
 have e1:(S.set ra (.dS (aN D.c0 D.c1 (ask f w A).2))).length=S.length:=length_set
 have e2:(S.set ra (.dS (aN D.c0 D.c1 (ask f w A).2))++[aT.list (aC (List.range (w.length+1)))]).length=S.length+1:=by rw[length_append,e1];rfl
 rw[←e2, ←e1]at q
 have e4:=(kp (ko (ko (ko hcl (x:=u "trail") rfl) (x:=u "truth") rfl) (x:=u "places") rfl) (x:=u "looks") rfl).trans ((kp (ko (ko hcl rfl) rfl) rfl).trans ((kp (ko hcl rfl) rfl).trans (kp hcl rfl)))
 refine mV hf hM hMl hMr (lt_trans hw (by decide)) hr (jZ (D:=D) (f:=f) (A:=A) (w:=w) H hA (lt_trans hAl (by decide)) (lt_trans hw (by decide)) (lf (len_str hlen) ?_))
 rw[hl4]
 exact lf (bN (a:=w.length+1) rfl (lt_trans (succ_lt_succ hw) (by decide))) (lf (Ao (lt_trans (succ_lt_succ hw) (by decide))) (Jp e4 q))
theorem MR(hcl:cl=none∨cl=kT)(q:∀ad,Q .next (iP kT D own ra en he tu bo' mo' pl at_ le wo tr th ps lo (some (.opq ad)) cu) S):
 (W G3 (n+130)).s (aX (fm ni) 6) (iP cl D own ra en he tu bo' mo' pl at_ le wo tr th ps lo lk cu) b Q S:=by
 exact q
theorem MQ{trl:List Nat}{tru:Bool}{p:Nat}{ad:Addr}(H:eZ D f)(hhl:hs.length<290)(hw:w.length<50)(hhw:∀h∈hs,h.length<40)(htl:trl.length<290)(hne:lr≠ra)(hnh:lr≠he)(hpl:lr≠p)(hpa:ra≠p)(hha:ra≠he)
 (hr1:fJ f w hs trl tru 60 1 (w.length+1) [] A=some r) (hAl:A.length<200) (hp:lA S p=some (aC (List.range (w.length+1)))) (hl1:lA S lr=some (aC [])) (hh1:lA S he=some (aF (hs.map (cd D.c0 D.c1)))) (hA:S[ra]? =some (.dS (aN D.c0 D.c1 A)))
 (q:Q .next (iP kT D own ra en he (some (.int (t:Nat))) bo' mo' pl at_ le (some (.str (cd D.c0 D.c1 w))) (some (.lst (aC trl))) (some (.bool tru)) (some (.ref p)) (some (.ref lr)) (some (.opq ad)) (some (.int (r.1:Nat)))) ((S.set lr (.list (aC r.2.1))).set ra (.dS (aN D.c0 D.c1 r.2.2)))):
 (W G3 (n+130)).s (aX (fm ni) 7) (iP kT D own ra en he (some (.int (t:Nat))) bo' mo' pl at_ le (some (.str (cd D.c0 D.c1 w))) (some (.lst (aC trl))) (some (.bool tru)) (some (.ref p)) (some (.ref lr)) (some (.opq ad)) cu) b Q S:=by
 have LF:∀cu,FK ⟨Lg,Ld D own ra en he (some (.int (t:Nat))) bo' mo' pl at_ le (some (.str (cd D.c0 D.c1 w))) (some (.lst (aC trl))) (some (.bool tru)) (some (.ref p)) (some (.ref lr)) (some (.opq ad)) cu,false,0,kT⟩ D lr he ra w trl tru:=fun cu=>⟨rfl,rfl,rfl,rfl,rfl,rfl,rfl⟩
 refine sd (p:=(t:Int)%2≠0) (fun h=>?_) fun h=>?_
 ·exact uu (LF cu) rfl H hhl hw hhw htl hne hnh hpl hpa hha hr1 hAl hp hl1 hh1 hA q
 ·exact uv (LF cu) rfl H hhl hw hhw htl hne hnh hpl hpa hha hr1 hAl hp hl1 hh1 hA q
theorem lG{O:Oj}{a d:Nat}(h:a<2^300)(h2:d<2^300):dA O .Mult (.int (a:Nat)) (.int (d:Nat))=some (.int ((a*d:Nat):Int)):=by
 have e:dA O .Mult (.int (a:Nat)) (.int (d:Nat))=if cm (a:Nat)&&cm (d:Nat)then some (.int ((a:Int)*(d:Int)))else none:=by kernel_rfl!
 exact e.trans (if_pos (and_eq_true_iff.mpr ⟨iJ h,iJ h2⟩))
theorem xR(x:Int):∀l:List Nat,gQ (aC l) (.int x)=some (l.any fun y=>decide ((y:Int)=x))
 |[]=>rfl
 |y::l=>by
  show(gt (.int (y:Nat)) (.int x)).bind _=_
  rw[show gt (.int (y:Nat)) (.int x)=some (decide ((y:Int)=x))from rfl,Option.bind_some]
  show(gQ (aC l) (.int x)).map _=_
  rw[xR x l,Option.map_some,any_cons]
theorem Dh{r:Nat}{l:List Nat}{O:Oj}(h:lA O r=some (aC l)):i5 G3 O .In (.int 0) (.ref r)=some (l.contains 0):=by
 have e:(l.any fun y=>decide ((y:Int)=0))=l.contains 0:=by
  rw[List.contains_eq_any_beq]
  refine congrArg (fun p=>List.any l p) (funext fun y=>Bool.eq_iff_iff.mpr ⟨fun h=>beq_iff_eq.mpr (Int.ofNat.inj (of_decide_eq_true h)).symm,fun h=>decide_eq_true (congrArg Int.ofNat (beq_iff_eq.mp h).symm)⟩)
 show CG G3 O (.int 0) (.ref r)=_
 unfold CG
 simp only[(lC h (.int 0)).1]
 exact bs (f:=fun l=>gQ l (.int 0)) (show lA O r=some (aC l)from h) (e▸xR 0 l)
theorem IO{D:Wd}{v:V}{O:Oj}(hne:D.c0≠D.c1){l:List (List Bool)}(h:iO O v=some (aF (l.map (cd D.c0 D.c1)))):i5 G3 O .In (.str (cd D.c0 D.c1 w)) v=some (l.contains w):=by
 rw[Di h]
 refine congrArg some (Bool.eq_iff_iff.mpr ⟨fun z=>?_,fun z=>?_⟩)
 ·obtain⟨x,hx,e⟩:=mem_map.mp (contains_iff_mem.mp z)
  exact contains_iff_mem.mpr (j3 hne e▸hx)
 ·exact contains_iff_mem.mpr (mem_map.mpr ⟨w,contains_iff_mem.mp z,rfl⟩)
theorem MP(hne:D.c0≠D.c1)(hw:w.length<40)(hen:lA S en=some (aF (es.map (cd D.c0 D.c1))))(hlr:lA S lr=some (aC r.2.1))(h:GQ es w r=true)
 (q:Q .next (iP kT D own ra en he tu bo' mo' pl at_ le (some (.str (cd D.c0 D.c1 w))) tr th ps (some (.ref lr)) lk (some (.int (r.1:Nat)))) S):
 (W G3 (n+130)).s (aX (fm ni) 8) (iP kT D own ra en he tu bo' mo' pl at_ le (some (.str (cd D.c0 D.c1 w))) tr th ps (some (.ref lr)) lk (some (.int (r.1:Nat)))) b Q S:=by
 refine hG fun _ kk=>?_
 obtain⟨h1,h⟩:=and_eq_true_iff.mp h
 obtain⟨h2,h⟩:=and_eq_true_iff.mp h
 obtain⟨h3,h⟩:=and_eq_true_iff.mp h
 obtain⟨h4,h⟩:=and_eq_true_iff.mp h
 obtain⟨h5,h6⟩:=and_eq_true_iff.mp h
 refine kk ?_
 have h1:=of_decide_eq_true h1
 have h2:=of_decide_eq_true h2
 have h3:=(not_eq_true' _).mp h3
 have h4:=(not_eq_true' _).mp h4
 have h5:=of_decide_eq_true h5
 have h6:=of_decide_eq_true h6
 have hlen:(cd D.c0 D.c1 w).length<1000000:=by rw[aS];exact lt_trans hw (by decide)
 have hl4:((cd D.c0 D.c1 w).length:Int)=(w.length:Int):=by rw[aS]
 refine uB (t:=decide ((1:Int)≤(r.1:Nat))) (decide_eq_true (ofNat_le.mpr h1)) (lf (len_str hlen) ?_)
 refine Eq.symm (hl4)▸?_
 refine uB (t:= !!decide ((r.1:Int)≤(w.length:Nat))) ((Bool.not_not _).trans (decide_eq_true (ofNat_le.mpr h2))) (lf (jh (p:=r.1) (by rw[aS];exact lt_trans hw (by decide)) (by rw[aS];exact h2)) ?_)
 rw[show(cd D.c0 D.c1 w).drop r.1=cd D.c0 D.c1 (w.drop r.1)from map_drop.symm]
 refine lf (IO (v:=.ref en) hne hen) (uB (t:= !es.contains (w.drop r.1)) ((congrArg (!·) h3)) (lf (Dh hlr) (uB (t:= !r.2.1.contains 0) (congrArg (!·) h4) ?_)))
 have hll:(aC r.2.1).length<300:=by rw[aJ];exact lt_trans h6 (by decide)
 have hll4:((aC r.2.1).length:Int)=(r.2.1.length:Nat):=by rw[aJ]
 refine lf (ai (v:=.ref lr) hlr hll) (lf (ub hll4 (lt_trans h6 (by decide))) (lf (len_str hlen) ?_))
 rw[hl4]
 refine lf (lG (a:=2) (d:=w.length) (by decide) (lt_trans hw (by decide))) ?_
 have hd:decide (((2^r.2.1.length:Nat):Int)>((2*w.length:Nat):Int))=false:=decide_eq_false (not_lt.mpr (ofNat_le.mpr h5))
 refine uB (t:= !decide (((2^r.2.1.length:Nat):Int)>((2*w.length:Nat):Int))) (congrArg (!·) hd) ?_
 exact q
end
set_option backward.match.sparseCases true
end
section
variable {w:List Bool}
theorem lJ{S:Oj}{b r k:Nat}{l:List V}(hb:b≤r)(h:lA S r=some l)(hf:∀v∈l,kS k v=true):cB S b (k+1) (.ref r)=some (.lst l):=by
 show(if r<b then _ else(lA S r).bind _)=_
 rw[if_neg (Nat.not_lt.mpr hb),h]
 show map V.lst (l.mapM (cB S b k))=_
 rw[fU fun v hv=>fA k (hf v hv)];rfl
theorem sF{α β:Type}{f:α→Option β}:∀{l:List α} {m:List β},l.length=m.length→(∀(i:Nat) a b,l[i]? =some a→m[i]? =some b→f a=some b)→l.mapM f=some m
 |[],[],_,_=>rfl
 |[],_::_,e,_=>nomatch e
 |_::_,[],e,_=>nomatch e
 |a::l,b::m,e,h=>by
  rw[mapM_cons,h 0 a b rfl rfl,sF (Nat.succ.inj e) fun i a b h1 h2=>h (i+1) a b h1 h2];rfl
set_option backward.match.sparseCases false
section
variable {n b ra bo mo en he:Nat} {O S:Oj} {D:Wd} {f:List Bool→Bool} {A A':bJ} {hs es:List (List Bool)} {bk:ae} {own:V} {tu bo' mo' pl at_ le wo tr th ps lo lk cu:Option V} {cl:Option gN} {t:Nat} {Q:Fl→List Fr→Oj→Prop} {mv ow:fF}
theorem MO{c:Nat}(hw:w.length<40)(hc:c≤w.length)(hel:es.length<200)(hen:lA S en=some (aF (es.map (cd D.c0 D.c1))))
 (q:Q .next (iP kT D own ra en he tu bo' mo' pl at_ le (some (.str (cd D.c0 D.c1 w))) tr th ps lo lk (some (.int (c:Nat)))) (S.set en (.list (aF ((es++[w.drop c]).map (cd D.c0 D.c1)))))):
 (W G3 (n+130)).s (aX (fm ni) 9) (iP kT D own ra en he tu bo' mo' pl at_ le (some (.str (cd D.c0 D.c1 w))) tr th ps lo lk (some (.int (c:Nat)))) b Q S:=by
 have e:aF ((es++[w.drop c]).map (cd D.c0 D.c1))=aF (es.map (cd D.c0 D.c1))++[.str ((cd D.c0 D.c1 w).drop c)]:=by
  rw[aF,map_append,map_append]
  show _++[V.str (cd D.c0 D.c1 (w.drop c))]=_
  rw[show cd D.c0 D.c1 (w.drop c)=(cd D.c0 D.c1 w).drop c from map_drop];rfl
 rw[e]at q
 exact lf (dX hen rfl) (lf (jh (p:=c) (by rw[aS];exact lt_trans hw (by decide)) (by rw[aS];exact hc)) (lf (bP hen (by rw[a8];exact lt_trans hel (by decide)) (iD rfl)) q))
theorem LS.end{es':List (List Bool)}(L:LS O ra D S A hs es):LS O ra D (S.set O.length (.list (aF (es'.map (cd D.c0 D.c1))))) A hs es':=
 ⟨bU L.take (le_refl _),ac L.en,aM (ab (aL L.he) (ne_of_lt (lt_succ_self _)))⟩
structure Fin (O:Oj) (ra:Nat) (D:Wd) (S:Oj) (R:D9) (bo mo:Nat):Prop where
 ls:LS O ra D S R.A R.hs R.es
 lb:O.length≤bo
 lm:O.length≤mo
 bk:lA S bo=some (aQ (2^D.base) R.bk)
 mv:∃rs,FJ S mo R.mv rs
theorem wx{T:fF}:∀(w:List Bool) (s:Nat) (r:List Nat),CD T w s=some r→r.length=w.length
 |[],_,_,h=>by obtain rfl:=sI h;rfl
 |c::w,s,r,h=>by
  obtain⟨p,hp,h⟩:=gU h
  obtain⟨t,ht,h⟩:=gU h
  obtain⟨r',h',h⟩:=wk h
  subst h
  exact congrArg Nat.succ (wx w t r' h')
theorem D5{f:List Bool→Bool}{A:bJ}:(ask f w A).2.length≤A.length+1:=by
 unfold ask
 cases A.lookup w with
 |some t=>exact le_succ _
 |none=>exact le_of_eq length_append
set_option backward.match.sparseCases true
theorem Al(H:eZ D f)(hne:D.c0≠D.c1)(hbase:D.base<34)(hra:ra<O.length)(hb:b=O.length)(hf:∀b,cH [D.c0,D.c1] [sg D.c0 D.c1 b] 0 2=(b1 b:Nat))(hO:∀S,i8 S own ow)(hOl:ow.length<290)(hOr:∀p∈ow,p.2.length<290){R:D9}(m:Nat):
 ∀(t g:Nat) (S:Oj) (hs es:List (List Bool)) (A:bJ) (cl:Option gN) (tu bo mo pl at_ le wo tr th ps lo lk cu:Option V),lrn f ow m t hs es A=some R→m<g→(cl=none∨cl=kT)→hs.length<200→LS O ra D S A hs es→
 (∀S' F bo mo,Fin O ra D S' R bo mo→Q (.ret (.tup [.ref (O.length+1),.ref O.length,.ref bo,.ref mo])) F S')→
 fY (W G3 (n+131)) (xC ni) (fm ni) (xD ni) b Q g (.items (kg (range' t m))) (iP cl D own ra O.length (O.length+1) tu bo mo pl at_ le wo tr th ps lo lk cu) S:=by
 induction m with
 |zero=>intro t g S hs es A cl tu bo mo pl at_ le wo tr th ps lo lk cu h;exact nomatch h
 |succ m ih=>
  intro t g S hs es A cl tu bo mo pl at_ le wo tr th ps lo lk cu h hg hcl hl L q
  cases g with
  |zero=>exact absurd hg (not_lt_zero _)
  |succ g=>
   refine hG fun _ kk=>?_
   obtain⟨p,hp,h⟩:=gU h
   obtain⟨s,hs1,h⟩:=gU h
   obtain⟨r,hr,h⟩:=gU h
   subst hb
   refine kk ?_
   have hS:O.length+1<S.length:=j6 L.he
   have eS:(S++[aT.list []]).length=S.length+1:=length_append
   have hb0:lA (S++[aT.list []]++[aT.list []]) S.length=some []:=aM (eX getElem?_concat_length)
   have hm0:lA (S++[aT.list []]++[aT.list []]) (S.length+1)=some []:=aM (eS▸getElem?_concat_length)
   have L0:=(L.app (X:=[aT.list []])).app (X:=[aT.list []])
   have L1:=(L0.ask (A':=p.2) hra).set (o:=.list (aQ (2^D.base) p.1)) hS
   have n1:ra≠S.length:=ne_of_lt (lt_trans hra (lt_of_succ_lt hS))
   have n2:ra≠S.length+1:=ne_of_lt (lt_succ_of_lt (lt_trans hra (lt_of_succ_lt hS)))
   have hb1:lA (((S++[aT.list []]++[aT.list []]).set ra (.dS (aN D.c0 D.c1 p.2))).set S.length (.list (aQ (2^D.base) p.1))) S.length=some (aQ (2^D.base) p.1):=ac (aM (ab (aL hb0) n1))
   have hm1:lA (((S++[aT.list []]++[aT.list []]).set ra (.dS (aN D.c0 D.c1 p.2))).set S.length (.list (aQ (2^D.base) p.1))) (S.length+1)=some []:=aM (ab (ab (aL hm0) n2) (ne_of_lt (lt_succ_self _)))
   have key:∀{Q:Fl→List Fr→Oj→Prop} (tu:V) (htu:tu=.int (t:Nat)) (q1:∀S' F bo mo,Fin O ra D S' R bo mo→Q (.ret (.tup [.ref (O.length+1),.ref O.length,.ref bo,.ref mo])) F S')
    (q2:∀(S':Oj) (hs es:List (List Bool)) (A:bJ) (bo mo pl at_ le wo tr th ps lo lk cu:Option V),lrn f ow m (t+1) hs es A=some R→hs.length<200→LS O ra D S' A hs es→Q .next (iP kT D own ra O.length (O.length+1) (some tu) bo mo pl at_ le wo tr th ps lo lk cu) S'),
    xs (W G3 (n+131)) ((fm ni).drop 0) (iP cl D own ra O.length (O.length+1) (some tu) bo mo pl at_ le wo tr th ps lo lk cu) O.length Q S:=by
    intro Q tu htu q1 q2
    subst htu
    refine fx rfl (MY (n:=n+1) hcl (fx (i:=1) rfl (MX (n:=n+1) H hbase hra hS hcl hl hp L0 hb0 fun pl=>(fx (i:=2) rfl (MV (n:=n+1) H hbase hra hS (lt_succ_self _) (le_of_lt (lt_trans (lt_succ_self _) (lt_succ_of_lt hS))) hcl hl hs1 L1 hb1 hm1 fun S2 rs at_ le L2 hb2 R2 hmr hml=>?_)))))
    have hml9:s.2.2.2.length<290:=lt_of_le_of_lt hml (by decide)
    refine fx (i:=3) rfl (MU (n:=n+1) hcl R2.tab (hO S2) hml9 hOl hmr hOr hr (fx (i:=4) rfl ?_))
    clear hr
    cases r with
    |none=>
     clear q ih q2
     obtain rfl:=sI h
     exact Kx (n:=n+1) hcl fun F=>q1 _ _ _ _ ⟨L2,le_of_lt (lt_of_succ_lt hS),le_of_lt (lt_succ_of_lt (lt_of_succ_lt hS)),hb2,rs,R2⟩
    |some w=>
     obtain⟨tr,htr,h⟩:=gU h
     by_cases hG:H7 s.1 es s.2.2.1 w=true
     case neg=>rw[if_neg hG]at h;exact nomatch h
     rw[if_pos hG]at h
     obtain⟨r,hhv,h⟩:=gU h
     by_cases hK:GQ es w r=true
     case neg=>rw[if_neg hK]at h;exact nomatch h
     rw[if_pos hK]at h
     obtain⟨g1,hG⟩:=and_eq_true_iff.mp hG
     obtain⟨g2,hG⟩:=and_eq_true_iff.mp hG
     obtain⟨g3,hG⟩:=and_eq_true_iff.mp hG
     obtain⟨g4,g5⟩:=and_eq_true_iff.mp hG
     have g1:=of_decide_eq_true g1
     have g2:=of_decide_eq_true g2
     have g4:=of_decide_eq_true g4
     have g5:=of_decide_eq_true g5
     have hc:r.1≤w.length:=of_decide_eq_true (and_eq_true_iff.mp (and_eq_true_iff.mp hK).2).1
     have hS2:O.length+1<S2.length:=j6 L2.he
     have e1:(S2.set ra (.dS (aN D.c0 D.c1 (ask f w s.2.2.1).2))).length=S2.length:=length_set
     have e2:(S2.set ra (.dS (aN D.c0 D.c1 (ask f w s.2.2.1).2))++[aT.list (aC (List.range (w.length+1)))]).length=S2.length+1:=by rw[length_append,e1];rfl
     have L5:=((L2.ask (A':=(ask f w s.2.2.1).2) hra).app (X:=[aT.list (aC (List.range (w.length+1)))])).app (X:=[aT.list []])
     have hp5:lA (S2.set ra (.dS (aN D.c0 D.c1 (ask f w s.2.2.1).2))++[aT.list (aC (List.range (w.length+1)))]++[aT.list []]) S2.length=some (aC (List.range (w.length+1))):=aM (eX (e1▸getElem?_concat_length))
     have hl5:lA (S2.set ra (.dS (aN D.c0 D.c1 (ask f w s.2.2.1).2))++[aT.list (aC (List.range (w.length+1)))]++[aT.list []]) (S2.length+1)=some (aC []):=aM (e2▸getElem?_concat_length)
     have n3:S2.length+1≠ra:=ne_of_gt (lt_succ_of_lt (lt_trans hra (lt_of_succ_lt hS2)))
     have n4:S2.length+1≠O.length+1:=ne_of_gt (lt_succ_of_lt hS2)
     have n5:S2.length+1≠S2.length:=Nat.succ_ne_self _
     have n6:ra≠S2.length:=ne_of_lt (lt_trans hra (lt_of_succ_lt hS2))
     have n7:ra≠O.length+1:=ne_of_lt (lt_succ_of_lt hra)
     have L7:=(L5.set (j:=S2.length+1) (o:=.list (aC r.2.1)) (lt_succ_of_lt hS2)).ask (A':=r.2.2) hra
     refine Kw (n:=n+1) hcl (fx (i:=5) rfl (MS (n:=n+1) H hcl hf R2.tab hml9 hmr (L2.asked hra) g1 g2 htr (fx (i:=6) rfl (MR (n:=n+1) hcl fun ad=>fx (i:=7) rfl (MQ (n:=n+1) H (lt_trans g4 (by decide)) (lt_trans g2 (by decide)) (fun h hh=>of_decide_eq_true (all_eq_true.mp g3 h hh)) (by rw[length_cons,wx w 0 tr htr];exact lt_trans (succ_lt_succ g2) (by decide)) n3 n4 n5 n6 n7 hhv (lt_of_le_of_lt D5 (lt_trans (succ_lt_succ g1) (by decide))) hp5 hl5 L5.he (L5.asked hra) ?_)))))
     refine fx (i:=8) rfl (MP (n:=n+1) hne g2 L7.en (aM (ab (aL (ac hl5)) (Ne.symm n3))) hK (fx (i:=9) rfl (MO (n:=n+1) g2 hc g5 L7.en ?_)))
     exact q2 _ _ _ _ _ _ _ _ _ _ _ _ _ _ _ _ h g4 L7.end
   show xs _ _ _ _ _ _
   refine Ky (kp hcl rfl) (key (.int (t:Nat)) rfl q fun S' hs es A bo mo pl at_ le wo tr th ps lo lk cu h1 h2 h3=>ih (t+1) g S' hs es A _ _ bo mo pl at_ le wo tr th ps lo lk cu h1 (lt_of_succ_lt_succ hg) (.inr rfl) h2 h3 q)
end
end
section
variable {O:Oj} {ra:Nat} {D:Wd} {R:D9}
noncomputable def uY(D:Wd)(R:D9):V:=.tup [.lst (aF (R.hs.map (cd D.c0 D.c1))),.lst (aF (R.es.map (cd D.c0 D.c1))),.lst (aQ (2^D.base) R.bk),.lst (az R.mv)]
theorem ox{k:Nat}(l:List (List Nat)):∀v∈aF l,kS (k+1) v=true:=fun v hv=>by
 obtain⟨c,_,rfl⟩:=mem_map.mp hv;rfl
theorem yc{S:Oj}{bo mo:Nat}(F:Fin O ra D S R bo mo):leave O.length (.tup [.ref (O.length+1),.ref O.length,.ref bo,.ref mo]) S=some (uY D R):=by
 obtain⟨rs,hrs⟩:=F.mv
 have e1:=lJ (k:=2) (le_succ O.length) F.ls.he (ox _)
 have e2:=lJ (k:=2) (le_refl O.length) F.ls.en (ox _)
 have e3:cB S O.length 3 (.ref bo)=some (.lst (aQ (2^D.base) R.bk)):=lJ (k:=2) F.lb F.bk fun v hv=>by
  obtain⟨c,_,rfl⟩:=mem_map.mp hv;rfl
 have e4:cB S O.length 3 (.ref mo)=some (.lst (az R.mv)):=by
  show(if mo<O.length then _ else(lA S mo).bind _)=_
  rw[if_neg (Nat.not_lt.mpr F.lm),hrs.at_]
  show map V.lst ((rs.map V.ref).mapM (cB S O.length 2))=_
  have:(rs.map V.ref).mapM (cB S O.length 2)=some (az R.mv):=sF (by rw[length_map,hrs.len,az,length_map]) fun i a b h1 h2=>by
   rw[getElem?_map]at h1
   rw[az,getElem?_map]at h2
   obtain⟨r,hr,e⟩:=wk h1
   obtain⟨p,hp,e'⟩:=wk h2
   clear h1 h2
   subst e;subst e'
   obtain⟨r1,r2,r3⟩:=hrs.row i p r hp hr
   exact lJ (k:=1) (le_of_lt (lt_of_le_of_lt F.lm r1)) r3 fun v hv=>by
    rcases mem_cons.mp hv with rfl|hv
    ·rfl
    ·obtain⟨c,_,rfl⟩:=mem_map.mp hv;rfl
  rw[this];rfl
 show map V.tup ([V.ref (O.length+1),V.ref O.length,V.ref bo,V.ref mo].mapM (cB S O.length 3))=_
 rw[mapM_cons,e1,mapM_cons,e2,mapM_cons,e3,mapM_cons,e4];rfl
theorem DQ{n b:Nat}{f:List Bool→Bool}{own:V}{ow:fF}{Q:V→Oj→Prop}(H:eZ D f)(hne:D.c0≠D.c1)(hbase:D.base<34)(hA:O[ra]? =some (.dS []))(hf:∀b,cH [D.c0,D.c1] [sg D.c0 D.c1 b] 0 2=(b1 b:Nat))(hO:∀S,i8 S own ow)(hOl:ow.length<290)(hOr:∀p∈ow,p.2.length<290)(h:lrn f ow 8 0 [[]] [[]] []=some R)
 (q:Q (uY D R) (O.set ra (.dS (aN D.c0 D.c1 R.A)))):
 bw (W G3 (n+140)) (.cst (.ref 177)) [D.v,own,.ref ra] [] b Q O:=by
 have hra:=(List.getElem?_eq_some_iff.mp hA).1
 have e:(O++[aT.list (aF [[]])]).length=O.length+1:=length_append
 have hw:∀(Q:Fl→List Fr→Oj→Prop),(∀S' F bo mo,Fin O ra D S' R bo mo→Q (.ret (.tup [.ref (O.length+1),.ref O.length,.ref bo,.ref mo])) F S')→fY (W G3 (n+138)) (xC ni) (fm ni) (xD ni) O.length Q 300 (.items (kg (range' 0 8))) (iP none D own ra O.length (O++[aT.list (aF [[]])]).length none none none none none none none none none none none none none) (O++[aT.list (aF [[]])]++[aT.list (aF [[]])]):=fun Q q=>by
  refine Eq.symm (e)▸?_
  exact Al (n:=n+7) H hne hbase hra rfl hf hO hOl hOr (R:=R) 8 0 300 (O++[aT.list (aF [[]])]++[aT.list (aF [[]])]) [[]] [[]] [] none none none none none none none none none none none none none none h (by decide) (.inl rfl) (by decide) ⟨by
   rw[append_assoc,take_left];exact(bV hA).symm,aM (eX getElem?_concat_length),aM (e▸getElem?_concat_length)⟩ q
 refine n0 (vw (hw _ fun S' F bo mo hF=>?_))
 exact lf (yc hF) (vq (Q:=Q) hF.ls.take q)
end
section
variable {l script:List Int} {k:Nat}
set_option backward.match.sparseCases false
theorem cg{x:List Nat}{l:List (List Nat)}(hx:x.length≤1000)(hl:l.length≤1000)(hw:∀w∈l,w.length≤1000):fW x l=true:=by
 unfold fW JoinOk
 have go:∀(l:List (List Nat)) (a:Nat),(∀w∈l,w.length≤1000)→(l.map S).foldl (fun a s=>a+s.length+(S x).length) a≤a+2000*l.length:=by
  intro l
  induction l with
  |nil=>intro a _;simp
  |cons w l ih=>
   intro a h
   have h1:=ih (a+(S w).length+(S x).length) (fun v hv=>h v (mem_cons_of_mem _ hv))
   have h2:=h w (mem_cons_self ..)
   rw[sL,sL]at h1
   simp only[map_cons,foldl_cons,length_cons]
   rw[sL,sL]
   exact le_trans h1 (le_trans (add_le_add_right (add_le_add (add_le_add_left h2 a) hx) _) (le_of_eq (add_right_comm a 2000 _)))
 have h:=go l 0 hw
 rw[List.foldl_toArray']
 ·have e:Builtin.Str.tooLong ((l.map S).foldl (fun a s=>a+s.length+(S x).length) 0)=false:=by
   unfold Builtin.Str.tooLong
   exact decide_eq_false (by rw[sizeLine_eq];exact Nat.not_lt.mpr (le_trans (le_trans h (add_le_add_left (mul_le_mul_left _ hl) _)) (by decide)))
  rw[e];rfl
 ·rfl
theorem mX(l:List (List Nat)):gv [] l=l.flatten:=by
 have go:∀(l:List (List Nat)) (a:Array Nat),((l.map S).foldl (fun aK p=>aK++(S []).cps++p.cps) a).toList=a.toList++l.flatten:=by
  intro l
  induction l with
  |nil=>intro a;simp
  |cons w l ih=>intro a;simp only[map_cons,foldl_cons,ih,flatten_cons];simp[S]
 cases l with
 |nil=>rfl
 |cons w l=>
  show(((S w::l.map S).drop 1).foldl (fun aK p=>aK++(S []).cps++p.cps) ((S w::l.map S).headD Str.empty).cps).toList=_
  rw[List.drop_one,List.tail_cons,List.headD_cons,go]
  rfl
noncomputable def yA(text gaps:List Nat):List (List Nat):=(List.range (text.length+1)).map fun p=>(replicate (gaps.getD p 0) [46,46,46]).flatten++bM text p (p+1)
noncomputable def pV(text gaps:List Nat):List Nat:=gv [] (yA text gaps)
theorem BW{n p:Nat}{d:Int}:ff n 1 (some (p:Int)) d=((min p n:Nat):Int):=by
 have e:ff n 1 (some (p:Int)) d=max 0 (min (if(p:Int)<0 then(p:Int)+n else p) n):=by kernel_rfl!
 rw[e,if_neg (not_lt.mpr (natCast_nonneg p)), ←K9]
 exact Int.max_eq_right (natCast_nonneg _)
theorem Dv(l:List Nat)(a c:Nat):(l.drop a).take (min c l.length-a)=(l.drop a).take (c-a):=by
 rw[←Nat.sub_min_sub_right, ←length_drop]
 exact List.take_eq_take_min.symm
theorem Dw{O:Oj}{l:List Nat}{i j:Int}{a c:Nat}(e1:i=(a:Nat))(e2:j=(c:Nat))(h:l.length<300)(ha:a≤l.length):cT O (.str l) (.int i) (.int j) .none=some (.str (bM l a c)):=by
 subst e1;subst e2
 refine bs (f:=fun lo=>(dr (.int (c:Nat))).bind fun hi=>(dr .none).bind fun st=>if lO l.length&&st.isNone then(av lo hi st l.length).map fun is=>V.str (aO l is)else none) (v:=some (a:Int)) rfl ?_
 refine(if_pos (show(lO l.length&&true)=true from and_eq_true_iff.mpr ⟨aq h,rfl⟩)).trans ?_
 have e:av (some (a:Int)) (some (c:Int)) none l.length=some (sliceRange a (min c l.length:Nat) 1):=by
  show some (sliceRange (ff l.length 1 (some (a:Int)) _) (ff l.length 1 (some (c:Int)) _) 1)=_
  exact Eq.symm (jW ha)▸Eq.symm (BW)▸rfl
 rw[e,Option.map_some,eN,bM]
 exact congrArg (fun x=>some (V.str x)) (Dv l a c)
theorem Cp{O:Oj}{l:List Nat}(h:k<1000)(hl:l.length*k<1000000):dA O .Mult (.str l) (.int (k:Nat))=some (.str (replicate k l).flatten):=by
 have e:dA O .Mult (.str l) (.int (k:Nat))=if 0≤(k:Int)&&(k:Int)<1000&&lO (l.length*k)then some (.str (replicate k l).flatten)else none:=by kernel_rfl!
 exact e.trans (if_pos (and_eq_true_iff.mpr ⟨and_eq_true_iff.mpr ⟨decide_eq_true (natCast_nonneg k),decide_eq_true (ofNat_lt.mpr h)⟩,dK hl⟩))
theorem Bs{O:Oj}{l:List V}{x:V}(hs:l.length<300)(hk:l[k]? =some x):cN O (.tup l) (.int (k:Nat))=some x:=B2 hs hk
theorem De(hk:k<l.length):(l.map V.int)[k]? =some (.int (l.getD k 0)):=by rw[getElem?_map,getElem?_eq_getElem hk,getD_eq_getElem?_getD,getElem?_eq_getElem hk];rfl
theorem D4{O:Oj}{v:V}(h:iO O v=some (l.map .int))(hs:l.length<300)(hk:k<l.length):cN O v (.int (k:Nat))=some (.int (l.getD k 0)):=
 ay h (by rw[length_map];exact hs) (by rw[getElem?_map,getElem?_eq_getElem hk,getD_eq_getElem?_getD,getElem?_eq_getElem hk];rfl)
noncomputable def MJ:af:=(cV (dB 25)).names
noncomputable def iw:List Stmt:=bF (dB 25)
noncomputable def MH(scr nr ce pa ms al pl te ga pt bs le ow ak wd wt ln he en bo mo wg du nm ws tw pu ma rf tp oc rd:Option V):fP:=[(u "script",scr),(u "number",nr),(u "cells",ce),(u "pair",pa),(u "marks",ms),(u "alphabet",al),(u "place",pl),(u "text",te),(u "gaps",ga),(u "pattern",pt),(u "base",bs),(u "letters",le),(u "own",ow),(u "asked",ak),(u "world",wd),(u "wanted",wt),(u "learned",ln),(u "heads",he),(u "ends",en),(u "book",bo),(u "moves",mo),(u "wrong",wg),(u "due",du),(u "names",nm),(u "words",ws),(u "twins",tw),(u "put",pu),(u "mate",ma),(u "refusal",rf),(u "tape",tp),(u "octets",oc),(u "reader",rd)]
noncomputable def cU(scr nr ce pa ms al pl te ga pt bs le ow ak wd wt ln he en bo mo wg du nm ws tw pu ma rf tp oc rd:Option V):List Fr:=[⟨MJ,MH scr nr ce pa ms al pl te ga pt bs le ow ak wd wt ln he en bo mo wg du nm ws tw pu ma rf tp oc rd,false,1,none⟩]
noncomputable def dJ:List Int:=[173,847,6150,6155,6156,6157,8203,8204,8205,8288,65279,65024,65025,65026,65027,65028,65029,65030,65031,65032,65033,65034,65035,65036,65037,65038,65039]
noncomputable def gI:List Int:=[0,1,2,4,7,8,9,10,11,12]
noncomputable def pK:Nat→List Nat
 |0=>[115,116,223,64262]
 |1=>[102,105,64256,64257]
 |_=>[102,108,64256,64258]
noncomputable def au(k i:Nat):Nat:=(pK k).getD i 0
noncomputable def qS(c:Nat):List Bool:=(List.range (c%4)).map fun p=>decide (c/4/2^p%2=1)
noncomputable def gz(c:Nat):List Nat:=(List.range (c%4+1)).map fun p=>c/32/3^p%3
theorem vp(c:Nat):(qS c).length=c%4:=by rw[qS,length_map,length_range]
theorem lI(c:Nat):(gz c).length=c%4+1:=by rw[gz,length_map,length_range]
noncomputable def aE(C:List Nat):Wd:=⟨pV (cd (au (C.getD 1 0%3) 0) (au (C.getD 1 0%3) 1) (qS (C.getD 0 0))) (gz (C.getD 0 0)),C.getD 2 0%4,C.getD 4 0%34,au (C.getD 1 0%3) 0,au (C.getD 1 0%3) 1,[au (C.getD 1 0%3) 2],[au (C.getD 1 0%3) 3],[(dJ.getD (C.getD 2 0/4%27) 0).toNat],119808+52*(gI.getD (C.getD 3 0%10) 0).toNat⟩
noncomputable def gi(k:Nat):V:=.tup ((pK k).map fun c=>.str [c])
theorem DI:∀k,k<27→dJ.getD k 0=((dJ.getD k 0).toNat:Int)∧((dJ.getD k 0).toNat<55000∨60000≤(dJ.getD k 0).toNat∧(dJ.getD k 0).toNat<1000000):=by decide
theorem B6:∀k,k<10→gI.getD k 0=((gI.getD k 0).toNat:Int)∧(gI.getD k 0).toNat<1000:=by decide
theorem cC{C:List Nat}{i:Nat}{O:Oj}(h6:C.length=6)(hi:i<6):cN O (.lst (aC C)) (.int (i:Nat))=some (.int (C.getD i 0:Nat)):=lF (l:=C) rfl (lt_of_le_of_lt (le_of_eq h6) (by decide)) (lt_of_lt_of_le hi (le_of_eq h6.symm))
noncomputable def uC(n k:Nat):List Nat:=sliceRange (ff n 6 (some (k:Int)) 0) (ff n 6 (some 60) n) 6
theorem K8{A B:Int}(hA:0≤A)(hB:B≤60):(if A<B then(B-A+6-1)/6 else 0).toNat≤64:=by
 split
 ·rw[Int.toNat_le]
  exact Int.le_trans (Int.ediv_le_ediv (by decide) (show B-A+6-1≤65 from Int.le_trans (Int.sub_le_sub_right (Int.add_le_add_right (Int.le_trans (Int.sub_le_self _ hA) hB) 6) 1) (by decide))) (by decide)
 ·exact zero_le _
theorem w6{n:Nat}(h:n<64):(uC n k).length≤64:=by
 have e:(uC n k).length=(if max 0 (min (if(k:Int)<0 then(k:Int)+n else k) n)<max 0 (min (60:Int) n)then(max 0 (min (60:Int) n)-max 0 (min (if(k:Int)<0 then(k:Int)+n else k) n)+6-1)/6 else 0).toNat:=by
  unfold uC sliceRange
  rw[length_map,length_range];rfl
 exact e▸K8 (Int.le_max_left ..) (Int.max_le.mpr ⟨by decide,Int.le_trans (Int.min_le_left ..) (by decide)⟩)
theorem ud{α β:Type}(f:α→β)(l:List α)(is:List Nat):aO (l.map f) is=(aO l is).map f:=by
 rw[aO,aO,List.map_filterMap]
 exact congrArg (fun g=>is.filterMap g) (funext fun i=>getElem?_map ..)
theorem Ca{O:Oj}(h:l.length<64):cT O (.lst (l.map .int)) (.int (k:Nat)) (.int 60) (.int 6)=some (.lst ((aO l (uC l.length k)).map .int)):=by
 have e:cT O (.lst (l.map .int)) (.int (k:Nat)) (.int 60) (.int 6)=if lO (l.map V.int).length then some (.lst (aO (l.map V.int) (uC (l.map V.int).length k)))else none:=by kernel_rfl!
 rw[e,length_map,if_pos (aq (lt_trans (by with_reducible assumption) (by decide))),ud]
theorem vx(l:List Int):0≤(l.map fun(i:Int)=>i%1000000).sum∧(l.map fun(i:Int)=>i%1000000).sum≤1000000*(l.length:Int)∧(l.map fun i=>i%1000000).all (fun i=>decide (0≤i))=true:=by
 induction l with
 |nil=>exact⟨by decide,by decide,rfl⟩
 |cons i l ih=>
  have h1:=Int.emod_nonneg i (show(1000000:Int)≠0 by decide)
  have h2:=Int.emod_lt_of_pos i (show(0:Int)<1000000 by decide)
  rw[map_cons,sum_cons,length_cons]
  exact⟨(add_nonneg h1 ih.1),(Int.le_trans (Int.add_le_add (Int.le_of_lt h2) ih.2.1) (Int.le_of_eq (by rw[Int.natCast_succ,Int.mul_add,Int.add_comm];rfl))),and_eq_true_iff.mpr ⟨decide_eq_true h1,ih.2.2⟩⟩
theorem om:∀l:List Int,kP (l.map .int)=some l
 |[]=>rfl
 |_::l=>congrArg (map _) (om l)
noncomputable def kU(script:List Int)(k:Nat):List Int:=(aO script (uC script.length k)).map fun i=>i%1000000
noncomputable def o5(script:List Int)(p:Nat×Nat):Nat:=p.2+(kU script p.1).sum.toNat
theorem J9{b:Nat}{O:Oj}(h:script.length<64):cq (u "sum") [.lst ((aO script (uC script.length k)).map fun i=>V.int (i%1000000))] b O=some (.int (kU script k).sum,O):=by
 obtain⟨h1,h2,h3⟩:=vx (aO script (uC script.length k))
 have hl:(aO script (uC script.length k)).length≤64:=le_trans (List.length_filterMap_le _ _) (w6 h)
 have e:((aO script (uC script.length k)).map fun i=>V.int (i%1000000))=(kU script k).map .int:=by rw[kU,map_map];rfl
 have e2:cq (u "sum") [.lst ((kU script k).map .int)] b O=(kP ((kU script k).map .int)).bind fun is=>if is.all (fun i=>decide (0≤i))&&decide (is.sum.toNat<2^62)&&lO ((kU script k).map V.int).length then some (V.int is.sum,O)else none:=by kernel_rfl!
 rw[e,e2,om,Option.bind_some]
 refine if_pos (and_eq_true_iff.mpr ⟨and_eq_true_iff.mpr ⟨h3,decide_eq_true ?_⟩,aq (by rw[length_map,kU,length_map];exact lt_of_le_of_lt (by with_reducible assumption) (by decide))⟩)
 show((aO script (uC script.length k)).map fun i=>i%1000000).sum.toNat<_
 exact(Int.toNat_lt h1).mpr (Int.lt_of_le_of_lt h2 (Int.lt_of_le_of_lt (Int.mul_le_mul_of_nonneg_left (ofNat_le.mpr hl) (by decide)) (by decide)))
noncomputable def o6:List (Nat×Nat):=[(0,106),(1,0),(2,0),(3,0),(4,7),(5,4)]
section
variable {n b:Nat} {O O1:Oj} {Q:Fl→List Fr→Oj→Prop} {scr nr ce pa ms al pl te ga pt bs le ow ak wd wt ln he en bo mo wg du nm ws tw pu ma rf tp oc rd:Option V} {C:List Nat}
theorem L9(h:script.length<64)(q:Q .next (cU (some (.lst (script.map .int))) nr (some (.lst (aC (o6.map (o5 script))))) pa ms al pl te ga pt bs le ow ak wd wt ln he en bo mo wg du nm ws tw pu ma rf tp oc rd) O1):
 (W G3 (n+160)).s (aX iw 0) (cU (some (.lst (script.map .int))) nr ce pa ms al pl te ga pt bs le ow ak wd wt ln he en bo mo wg du nm ws tw pu ma rf tp oc rd) b Q O1:=by
 have e:(o6.map fun p=>V.int (o5 script p:Nat))=aC (o6.map (o5 script)):=by rw[aC,map_map];rfl
 refine CF o6 (fun t=>⟨_,[(u ".0",none),(u "k",t.map fun p=>.int (p.1:Nat)),(u "cell",t.map fun p=>.int (p.2:Nat))],false,0,none⟩::_) (fun p=>V.int (o5 script p:Nat)) (fun p=>.tup [.int (p.1:Nat),.int (p.2:Nat)]) (.items _) (fun _ _=>rfl) (fun p hp aK K1 K2 k1 k2=>?_) (by decide) (eu _ _) (e▸q)
 have hl:(aO script (uC script.length p.1)).length≤64:=le_trans (List.length_filterMap_le _ _) (w6 h)
 refine lf (Ca h) (CF (aO script (uC script.length p.1)) (HK (fun i=>.int i) _ _ "number") (fun i=>V.int (i%1000000)) (fun i=>.int i) (.items _) (fun _ _=>rfl) (fun i hi aK K1 K2 k1 k2=>k1 rfl) (lt_of_le_of_lt hl (by decide)) (eu _ _) (lf (J9 h) (kq ?_ (k1 rfl))))
 have h1:=(vx (aO script (uC script.length p.1))).1
 show(p.2:Int)+((aO script (uC script.length p.1)).map fun i=>i%1000000).sum=((p.2+((aO script (uC script.length p.1)).map fun i=>i%1000000).sum.toNat:Nat):Int)
 exact(congrArg ((p.2:Int)+ ·) (toNat_of_nonneg h1).symm)
theorem L8(h6:C.length=6)(q:∀O2,(∀k,k≤O1.length→O2.take k=O1.take k)→Q .next (cU scr nr (some (.lst (aC C))) (some (gi (C.getD 1 0%3))) ms al pl te ga pt bs le ow ak wd wt ln he en bo mo wg du nm ws tw pu ma rf tp oc rd) O2):
 (W G3 (n+160)).s (aX iw 1) (cU scr nr (some (.lst (aC C))) pa ms al pl te ga pt bs le ow ak wd wt ln he en bo mo wg du nm ws tw pu ma rf tp oc rd) b Q O1:=by
 refine lf (cC (i:=1) h6 (by decide)) (lf (ay (k:=C.getD 1 0%3) (x:=gi (C.getD 1 0%3)) (l:=[gi 0,gi 1,gi 2]) (aU O1 _) (by decide) ?_) (q _ fun k hk=>List.take_append_of_le_length hk))
 rcases Kk (C.getD 1 0)with h|h|h<;>rw[h]<;>rfl
theorem L6(q:∀O2,(∀k,k≤O1.length→O2.take k=O1.take k)→Q .next (cU scr nr ce pa (some (.lst (dJ.map .int))) al pl te ga pt bs le ow ak wd wt ln he en bo mo wg du nm ws tw pu ma rf tp oc rd) O2):
 (W G3 (n+160)).s (aX iw 2) (cU scr nr ce pa ms al pl te ga pt bs le ow ak wd wt ln he en bo mo wg du nm ws tw pu ma rf tp oc rd) b Q O1:=by
 have e:dA (O1++[aT.list ((bG 65024 65040 1).map .int)]) .Add (.lst ((dJ.take 11).map .int)) (.ref O1.length)=some (.lst (dJ.map .int)):=by
  rw[show bG 65024 65040 1=dJ.drop 11 by decide]
  exact Mine.bs (f:=fun r=>if lO (((dJ.take 11).map V.int).length+r.length)then some (V.lst ((dJ.take 11).map V.int++r))else none) (aU O1 _) rfl
 exact lf e (q _ fun k hk=>List.take_append_of_le_length hk)
theorem L4(h6:C.length=6)(q:Q .next (cU scr nr (some (.lst (aC C))) pa ms (some (.int ((aE C).al:Nat))) pl te ga pt bs le ow ak wd wt ln he en bo mo wg du nm ws tw pu ma rf tp oc rd) O1):
 (W G3 (n+160)).s (aX iw 3) (cU scr nr (some (.lst (aC C))) pa ms al pl te ga pt bs le ow ak wd wt ln he en bo mo wg du nm ws tw pu ma rf tp oc rd) b Q O1:=by
 have ha:C.getD 3 0%10<10:=mod_lt _ (by decide)
 obtain⟨a1,a2⟩:=B6 _ ha
 have ia:∀{O:Oj},cN O (.tup (gI.map .int)) (.int (C.getD 3 0%10:Nat))=some (.int ((gI.getD (C.getD 3 0%10) 0).toNat:Nat)):=by
  intro O
  rw[←a1]
  exact Bs (by decide) (De ha)
 exact lf (cC (i:=3) h6 (by decide)) (lf ia (lf (lG (a:=52) (by decide) (lt_trans a2 (by decide))) q))
end
set_option backward.match.sparseCases true
end
section
variable {p:Nat}
set_option backward.match.sparseCases false
theorem s0{α β:Type}(g:α→β):∀l:List α,(l.map fun b=>[g b]).flatten=l.map g
 |[]=>rfl
 |_::l=>congrArg (_:: ·) (s0 g l)
noncomputable def k6(C:List Nat):List Nat:=cd (aE C).c0 (aE C).c1 (qS (C.getD 0 0))
noncomputable def dR(C:List Nat):fF:=rH (k6 C) (gz (C.getD 0 0)) [(aE C).c0,(aE C).c1]
theorem kz(C:List Nat):(k6 C).length=C.getD 0 0%4:=by rw[k6,aS,vp]
theorem lT(C:List Nat):(k6 C).length<4:=by rw[kz];exact mod_lt _ (by decide)
theorem El(c:Nat):∀g∈gz c,g<3:=fun g hg=>by
 obtain⟨p,_,rfl⟩:=mem_map.mp hg
 exact mod_lt _ (by decide)
theorem mG{O:Oj}{k i:Nat}(h:i<2):cN O (gi k) (.int (i:Nat))=some (.str [au k i]):=by
 have hk:(pK k).length=4:=by
  unfold pK
  split<;>rfl
 exact Bs (by rw[length_map,hk];decide) (by rw[getElem?_map,au,getD_eq_getElem?_getD,getElem?_eq_getElem (by rw[hk];exact lt_of_lt_of_le h (by decide))];rfl)
theorem Cw(h:p<4):2^p<2^300:=Nat.pow_lt_pow_of_lt (by decide) (lt_trans h (by decide))
theorem Cv(h:p<5):3^p<2^300:=lt_of_lt_of_le (Nat.pow_lt_pow_of_lt (by decide) h) (by decide)
section
variable {n b:Nat} {O O1:Oj} {Q:Fl→List Fr→Oj→Prop} {scr nr ce pa ms al pl te ga pt bs le ow ak wd wt ln he en bo mo wg du nm ws tw pu ma rf tp oc rd:Option V} {C:List Nat}
theorem Lz(h6:C.length=6)(q:Q .next (cU scr nr (some (.lst (aC C))) (some (gi (C.getD 1 0%3))) ms al pl (some (.str (k6 C))) ga pt bs le ow ak wd wt ln he en bo mo wg du nm ws tw pu ma rf tp oc rd) O1):
 (W G3 (n+160)).s (aX iw 4) (cU scr nr (some (.lst (aC C))) (some (gi (C.getD 1 0%3))) ms al pl te ga pt bs le ow ak wd wt ln he en bo mo wg du nm ws tw pu ma rf tp oc rd) b Q O1:=by
 have hm:C.getD 0 0%4<4:=mod_lt _ (by decide)
 have e:((List.range (C.getD 0 0%4)).map fun p=>V.str [au (C.getD 1 0%3) (C.getD 0 0/4/2^p%2)])=aF ((qS (C.getD 0 0)).map fun b=>[sg (aE C).c0 (aE C).c1 b]):=by
  rw[aF,qS,map_map,map_map]
  refine map_congr_left fun p _=>?_
  rcases Nat.mod_two_eq_zero_or_one (C.getD 0 0/4/2^p)with h|h
  ·show V.str [au _ (C.getD 0 0/4/2^p%2)]=V.str [sg _ _ (decide (C.getD 0 0/4/2^p%2=1))]
   rw[h];rfl
  ·show V.str [au _ (C.getD 0 0/4/2^p%2)]=V.str [sg _ _ (decide (C.getD 0 0/4/2^p%2=1))]
   rw[h];rfl
 have e2:gv [] ((qS (C.getD 0 0)).map fun b=>[sg (aE C).c0 (aE C).c1 b])=k6 C:=by rw[mX,s0];rfl
 refine lf (cC (i:=0) h6 (by decide)) (lf (bN (a:=C.getD 0 0%4) rfl (lt_trans hm (by decide))) (lf (dD (lt_trans hm (by decide))) (CF (List.range (C.getD 0 0%4)) (zE _ _ "place") (fun p=>V.str [au (C.getD 1 0%3) (C.getD 0 0/4/2^p%2)]) (fun(c:Nat)=>.int c) (.items _) (fun _ _=>rfl) (fun p hp aK K1 K2 k1 k2=>?_) (by rw[length_range];exact lt_trans hm (by decide)) (iC _ _) ?_)))
 ·have hp:=lt_trans (mem_range.mp hp) hm
  exact lf (cC (i:=0) h6 (by decide)) (lf (f7 (d:=2) (k:=p) rfl (lt_trans hp (by decide))) (lf (lK (a:=C.getD 0 0/4) (d:=2^p) (pow_pos (by decide)) (Cw hp)) (lf (mG (i:=C.getD 0 0/4/2^p%2) (mod_lt _ (by decide))) (k1 rfl))))
 ·rw[e]
  refine lf (eA rfl (cg (by decide) ?_ fun w hw=>?_)) (e2▸q)
  ·rw[length_map,vp];exact le_of_lt (lt_trans hm (by decide))
  ·obtain⟨i,_,rfl⟩:=mem_map.mp hw
   exact(by decide:1≤1000)
theorem Ly(h6:C.length=6)(q:Q .next (cU scr nr (some (.lst (aC C))) pa ms al pl (some (.str (k6 C))) (some (.lst (aC (gz (C.getD 0 0))))) pt bs le ow ak wd wt ln he en bo mo wg du nm ws tw pu ma rf tp oc rd) O1):
 (W G3 (n+160)).s (aX iw 5) (cU scr nr (some (.lst (aC C))) pa ms al pl (some (.str (k6 C))) ga pt bs le ow ak wd wt ln he en bo mo wg du nm ws tw pu ma rf tp oc rd) b Q O1:=by
 have ht:=lT C
 have e0:(((k6 C).length:Nat):Int)+1=((C.getD 0 0%4+1:Nat):Int):=by rw[kz];rfl
 have hm:C.getD 0 0%4<4:=mod_lt _ (by decide)
 have e:((List.range (C.getD 0 0%4+1)).map fun p=>V.int (C.getD 0 0/32/3^p%3:Nat))=aC (gz (C.getD 0 0)):=by rw[aC,gz,map_map];rfl
 refine lf (len_str (lt_trans ht (by decide))) (lf (bN (a:=C.getD 0 0%4+1) e0 (lt_of_le_of_lt (succ_le_succ (le_of_lt (mod_lt _ (by decide)))) (by decide))) (lf (dD (lt_of_le_of_lt (succ_le_succ (le_of_lt (mod_lt _ (by decide)))) (by decide))) (CF (List.range (C.getD 0 0%4+1)) (zE _ _ "place") (fun p=>V.int (C.getD 0 0/32/3^p%3:Nat)) (fun(c:Nat)=>.int c) (.items _) (fun _ _=>rfl) (fun p hp aK K1 K2 k1 k2=>?_) (by rw[length_range];exact lt_of_le_of_lt (succ_le_succ (le_of_lt (mod_lt _ (by decide)))) (by decide)) (eu _ _) (e▸q))))
 have hp:p<5:=lt_trans (mem_range.mp hp) (succ_lt_succ hm)
 exact lf (cC (i:=0) h6 (by decide)) (lf (f7 (d:=3) (k:=p) rfl (lt_of_lt_of_le hp (by decide))) (lf (lK (a:=C.getD 0 0/32) (d:=3^p) (pow_pos (by decide)) (Cv hp)) (k1 rfl)))
theorem Lx{text gaps:List Nat}(ht:text.length<100)(hg:gaps.length=text.length+1)(hg3:∀g∈gaps,g<3)(q:Q .next (cU scr nr ce pa ms al pl (some (.str text)) (some (.lst (aC gaps))) (some (.str (pV text gaps))) bs le ow ak wd wt ln he en bo mo wg du nm ws tw pu ma rf tp oc rd) O1):
 (W G3 (n+160)).s (aX iw 6) (cU scr nr ce pa ms al pl (some (.str text)) (some (.lst (aC gaps))) pt bs le ow ak wd wt ln he en bo mo wg du nm ws tw pu ma rf tp oc rd) b Q O1:=by
 have e:((List.range (text.length+1)).map fun p=>V.str ((replicate (gaps.getD p 0) [46,46,46]).flatten++bM text p (p+1)))=aF (yA text gaps):=by rw[aF,yA,map_map];rfl
 have hsb:∀p,(bM text p (p+1)).length≤100:=fun p=>le_trans (List.length_take_le _ _) (le_trans (le_of_eq (Nat.add_sub_cancel_left _ _)) (show 1≤100 by decide))
 have hgp:∀p,gaps.getD p 0<3:=fun p=>by
  rw[getD_eq_getElem?_getD]
  cases hq:gaps[p]? with
  |none=>exact(by decide:0<3)
  |some g=>exact hg3 g (mem_of_getElem? hq)
 have hrl:∀p,(replicate (gaps.getD p 0) [46,46,46]).flatten.length≤9:=fun p=>by
  have:=hgp p
  rw[List.length_flatten,List.map_replicate,List.sum_replicate_nat]
  show _*3≤9
  exact Nat.mul_le_mul_right _ (le_of_lt this)
 refine lf (len_str (lt_trans (by with_reducible assumption) (by decide))) (lf (bN (a:=text.length+1) rfl (lt_of_le_of_lt (succ_le_succ (le_of_lt ht)) (by decide))) (lf (dD (lt_of_le_of_lt (succ_le_succ (le_of_lt ht)) (by decide))) (CF (List.range (text.length+1)) (zE _ _ "place") (fun p=>V.str ((replicate (gaps.getD p 0) [46,46,46]).flatten++bM text p (p+1))) (fun(c:Nat)=>.int c) (.items _) (fun _ _=>rfl) (fun p hp aK K1 K2 k1 k2=>?_) (by rw[length_range];exact lt_of_le_of_lt (succ_le_succ (le_of_lt ht)) (by decide)) (iC _ _) ?_)))
 ·have hp:=mem_range.mp hp
  have h1:=hrl p
  have h2:=hsb p
  have h3:=hgp p
  exact lf (lF (l:=gaps) rfl (lt_of_le_of_lt (le_trans (le_of_eq hg) (succ_le_succ (le_of_lt ht))) (by decide)) (lt_of_lt_of_le (by with_reducible assumption) (le_of_eq (Eq.symm (by with_reducible assumption))))) (lf (Cp (l:=[46,46,46]) (k:=gaps.getD p 0) (lt_trans (by with_reducible assumption) (by decide)) (by show 3*_<1000000;exact lt_of_le_of_lt (mul_le_mul_left _ (le_of_lt h3)) (by decide))) (lf (Dw (a:=p) (c:=p+1) rfl rfl (lt_trans (by with_reducible assumption) (by decide)) (le_of_lt_succ (by with_reducible assumption))) (lf (dP (lt_of_le_of_lt (add_le_add h1 h2) (by decide))) (k1 rfl))))
 ·rw[e]
  refine lf (eA rfl (cg (by decide) ?_ fun w hw=>?_)) q
  ·rw[yA,length_map,length_range];exact lt_trans (by with_reducible assumption) (by decide)
  ·obtain⟨p,_,rfl⟩:=mem_map.mp hw
   have h1:=hrl p
   have h2:=hsb p
   rw[length_append];exact le_trans (add_le_add h1 h2) (by decide)
end
set_option backward.match.sparseCases true
end
section
variable {R:D9}
set_option backward.match.sparseCases false
section
variable {n b:Nat} {O O1:Oj} {Q:Fl→List Fr→Oj→Prop} {scr nr ce pa ms al pl te ga pt bs le ow ak wd wt ln he en bo mo wg du nm ws tw pu ma rf tp oc rd:Option V} {C:List Nat}
theorem Lw(h6:C.length=6)(q:Q .next (cU scr nr (some (.lst (aC C))) (some (gi (C.getD 1 0%3))) ms al pl (some (.str (k6 C))) (some (.lst (aC (gz (C.getD 0 0))))) pt (some (.int ((aE C).base:Nat))) (some (.str [(aE C).c0,(aE C).c1])) (some (.lst (az (dR C)))) (some (.ref O1.length)) wd wt ln he en bo mo wg du nm ws tw pu ma rf tp oc rd) (O1++[.dS []])):
 (W G3 (n+160)).s (aX iw 7) (cU scr nr (some (.lst (aC C))) (some (gi (C.getD 1 0%3))) ms al pl (some (.str (k6 C))) (some (.lst (aC (gz (C.getD 0 0))))) pt bs le ow ak wd wt ln he en bo mo wg du nm ws tw pu ma rf tp oc rd) b Q O1:=by
 have p0:∀{O:Oj},cN O (gi (C.getD 1 0%3)) (.int 0)=some (.str [(aE C).c0]):=mG (i:=0) (by decide)
 have p1:∀{O:Oj},cN O (gi (C.getD 1 0%3)) (.int 1)=some (.str [(aE C).c1]):=mG (i:=1) (by decide)
 refine lf (cC (i:=4) h6 (by decide)) (lf p0 (lf p1 (lf p0 (lf p1 (C6 (lt_trans (lT C) (by decide)) (by rw[lI,kz]) (show[(aE C).c0,(aE C).c1].length<100 by show 2<100;decide) ?_)))))
 exact q
theorem Lv(h6:C.length=6)(q:Q .next (cU scr nr (some (.lst (aC C))) (some (gi (C.getD 1 0%3))) (some (.lst (dJ.map .int))) (some (.int ((aE C).al:Nat))) pl te ga pt (some (.int ((aE C).base:Nat))) le ow ak (some (wV [] (aE C).st (aE C).base [(aE C).c0] [(aE C).c1] (aE C).p2 (aE C).p3 (aE C).mar (aE C).al)) wt ln he en bo mo wg du nm ws tw pu ma rf tp oc rd) O1):
 (W G3 (n+160)).s (aX iw 8) (cU scr nr (some (.lst (aC C))) (some (gi (C.getD 1 0%3))) (some (.lst (dJ.map .int))) (some (.int ((aE C).al:Nat))) pl te ga pt (some (.int ((aE C).base:Nat))) le ow ak wd wt ln he en bo mo wg du nm ws tw pu ma rf tp oc rd) b Q O1:=by
 have hm:C.getD 2 0/4%27<27:=mod_lt _ (by decide)
 obtain⟨m1,m2⟩:=DI _ hm
 have ep:∀k,gi k=.tup [.str [au k 0],.str [au k 1],.str [au k 2],.str [au k 3]]:=fun k=>by
  unfold gi au pK
  split<;>rfl
 rw[ep]at q ⊢
 refine lf (cC (i:=2) h6 (by decide)) (lf (cC (i:=2) h6 (by decide)) (lf (D4 (v:=.lst (dJ.map .int)) (k:=C.getD 2 0/4%27) rfl (by decide) hm) (lf (qD m1 m2) ?_)))
 exact q
theorem Lu(h6:C.length=6)(H:hV (aE C).want (C.getD 1 0/3%4) [(aE C).c0] [(aE C).c1] (aE C).p2 (aE C).p3 (aE C).mar (aE C).al)(hs:jJ (aE C).want (C.getD 1 0/3%4) [(aE C).c0] [(aE C).c1] (aE C).p2 (aE C).p3 (aE C).mar (aE C).al=(aE C).want)(q:Q .next (cU scr nr (some (.lst (aC C))) pa ms al pl te ga (some (.str (aE C).want)) bs le ow ak (some (wV [] (aE C).st (aE C).base [(aE C).c0] [(aE C).c1] (aE C).p2 (aE C).p3 (aE C).mar (aE C).al)) (some (.str (aE C).want)) ln he en bo mo wg du nm ws tw pu ma rf tp oc rd) O1):
 (W G3 (n+160)).s (aX iw 9) (cU scr nr (some (.lst (aC C))) pa ms al pl te ga (some (.str (aE C).want)) bs le ow ak (some (wV [] (aE C).st (aE C).base [(aE C).c0] [(aE C).c1] (aE C).p2 (aE C).p3 (aE C).mar (aE C).al)) wt ln he en bo mo wg du nm ws tw pu ma rf tp oc rd) b Q O1:=by
 have q':∀w,w=(aE C).want→Q .next (cU scr nr (some (.lst (aC C))) pa ms al pl te ga (some (.str (aE C).want)) bs le ow ak (some (wV [] (aE C).st (aE C).base [(aE C).c0] [(aE C).c1] (aE C).p2 (aE C).p3 (aE C).mar (aE C).al)) (some (.str w)) ln he en bo mo wg du nm ws tw pu ma rf tp oc rd) O1:=fun w e=>e▸q
 exact lf (cC (i:=1) h6 (by decide)) (wF (aW:=C.getD 1 0/3%4) H (q' _ hs))
theorem KP{ra:Nat}{f:List Bool→Bool}(H:eZ (aE C) f)(hA:O1[ra]? =some (.dS []))(hf:∀b,cH [(aE C).c0,(aE C).c1] [sg (aE C).c0 (aE C).c1 b] 0 2=(b1 b:Nat))(hOl:(dR C).length<290)(hOr:∀p∈dR C,p.2.length<290)(h:lrn f (dR C) 8 0 [[]] [[]] []=some R)
 (q:Q .next (cU scr nr ce pa ms al pl te ga pt bs le (some (.lst (az (dR C)))) (some (.ref ra)) (some (wV [] (aE C).st (aE C).base [(aE C).c0] [(aE C).c1] (aE C).p2 (aE C).p3 (aE C).mar (aE C).al)) (some (.str (aE C).want)) (some (uY (aE C) R)) he en bo mo wg du nm ws tw pu ma rf tp oc rd) (O1.set ra (.dS (aN (aE C).c0 (aE C).c1 R.A)))):
 (W G3 (n+160)).s (aX iw 10) (cU scr nr ce pa ms al pl te ga pt bs le (some (.lst (az (dR C)))) (some (.ref ra)) (some (wV [] (aE C).st (aE C).base [(aE C).c0] [(aE C).c1] (aE C).p2 (aE C).p3 (aE C).mar (aE C).al)) (some (.str (aE C).want)) ln he en bo mo wg du nm ws tw pu ma rf tp oc rd) b Q O1:=by
 have hb:(aE C).base<34:=mod_lt _ (by decide)
 exact DQ (D:=aE C) H H.ne hb hA hf (fun S=>i8.lst S _) hOl hOr h q
theorem KO(q:Q .next (cU scr nr ce pa ms al pl te ga (some (.str (aE C).want)) bs le ow ak wd (some (.str (aE C).want)) (some (uY (aE C) R)) he en bo mo wg du nm ws tw pu ma rf tp oc rd) O1):
 (W G3 (n+160)).s (aX iw 11) (cU scr nr ce pa ms al pl te ga (some (.str (aE C).want)) bs le ow ak wd (some (.str (aE C).want)) (some (uY (aE C) R)) he en bo mo wg du nm ws tw pu ma rf tp oc rd) b Q O1:=by
 refine uB (t:= !!decide ((aE C).want=(aE C).want)) (by rw[decide_eq_true rfl];rfl) ?_
 exact q
theorem KN(q:Q .next (cU scr nr ce pa ms al pl te ga pt bs le ow ak wd wt (some (uY (aE C) R)) (some (.lst (aF (R.hs.map (cd (aE C).c0 (aE C).c1))))) (some (.lst (aF (R.es.map (cd (aE C).c0 (aE C).c1))))) (some (.lst (aQ (2^(aE C).base) R.bk))) (some (.lst (az R.mv))) wg du nm ws tw pu ma rf tp oc rd) O1):
 (W G3 (n+160)).s (aX iw 12) (cU scr nr ce pa ms al pl te ga pt bs le ow ak wd wt (some (uY (aE C) R)) he en bo mo wg du nm ws tw pu ma rf tp oc rd) b Q O1:=by
 exact q
end
set_option backward.match.sparseCases true
end
section
variable {B ra:Nat} {l:List V} {a c:V}
set_option backward.match.sparseCases false
noncomputable def Lc(a c:Nat×Int):Bool:=decide (a.1<c.1)||(decide (a.1=c.1)&&decide (a.2<c.2))
noncomputable def wr(l:List (Nat×Int))(i j:Nat):Option Bool:=(l[i]?).bind fun a=>(l[j]?).bind fun c=>some (Lc a c)
noncomputable def kF(l:List (Nat×Int)):Option (List (Nat×Int)):=(pT (wr l) (kas_sort l.length)).bind fun p=>if p.toList.all (fun i=>decide (i<l.length))then some (aO l p.toList)else none
noncomputable def pv(B:Nat)(p:Nat×Int):V:=.tup [.int ((p.1*B:Nat):Int),.int p.2]
theorem rD{α β:Type}(f:α→β)(l:List α)(is:List Nat):aO (l.map f) is=(aO l is).map f:=by
 rw[aO,aO,List.map_filterMap]
 exact congrArg (fun g=>is.filterMap g) (funext fun i=>getElem?_map ..)
theorem GK(h:0<B)(a c:Nat×Int):Jn (pv B a) (pv B c)=some (Lc a c):=by
 show some (decide (((a.1*B:Nat):Int)<((c.1*B:Nat):Int))||(decide (((a.1*B:Nat):Int)=((c.1*B:Nat):Int))&&decide (a.2<c.2)))=_
 have e1:decide (((a.1*B:Nat):Int)<((c.1*B:Nat):Int))=decide (a.1<c.1):=decide_eq_decide.mpr (gq h)
 have e2:decide (((a.1*B:Nat):Int)=((c.1*B:Nat):Int))=decide (a.1=c.1):=decide_eq_decide.mpr ⟨fun z=>Nat.eq_of_mul_eq_mul_right h (Int.ofNat.inj z),fun z=>by rw[z]⟩
 rw[e1,e2];rfl
theorem v4(h:0<B)(l:List (Nat×Int)):kE (l.map (pv B))=(kF l).map (·.map (pv B)):=by
 have e1:(l.map (pv B)).all rG=true:=all_eq_true.mpr fun v hv=>by
  obtain⟨c,_,rfl⟩:=mem_map.mp hv;rfl
 have e2:Aj (l.map (pv B))=wr l:=funext fun i=>funext fun j=>by
  unfold Aj wr
  refine Eq.symm (getElem?_map)▸Eq.symm (getElem?_map)▸?_
  cases l[i]? with
  |none=>rfl
  |some a=>
   cases l[j]? with
   |none=>rfl
   |some c=>exact GK h a c
 unfold kE kF
 rw[if_pos e1,e2,length_map]
 cases pT (wr l) (kas_sort l.length)with
 |none=>rfl
 |some p=>
  show(if _ then some (aO (l.map (pv B)) p.toList)else none)=map _ (if _ then some (aO l p.toList)else none)
  split
  ·exact congrArg some (rD (pv B) l p.toList)
  ·rfl
theorem jg{r:List V}{b:Nat}{O:Oj}(h1:1≤l.length)(h64:l.length<64)(h:kE l=some r):cq (u "sorted") [.lst l] b O=some (.lst r,O):=by
 have e:cq (u "sorted") [.lst l] b O=if 1≤l.length&&l.length<64 then(kE l).map fun r=>(V.lst r,O)else none:=by kernel_rfl!
 rw[e,if_pos (and_eq_true_iff.mpr ⟨decide_eq_true h1,decide_eq_true h64⟩),h];rfl
theorem im{f:V→V→Option Bool}:∀l:List V,(∀v∈l,f v v=some true)→fR f l l=some true
 |[],_=>rfl
 |v::l,h=>bs (h v (mem_cons_self ..)) (by rw[im l fun x hx=>h x (mem_cons_of_mem _ hx)];rfl)
theorem xH{O:Oj}(ha:iO O a=some l)(hc:iO O c=some l)(hl:∀v∈l,dq O 8 v v=some true):dq O 9 a c=some true:=by
 have e:Jq O (dq O 8) l c=some true:=bs hc ((if_pos (beq_self_eq_true _)).trans (im l hl))
 cases a with
 |lst l'=>obtain rfl:=sI ha;exact e
 |ref n=>exact bs (show lA O n=some l from ha) e
 |_=>exact nN ha
theorem vT(O:Oj)(n:Nat)(i:Int):dq O (n+1) (.int i) (.int i)=some true:=congrArg some (decide_eq_true rfl)
theorem Dn{O:Oj}{n:Nat}{x y:V}(hx:dq O n x x=some true)(hy:dq O n y y=some true):dq O (n+1) (.tup [x,y]) (.tup [x,y])=some true:=
 show fR (dq O n) [x,y] [x,y]=some true from im [x,y] fun v hv=>by
  rcases mem_cons.mp hv with rfl|hv
  ·exact hx
  ·obtain rfl:=mem_singleton.mp hv;exact hy
theorem uo{O:Oj}(ha:iO O a=some l)(hc:iO O c=some l)(hl:∀v∈l,dq O 8 v v=some true):i5 G3 O .NotEq a c=some false:=congrArg (map (!·)) (xH ha hc hl)
noncomputable def aK(T:fF)(w:List Bool):Option Bool:=(CD T w 0).bind fun r=>((0::r).getLast?).bind fun s=>(T[s]?).map (·.1)
theorem DY{α:Type}{J:WI}{tgt:Expr}{ifs:List Expr}{elt:Expr}{O:Oj}{FR:Option α→List Fr}{e:α→V}{Q:Oj→Prop}{d:List (V×V)}(hd:cI O ra=some d)(set:∀t a,dG (FR t) tgt (e a)=some (FR (some a)))(l:List α):∀(f k:Nat) (t:Option α) (aK:List V),
 (∀a∈l,xU J ifs elt O FR (fun _=>false) e a)→(d.drop k).map (·.1)=l.map e→l.length<f→Q (O++[.list aK])→iX J tgt ifs elt O.length (fun _=>Q) f (.keys ra k d.length) (FR t) (O++[.list aK]):=by
 have hda:∀X,cI (O++X) ra=some d:=fun X=>by
  unfold cI at hd ⊢
  cases hO:O[ra]? with
  |none=>rw[hO]at hd;exact nomatch hd
  |some o=>rw[eX hO];rw[hO]at hd;exact hd
 have hn:∀X k,gB (O++X) (.keys ra k d.length)=some ((d[k]?).map fun e=>(e.1,.keys ra (k+1) d.length)):=fun X k=>by
  show(cI (O++X) ra).bind _=_
  rw[hda]
  exact if_pos rfl
 induction l with
 |nil=>
  intro f k t aK st h hf q
  cases f with
  |zero=>exact absurd hf (not_lt_zero _)
  |succ f=>
   have hk:d[k]? =none:=by
    rw[List.getElem?_eq_none_iff]
    exact drop_eq_nil_iff.mp (List.map_eq_nil_iff.mp h)
   exact lf (v:=none) (by rw[hn,hk,Option.map_none]) q
 |cons a l ih=>
  intro f k t aK st h hf q
  cases f with
  |zero=>exact absurd hf (not_lt_zero _)
  |succ f=>
   cases hk:d[k]? with
   |none=>rw[drop_eq_nil_iff.mpr (List.getElem?_eq_none_iff.mp hk)]at h;exact nomatch h
   |some p=>
    obtain⟨hlt,hp⟩:=List.getElem?_eq_some_iff.mp hk
    rw[List.drop_eq_getElem_cons hlt,hp,map_cons,map_cons]at h
    obtain⟨h1,h2⟩:=List.cons.inj h
    refine lf (v:=some (e a,.keys ra (k+1) d.length)) (by rw[hn,hk, ←h1];rfl) (lf (set t a) (st a (mem_cons_self ..) aK _ _ (fun hp=>nomatch hp) fun _=>?_))
    exact ih f (k+1) _ aK (fun x hx=>st x (mem_cons_of_mem _ hx)) h2 (lt_of_succ_lt_succ hf) q
theorem zT{O:Oj}{r:Nat}{l:List (List Nat×V)}(h:O[r]? =some (.dS l)):gb O (.ref r)=some (.keys r 0 l.length)∧cI O r=some (l.map fun e=>(.str e.1,e.2)):=by
 have h1:lA O r=none:=by unfold lA;rw[h]
 have h2:cI O r=some (l.map fun e=>(.str e.1,e.2)):=by unfold cI;rw[h]
 refine⟨?_,h2⟩
 show(match lA O r with|some _=>some (gV.live r 0)|none=>(cI O r).map fun l:List (V×V)=>gV.keys r 0 l.length)=_
 refine Eq.symm (h1)▸Eq.symm (h2)▸?_
 show some (gV.keys r 0 (List.map _ l).length)=_
 rw[length_map]
section
variable {n b:Nat} {O O1:Oj} {Q:Fl→List Fr→Oj→Prop} {scr nr ce pa ms al pl te ga pt bs le ow ak wd wt ln he en bo mo wg du nm ws tw pu ma rf tp oc rd:Option V} {C:List Nat}
theorem KM{T:fF}{A:bJ}(hne:(aE C).c0≠(aE C).c1)(hf:∀b,cH [(aE C).c0,(aE C).c1] [sg (aE C).c0 (aE C).c1 b] 0 2=(b1 b:Nat))(hA:O1[ra]? =some (.dS (aN (aE C).c0 (aE C).c1 A)))(hAl:A.length<290)(hw:∀p∈A,p.1.length<200)(hT:T.length<290)(hTr:∀p∈T,p.2.length<290)(hacc:∀p∈A,aK T p.1=some p.2)
 (q:Q .next (cU scr nr ce pa ms al pl te ga pt bs (some (.str [(aE C).c0,(aE C).c1])) (some (.lst (az T))) (some (.ref ra)) wd wt ln he en bo mo (some (.lst [])) du nm ws tw pu ma rf tp oc rd) O1):
 (W G3 (n+160)).s (aX iw 13) (cU scr nr ce pa ms al pl te ga pt bs (some (.str [(aE C).c0,(aE C).c1])) (some (.lst (az T))) (some (.ref ra)) wd wt ln he en bo mo wg du nm ws tw pu ma rf tp oc rd) b Q O1:=by
 obtain⟨k1,k2⟩:=zT hA
 refine lf k1 ⟨?_⟩
 have hlen:(aN (aE C).c0 (aE C).c1 A).length=A.length:=length_map ..
 have hd:((aN (aE C).c0 (aE C).c1 A).map fun e=>(V.str e.1,e.2)).length=(aN (aE C).c0 (aE C).c1 A).length:=length_map ..
 refine(hd)▸?_
 refine DY (e:=fun p:List Bool×Bool=>.str (cd (aE C).c0 (aE C).c1 p.1)) (FR:=HK (fun p:List Bool×Bool=>.str (cd (aE C).c0 (aE C).c1 p.1)) _ _ "word") k2 (fun _ _=>rfl) A 300 0 none [] (fun p hp acc' K1 K2 q1 q2=>?_) ?_ (lt_trans hAl (by decide)) ?_
 ·have hL:∃t,A.lookup p.1=some t∧(p.1,t)∈A:=by
   clear hacc hw hAl hA hlen hd k1 k2
   induction A with
   |nil=>exact nomatch hp
   |cons z A ih=>
    rw[lookup_cons]
    by_cases e:p.1=z.1
    ·rw[e,beq_self_eq_true]
     exact⟨z.2,rfl,mem_cons_self ..⟩
    ·rw[beq_eq_false_iff_ne.mpr e]
     rcases mem_cons.mp hp with h|h
     ·exact absurd (congrArg (·.1) h) e
     ·obtain⟨t,h1,h2⟩:=ih h
      exact⟨t,h1,mem_cons_of_mem _ h2⟩
  refine hG fun _ kk=>?_
  obtain⟨t,hL,hm⟩:=hL
  have ha:=hacc _ hm
  obtain⟨r,hr,ha⟩:=gU ha
  obtain⟨s,hs,ha⟩:=gU ha
  obtain⟨row,hrow,e⟩:=wk ha
  obtain⟨x,hx,hxr⟩:=(i8.lst (O1++[aT.list acc']) T).row (lt_trans hT (by decide)) hrow
  refine kk ?_
  refine lf (vf hne (eX hA) hL) (mV hf (i8.lst _ T) hT hTr (hw p hp) hr (lf (gu hs) (lf hx (lf (v9 hxr (hTr row (mem_of_getElem? hrow))) ?_))))
  refine Ff (t:= !(t==row.1)) ?_ (q2 rfl)
  rw[show t=row.1 from e.symm,beq_self_eq_true];rfl
 ·rw[aN,drop_zero,map_map,map_map];rfl
 ·exact pg rfl rfl q
end
set_option backward.match.sparseCases true
end
section
variable {hs:List (List Bool)}
set_option backward.match.sparseCases false
noncomputable def JS(T:fF)(w:List Bool):Bool:=aK T w==some true
noncomputable def Eh(T:fF)(h:List Bool)(es:List (List Bool)):List Nat:=(List.range es.length).filter fun k=>JS T (h++es.getD k [])
noncomputable def ee(T:fF)(hs es:List (List Bool)):List (Nat×Int):=(List.range hs.length).map fun p=>(jo (Eh T (hs.getD p []) es),(p:Int))
theorem DB(a c:List Nat):jo (a++c)=jo a+jo c:=by rw[jo,map_append,List.sum_append];rfl
theorem iu(p:Nat→Bool):∀n,jo ((List.range n).filter p)<2^n
 |0=>Nat.zero_lt_one
 |n+1=>by
  rw[range_succ,List.filter_append,DB]
  have ih:=iu p n
  have h:jo ([n].filter p)≤2^n:=by
   cases hp:p n with
   |true=>rw[List.filter_cons_of_pos hp];exact le_refl _
   |false=>rw[List.filter_cons_of_neg (by rw[hp];decide)];exact zero_le _
  rw[Nat.pow_succ,Nat.mul_two]
  exact Nat.add_lt_add_of_lt_of_le ih h
theorem mB{B:Nat}:∀l:List (Nat×Int),d0 (l.map (pv B))=true
 |[]=>rfl
 |_::l=>mB l
theorem C9{base:Nat}{ks:List Nat}:((ks.map fun k=>V.int ((2^(base+k):Nat):Int)))=aC (ks.map fun k=>2^(base+k)):=by rw[aC,map_map];rfl
theorem BH(O:Oj){B:Nat}(l:List (Nat×Int)):∀v∈l.map (pv B),dq O 8 v v=some true:=fun v hv=>by
 obtain⟨c,_,rfl⟩:=mem_map.mp hv;exact Dn (vT O 6 _) (vT O 6 _)
section
variable {n b:Nat} {O O1:Oj} {Q:Fl→List Fr→Oj→Prop} {scr nr ce pa ms al pl te ga pt bs le ow ak wd wt ln he en bo mo wg du nm ws tw pu ma rf tp oc rd:Option V} {C:List Nat}
theorem KL{T:fF}{es:List (List Bool)}(hf:∀b,cH [(aE C).c0,(aE C).c1] [sg (aE C).c0 (aE C).c1 b] 0 2=(b1 b:Nat))(hT:T.length<290)(hTr:∀p∈T,p.2.length<290)(htot:∀w:List Bool,w.length<200→(aK T w).isSome=true)(hhl:hs.length<200)(hel:es.length<20)(hhs:∀h∈hs,h.length<90)(hes:∀h∈es,h.length<90)(q:Q .next (cU scr nr ce pa ms al pl te ga pt (some (.int ((aE C).base:Nat))) (some (.str [(aE C).c0,(aE C).c1])) (some (.lst (az T))) ak wd wt ln (some (.lst (aF (hs.map (cd (aE C).c0 (aE C).c1))))) (some (.lst (aF (es.map (cd (aE C).c0 (aE C).c1))))) bo mo wg (some (.lst ((ee T hs es).map (pv (2^(aE C).base))))) nm ws tw pu ma rf tp oc rd) O1):
 (W G3 (n+160)).s (aX iw 14) (cU scr nr ce pa ms al pl te ga pt (some (.int ((aE C).base:Nat))) (some (.str [(aE C).c0,(aE C).c1])) (some (.lst (az T))) ak wd wt ln (some (.lst (aF (hs.map (cd (aE C).c0 (aE C).c1))))) (some (.lst (aF (es.map (cd (aE C).c0 (aE C).c1))))) bo mo wg du nm ws tw pu ma rf tp oc rd) b Q O1:=by
 have hbase:(aE C).base<34:=mod_lt _ (by decide)
 have e1:((List.range hs.length).map fun p=>pv (2^(aE C).base) (jo (Eh T (hs.getD p []) es),(p:Int)))=(ee T hs es).map (pv (2^(aE C).base)):=by rw[ee,map_map];rfl
 have hl1:(aF (hs.map (cd (aE C).c0 (aE C).c1))).length<300:=by rw[a8];exact lt_trans hhl (by decide)
 have hl2:((aF (hs.map (cd (aE C).c0 (aE C).c1))).length:Int)=(hs.length:Nat):=by rw[a8]
 have hl3:(aF (es.map (cd (aE C).c0 (aE C).c1))).length<300:=by rw[a8];exact lt_trans hel (by decide)
 have hl4:((aF (es.map (cd (aE C).c0 (aE C).c1))).length:Int)=(es.length:Nat):=by rw[a8]
 refine lf (ai (v:=.lst (aF (hs.map (cd (aE C).c0 (aE C).c1)))) rfl hl1) (lf (bN hl2 (lt_trans hhl (by decide))) (lf (dD (lt_trans hhl (by decide))) (CF (List.range hs.length) (zE _ _ "place") (fun p=>pv (2^(aE C).base) (jo (Eh T (hs.getD p []) es),(p:Int))) (fun(c:Nat)=>.int c) (.items _) (fun _ _=>rfl) (fun p hp acc1 K1 K2 k1 k2=>?_) (by rw[length_range];exact lt_trans hhl (by decide)) ?_ ?_)))
 ·have hp:=mem_range.mp hp
  have hpg:hs[p]? =some (hs.getD p []):=by rw[getD_eq_getElem?_getD,getElem?_eq_getElem hp];rfl
  have hpl:=hhs _ (mem_of_getElem? hpg)
  refine lf (ai (v:=.lst (aF (es.map (cd (aE C).c0 (aE C).c1)))) rfl hl3) (lf (bN hl4 (lt_trans hel (by decide))) (lf (dD (lt_trans hel (by decide))) (lc (List.range es.length) (zE _ _ "k") (fun k=>JS T (hs.getD p []++es.getD k [])) (fun k=>V.int ((2^((aE C).base+k):Nat):Int)) (fun(c:Nat)=>.int c) (.items _) (fun _ _=>rfl) (fun k hk acc2 K1 K2 q1 q2=>?_) (by rw[length_range];exact lt_trans hel (by decide)) ?_ ?_)))
  ·have hk:=mem_range.mp hk
   have hkg:es[k]? =some (es.getD k []):=by rw[getD_eq_getElem?_getD,getElem?_eq_getElem hk];rfl
   have hkl:=hes _ (mem_of_getElem? hkg)
   have hw:(hs.getD p []++es.getD k []).length<200:=by rw[length_append];exact lt_of_le_of_lt (add_le_add (le_of_lt hpl) (le_of_lt hkl)) (by decide)
   refine hG fun _ kk=>?_
   obtain⟨t,ht⟩:=isSome_iff_exists.mp (htot _ hw)
   have hacc:=ht
   obtain⟨r,hr,ht⟩:=gU ht
   obtain⟨s,hs',ht⟩:=gU ht
   obtain⟨row,hrow,e⟩:=wk ht
   refine kk ?_
   refine lf (ay (v:=.lst (aF (hs.map (cd (aE C).c0 (aE C).c1)))) (k:=p) rfl hl1 (j0 hpg)) (lf (ay (v:=.lst (aF (es.map (cd (aE C).c0 (aE C).c1)))) (k:=k) rfl hl3 (j0 hkg)) (lf (dP (by rw[aS,aS];exact lt_of_le_of_lt (add_le_add (le_of_lt hpl) (le_of_lt hkl)) (by decide))) ?_))
   rw[←j4]
   refine mV hf (i8.lst _ T) hT hTr hw hr ?_
   obtain⟨x,hx,hxr⟩:=(i8.lst (O1++[aT.list acc1]++[aT.list acc2]) T).row (lt_trans hT (by decide)) hrow
   refine lf (gu hs') (lf hx (lf (v9 hxr (hTr row (mem_of_getElem? hrow))) ?_))
   refine sl (t:=row.1) (fun h=>?_) fun h=>q2 ?_
   ·refine lf (ub (k:=(aE C).base+k) rfl (lt_of_le_of_lt (add_le_add (le_of_lt hbase) (le_trans (le_of_lt hk) (le_of_lt hel))) (by decide))) (q1 ?_)
    show(aK T _==some true)=true
    rw[hacc, ←e,h];rfl
   ·show(aK T _==some true)=false
    rw[hacc, ←e,h];rfl
  ·exact eu _ _
  ·have hn:jo (Eh T (hs.getD p []) es)<2^20:=lt_of_lt_of_le (iu _ _) (pow_le_pow_right (by decide) (le_of_lt hel))
   have hs2:((Eh T (hs.getD p []) es).map fun k=>2^((aE C).base+k)).sum<2^62:=by
    rw[fS]
    exact lt_of_lt_of_le (Nat.mul_lt_mul_of_lt_of_le hn (pow_le_pow_right (by decide) (le_of_lt hbase)) (pow_pos (by decide))) (by decide)
   rw[C9]
   refine lf (vy rfl (by rw[length_map];exact lt_of_le_of_lt (length_filter_le _ _) (by rw[length_range];exact lt_trans hel (by decide))) hs2) ?_
   have this:K1 (.tup [.int ((jo (Eh T (hs.getD p []) es)*2^(aE C).base:Nat):Int),.int (p:Nat)]) _:=k1 rfl
   have this:=(show jo (Eh T (hs.getD p []) es)*2^(aE C).base=((Eh T (hs.getD p []) es).map fun k=>2^((aE C).base+k)).sum from(fS _ _).symm)▸this
   exact this
 ·rw[e1];exact mB _
 ·rw[e1];exact q
theorem KK{bk D:List (Nat×Int)}(hhl:hs.length<200)(hD1:1≤D.length)(hD2:D.length<64)(hlen:hs.length=(k6 C).length+if(gz (C.getD 0 0)).getD 0 0=0 then 2 else 1)(hsort:kF D=some bk)(q:Q .next (cU scr nr ce pa ms al pl (some (.str (k6 C))) (some (.lst (aC (gz (C.getD 0 0))))) pt bs le ow ak wd wt ln (some (.lst (aF (hs.map (cd (aE C).c0 (aE C).c1))))) en (some (.lst (bk.map (pv (2^(aE C).base))))) mo (some (.lst [])) (some (.lst (D.map (pv (2^(aE C).base))))) nm ws tw pu ma rf tp oc rd) O1):
 (W G3 (n+160)).s (aX iw 15) (cU scr nr ce pa ms al pl (some (.str (k6 C))) (some (.lst (aC (gz (C.getD 0 0))))) pt bs le ow ak wd wt ln (some (.lst (aF (hs.map (cd (aE C).c0 (aE C).c1))))) en (some (.lst (bk.map (pv (2^(aE C).base))))) mo (some (.lst [])) (some (.lst (D.map (pv (2^(aE C).base))))) nm ws tw pu ma rf tp oc rd) b Q O1:=by
 have hl1:(aF (hs.map (cd (aE C).c0 (aE C).c1))).length<300:=by rw[a8];exact lt_trans hhl (by decide)
 have hl2:((aF (hs.map (cd (aE C).c0 (aE C).c1))).length:Int)=(hs.length:Nat):=by rw[a8]
 have hB:0<2^(aE C).base:=pow_pos (by decide)
 have hsv:kE (D.map (pv (2^(aE C).base)))=some (bk.map (pv (2^(aE C).base))):=by rw[v4 hB,hsort];rfl
 refine(lf (ai (v:=.lst (aF (hs.map (cd (aE C).c0 (aE C).c1)))) rfl hl1) (lf (len_str (lt_trans (lT C) (by decide))) (lf (lF (l:=gz (C.getD 0 0)) (k:=0) rfl (by rw[lI];exact lt_of_le_of_lt (succ_le_succ (le_of_lt (mod_lt _ (by decide)))) (by decide)) (by rw[lI];exact succ_pos _)) ?_)))
 refine Eq.symm (hl2)▸?_
 refine sd (p:=(((gz (C.getD 0 0)).getD 0 0:Nat):Int)≠0) (fun h=>?_) fun h=>?_
 ·have h0:¬(gz (C.getD 0 0)).getD 0 0=0:=fun z=>h (congrArg Int.ofNat z)
  rw[if_neg h0]at hlen
  have e:(hs.length:Int)=((k6 C).length:Int)+1:=by rw[hlen];rfl
  refine uB (t:= !!decide ((hs.length:Int)=((k6 C).length:Int)+1)) (by rw[decide_eq_true e];rfl) ?_
  refine lf (jg (by rw[length_map];exact hD1) (by rw[length_map];exact hD2) hsv) (lf (uo rfl rfl (BH _ bk)) ?_)
  exact q
 ·have h0:(gz (C.getD 0 0)).getD 0 0=0:=Int.ofNat.inj (Decidable.of_not_not h)
  rw[if_pos h0]at hlen
  have e:(hs.length:Int)=((k6 C).length:Int)+2:=by rw[hlen];rfl
  refine uB (t:= !!decide ((hs.length:Int)=((k6 C).length:Int)+2)) (by rw[decide_eq_true e];rfl) ?_
  refine lf (jg (by rw[length_map];exact hD1) (by rw[length_map];exact hD2) hsv) (lf (uo rfl rfl (BH _ bk)) ?_)
  exact q
end
set_option backward.match.sparseCases true
end
section
variable {k a d:Nat} {i j:Int}
set_option backward.match.sparseCases false
noncomputable def zD:List (List Nat):=["OPTIMIZED","NEWLOCALS","VARARGS","VARKEYWORDS","NESTED","GENERATOR","NOFREE","COROUTINE","ITERABLE_COROUTINE","ASYNC_GENERATOR"].map fun s=>(ofString s).cps.toList
theorem zF(b:Nat)(O:Oj):dU G3 (u "split") (.str (ofString "OPTIMIZED NEWLOCALS VARARGS VARKEYWORDS NESTED GENERATOR NOFREE COROUTINE ITERABLE_COROUTINE ASYNC_GENERATOR").cps.toList) [] b O=some (.ref O.length,O++[.list (aF zD)]):=by kernel_rfl!
noncomputable def gG(k:Nat):List Nat:=if k<10 then zD.getD k []else fX (2^k)
noncomputable def s9(base el N:Nat):List Nat:=(range' base (min (base+el) 32-base)).filter fun k=>decide (N/2^k%2≠0)
noncomputable def m3(N:Nat):List (List Nat):=if N≥2^32∨N=0 then[fX (N/2^32*2^32)]else[]
noncomputable def IY(base el N:Nat):List (List Nat):=(s9 base el N).map gG++m3 N
structure nW (base el N:Nat):Prop where
 lt:N<2^40
 j1:JoinOk (S [44,32]) ((Ft N).map S)=true
 j2:fW [44,32] (IY base el N)=true
 eq:pf N=gv [44,32] (IY base el N)
theorem CX{v:V}{l:List (List Nat)}{O:Oj}(h:iO O v=some (aF l))(hs:l.length<300)(hk:k<l.length):cN O v (.int (k:Nat))=some (.str (l.getD k [])):=
 ay h (eo hs) (by rw[aF,getElem?_map,getElem?_eq_getElem hk,getD_eq_getElem?_getD,getElem?_eq_getElem hk];rfl)
theorem sq{K:V→Oj→Prop}{O:Oj}{i j:List Nat}(e:i=j)(k:K (.str j) O):K (.str i) O:=e▸k
theorem H4{O:Oj}(e1:i=(a:Nat))(e2:j=(d:Nat))(h:a<2^300)(h2:d<2^300):dA O .Mult (.int i) (.int j)=some (.int ((a*d:Nat):Int)):=by subst e1;subst e2;exact lG h h2
theorem EZ{O:Oj}{X:Nat}(hX:X=a*d)(e1:i=(a:Nat))(e2:j=(d:Nat))(h:a<2^300)(h2:d<2^300):dA O .Mult (.int i) (.int j)=some (.int (X:Nat)):=by subst hX;exact H4 e1 e2 h h2
theorem nH{O:Oj}{l r:List V}(h:lA O k=some r)(hl:l.length+r.length<300):dA O .Add (.lst l) (.ref k)=some (.lst (l++r)):=Mine.bs (f:=fun r:List V=>if lO (l.length+r.length)then some (V.lst (l++r))else none) h (if_pos (aq hl))
theorem Hv:(2:Int)^toNat 32=((2^32:Nat):Int):=by decide
theorem Es(N:Nat):(N:Int)/2^toNat 32=((N/2^32:Nat):Int):=by
 rw[Hv];rfl
noncomputable def Jm:Stmt:=aX iw 17
section
variable {n b:Nat} {O O1:Oj} {Q:Fl→List Fr→Oj→Prop} {scr nr ce pa ms al pl te ga pt bs le ow ak wd wt ln he en bo mo wg du nm ws tw pu ma rf tp oc rd:Option V} {C:List Nat}
theorem KJ(q:Q .next (cU scr nr ce pa ms al pl te ga pt bs le ow ak wd wt ln he en bo mo wg du (some (.ref O1.length)) ws tw pu ma rf tp oc rd) (O1++[.list (aF zD)])):
 (W G3 (n+160)).s (aX iw 16) (cU scr nr ce pa ms al pl te ga pt bs le ow ak wd wt ln he en bo mo wg du nm ws tw pu ma rf tp oc rd) b Q O1:=by
 exact lf (zF b O1) q
theorem Hm{nb N el:Nat}{es:List (List Bool)}{p:Int}(hn:lA O1 nb=some (aF zD))(hel:es.length=el)(hel2:el<20)(K:nW (aE C).base el N)(q:∀ws X,Q .next (cU scr (some (.int (N:Nat))) ce pa ms al (some (.int p)) te ga pt (some (.int ((aE C).base:Nat))) le ow ak wd wt ln he (some (.lst (aF (es.map (cd (aE C).c0 (aE C).c1))))) bo mo wg du (some (.ref nb)) ws tw pu ma rf tp oc rd) (O1++X)):
 xs (W G3 (n+60)) (fm Jm) (cU scr (some (.int (N:Nat))) ce pa ms al (some (.int p)) te ga pt (some (.int ((aE C).base:Nat))) le ow ak wd wt ln he (some (.lst (aF (es.map (cd (aE C).c0 (aE C).c1))))) bo mo wg du (some (.ref nb)) ws tw pu ma rf tp oc rd) b Q O1:=by
 have hbase:(aE C).base<34:=mod_lt _ (by decide)
 have hl3:(aF (es.map (cd (aE C).c0 (aE C).c1))).length<300:=by rw[a8,hel];exact lt_trans hel2 (by decide)
 have hl4:((aF (es.map (cd (aE C).c0 (aE C).c1))).length:Int)=(el:Nat):=by rw[a8,hel]
 have e1:((s9 (aE C).base el N).map fun k=>V.str (gG k))=aF ((s9 (aE C).base el N).map gG):=by rw[aF,map_map];rfl
 have hm:min ((aE C).base+el) 32≤32:=min_le_right _ _
 have hlt:=K.lt
 have hN:N<2^300:=lt_trans K.lt (Nat.pow_lt_pow_of_lt (by decide) (by decide))
 refine lf (ai (v:=.lst (aF (es.map (cd (aE C).c0 (aE C).c1)))) rfl hl3) ?_
 rw[hl4]
 refine lf (l6 (a:=(aE C).base) (c:=min ((aE C).base+el) 32) rfl (r8 ((aE C).base+el) 32) (lt_of_lt_of_le hbase (by decide)) (lt_of_le_of_lt hm (by decide))) (lf (lg (lt_of_lt_of_le hbase (by decide)) (lt_of_le_of_lt hm (by decide))) (lc (range' (aE C).base (min ((aE C).base+el) 32-(aE C).base)) (zE _ _ "flag") (fun k=>decide (N/2^k%2≠0)) (fun k=>V.str (gG k)) (fun(c:Nat)=>.int c) (.items _) (fun _ _=>rfl) (fun k hk aK K1 K2 k1 k2=>?_) (by rw[length_range'];exact lt_of_le_of_lt (le_trans (sub_le _ _) hm) (by decide)) (iC _ _) ?_))
 ·have hk:=List.mem_range'_1.mp hk
  refine lf (f7 (d:=2) (k:=k) rfl (lt_of_lt_of_le (IZ hk) (le_trans hm (by decide)))) (lf (lK (a:=N) (d:=2^k) (pow_pos (by decide)) (ua (lt_of_lt_of_le (IZ hk) (le_trans hm (by decide))))) (sd (p:=((N/2^k%2:Nat):Int)≠0) (fun h=>?_) fun h=>k2 (decide_eq_false fun z=>h fun z2=>z (Int.ofNat.inj z2))))
  have k1:=k1 (decide_eq_true fun z=>h (congrArg Int.ofNat z))
  refine sd (p:=((k:Int)<10)) (fun h=>?_) fun h=>?_
  ·have h:k<10:=ofNat_lt.mp h
   have e:gG k=zD.getD k []:=if_pos h
   exact lf (CX (v:=.ref nb) (k:=k) (eQ hn) (by decide) h) (sq e.symm k1)
  ·have h:¬k<10:=fun z=>h (ofNat_lt.mpr z)
   have e:gG k=fX (2^k):=if_neg h
   exact lf (f7 (d:=2) (k:=k) rfl (lt_of_lt_of_le (IZ hk) (le_trans hm (by decide)))) (lf (jT (f:=2^k) (ua (lt_of_lt_of_le (IZ hk) (le_trans hm (by decide))))) (sq e.symm k1))
 ·rw[show((range' (aE C).base (min ((aE C).base+el) 32-(aE C).base)).filter fun k=>decide (N/2^k%2≠0))=s9 (aE C).base el N from rfl,e1]
  refine Cz K.lt K.j1 ?_
  have hK:=K.eq
  have hj2:=K.j2
  clear K
  generalize pf N=P at hK ⊢
  have hfl1:(aF ((s9 (aE C).base el N).map gG)).length+1<300:=by
   rw[aF,length_map,length_map]
   have:(s9 (aE C).base el N).length≤_:=length_filter_le _ _
   rw[length_range']at this
   exact lt_of_le_of_lt (succ_le_succ (le_trans this (le_trans (sub_le _ _) hm))) (by decide)
  have hW:IY (aE C).base el N=(s9 (aE C).base el N).map gG++m3 N:=rfl
  generalize IY (aE C).base el N=WW at hW hj2 hK
  generalize (s9 (aE C).base el N).map gG=FW at hW hfl1 ⊢
  obtain⟨X,hX,hx,hR1⟩:∃X,X=N/2^32*2^32∧X<2^64∧(N≥2^32∨N=0→m3 N=[fX X]):=⟨_,rfl,lt_of_le_of_lt (Nat.div_mul_le_self _ _) (lt_trans hlt (by decide)),fun h=>if_pos h⟩
  have hR2:¬(N≥2^32∨N=0)→m3 N=[]:=fun h=>if_neg h
  generalize m3 N=FR at hW hR1 hR2
  by_cases h32:N≥2^32
  ·have eR:FR=[fX X]:=hR1 (.inl h32)
   have eW:WW=FW++[fX X]:=by rw[hW,eR]
   have hd:decide ((N:Int)≥2^toNat 32)=true:=by rw[Hv];exact decide_eq_true (ofNat_le.mpr h32)
   refine Ff (t:= !decide ((N:Int)≥2^toNat 32)) (by rw[hd];rfl) (uB (t:=decide ((N:Int)≥2^toNat 32)) hd ?_)
   refine lf (EZ hX (Es N) Hv (lt_of_le_of_lt (Nat.div_le_self _ _) hN) (by decide)) ?_
   refine lf (jT (f:=X) hx) ?_
   refine lf (nH (aU O1 (aF [fX X])) (hfl1)) ?_
   refine Eq.symm (show aF FW++aF [fX X]=aF WW by rw[eW,aF,aF,aF,map_append])▸?_
   exact lf (eA (l:=WW) rfl hj2) (sl (fun h=>absurd hK (of_decide_eq_false (eO h))) fun _=>q _ _)
  ·have hd:decide ((N:Int)≥2^toNat 32)=false:=by rw[Hv];exact decide_eq_false fun z=>h32 (ofNat_le.mp z)
   refine uB (t:= !decide ((N:Int)≥2^toNat 32)) (by rw[hd];rfl) ?_
   by_cases h0:N=0
   ·have eR:FR=[fX X]:=hR1 (.inr h0)
    have eW:WW=FW++[fX X]:=by rw[hW,eR]
    have hz:decide ((N:Int)=0)=true:=decide_eq_true (congrArg Int.ofNat h0)
    refine Ff (t:= !decide ((N:Int)=0)) (by rw[hz];rfl) (uB (t:=decide ((N:Int)=0)) hz ?_)
    refine lf (EZ hX (Es N) Hv (lt_of_le_of_lt (Nat.div_le_self _ _) hN) (by decide)) ?_
    refine lf (jT (f:=X) hx) ?_
    refine lf (nH (aU O1 (aF [fX X])) (hfl1)) ?_
    rw[show aF FW++aF [fX X]=aF WW by rw[eW,aF,aF,aF,map_append]]
    exact lf (eA (l:=WW) rfl hj2) (sl (fun h=>absurd hK (of_decide_eq_false (eO h))) fun _=>q _ _)
   ·have eR:FR=[]:=hR2 fun z=>z.elim h32 h0
    have eW:WW=FW++[]:=by rw[hW,eR]
    have hz:decide ((N:Int)=0)=false:=decide_eq_false fun z=>h0 (Int.ofNat.inj z)
    refine uB (t:= !decide ((N:Int)=0)) (by rw[hz];rfl) ?_
    refine lf (nH (aU O1 (aF [])) (lt_of_succ_lt hfl1)) ?_
    rw[show aF FW++aF []=aF WW by rw[eW,aF,aF,aF,map_append]]
    exact lf (eA (l:=WW) rfl hj2) (sl (fun h=>absurd hK (of_decide_eq_false (eO h))) fun _=>q _ _)
end
set_option backward.match.sparseCases true
end
section
variable {nb el:Nat} {es:List (List Bool)}
set_option backward.match.sparseCases false
section
variable {n b:Nat} {O O1:Oj} {Q:Fl→List Fr→Oj→Prop} {scr nr ce pa ms al pl te ga pt bs le ow ak wd wt ln he en bo mo wg du nm ws tw pu ma rf tp oc rd:Option V} {C:List Nat}
theorem Hl(hel:es.length=el)(hel2:el<20)(D:List (Nat×Int)):∀(f:Nat) (O1:Oj) (nr pl ws:Option V),lA O1 nb=some (aF zD)→D.length<f→(∀p∈D,nW (aE C).base el (p.1*2^(aE C).base))→(∀nr pl ws X,Q .next (cU scr nr ce pa ms al pl te ga pt (some (.int ((aE C).base:Nat))) le ow ak wd wt ln he (some (.lst (aF (es.map (cd (aE C).c0 (aE C).c1))))) bo mo wg du (some (.ref nb)) ws tw pu ma rf tp oc rd) (O1++X))→
 fY (W G3 (n+60)) (xC Jm) (fm Jm) (xD Jm) b Q f (.items (D.map (pv (2^(aE C).base)))) (cU scr nr ce pa ms al pl te ga pt (some (.int ((aE C).base:Nat))) le ow ak wd wt ln he (some (.lst (aF (es.map (cd (aE C).c0 (aE C).c1))))) bo mo wg du (some (.ref nb)) ws tw pu ma rf tp oc rd) O1:=by
 induction D with
 |nil=>
  intro f O1 nr pl ws hn hf hk q
  cases f with
  |zero=>exact absurd hf (not_lt_zero _)
  |succ f=>
   have q:=q nr pl ws []
   rw[append_nil]at q
   exact q
 |cons p D ih=>
  intro f O1 nr pl ws hn hf hk q
  cases f with
  |zero=>exact absurd hf (not_lt_zero _)
  |succ f=>
   show xs _ _ _ _ _ _
   refine Hm (p:=p.2) hn hel hel2 (hk p (mem_cons_self ..)) fun ws X=>?_
   exact ih f _ _ _ ws (eQ hn) (lt_of_succ_lt_succ hf) (fun x hx=>hk x (mem_cons_of_mem _ hx)) fun nr pl ws X=>append_assoc .. ▸q nr pl ws _
theorem KI{D:List (Nat×Int)}(hel:es.length=el)(hel2:el<20)(hn:lA O1 nb=some (aF zD))(hD:D.length<300)(hk:∀p∈D,nW (aE C).base el (p.1*2^(aE C).base))(q:∀nr pl ws X,Q .next (cU scr nr ce pa ms al pl te ga pt (some (.int ((aE C).base:Nat))) le ow ak wd wt ln he (some (.lst (aF (es.map (cd (aE C).c0 (aE C).c1))))) bo mo wg (some (.lst (D.map (pv (2^(aE C).base))))) (some (.ref nb)) ws tw pu ma rf tp oc rd) (O1++X)):
 (W G3 (n+160)).s (aX iw 17) (cU scr nr ce pa ms al pl te ga pt (some (.int ((aE C).base:Nat))) le ow ak wd wt ln he (some (.lst (aF (es.map (cd (aE C).c0 (aE C).c1))))) bo mo wg (some (.lst (D.map (pv (2^(aE C).base))))) (some (.ref nb)) ws tw pu ma rf tp oc rd) b Q O1:=
 vw (Hl (n:=n+99) hel hel2 D 300 O1 nr pl ws hn hD hk q)
theorem Ap{l:List V}{b:Nat}{O:Oj}(h:l.length<300):d5 (u "list") [.lst l] b O=some (.ref O.length,O++[.list l]):=by
 have e:d5 (u "list") [.lst l] b O=if lO l.length then some (.ref O.length,O++[.list l])else none:=by kernel_rfl!
 exact e.trans (if_pos (aq h))
theorem KH{bk:List (Nat×Int)}(h:bk.length<300)(q:Q .next (cU scr nr ce pa ms al pl te ga pt bs le ow ak wd wt ln he en (some (.lst (bk.map (pv (2^(aE C).base))))) mo wg du nm ws (some (.ref O1.length)) pu ma rf tp oc rd) (O1++[.list (bk.map (pv (2^(aE C).base)))])):
 (W G3 (n+160)).s (aX iw 18) (cU scr nr ce pa ms al pl te ga pt bs le ow ak wd wt ln he en (some (.lst (bk.map (pv (2^(aE C).base))))) mo wg du nm ws tw pu ma rf tp oc rd) b Q O1:=by
 exact lf (Ap (by rw[length_map];exact h)) q
end
set_option backward.match.sparseCases true
end
section
variable {B x tr:Nat} {T:List (Nat×Int)} {mate:Int} {left:Bool}
set_option backward.match.sparseCases false
noncomputable def zj(left:Bool)(T:List (Nat×Int))(x:Nat):Nat:=if left then uc (T.map (·.1)) x T.length 0 T.length else x7 (T.map (·.1)) x T.length 0 T.length
noncomputable def vF(left:Bool)(T:List (Nat×Int))(x:Nat×Int):List (Nat×Int):=T.take (zj left T x.1)++x::T.drop (zj left T x.1)
noncomputable def ky(left:Bool)(mate:Int):List (Nat×Int)→List (Nat×Int)→List (Nat×Int)
 |[],T=>T
 |p::D,T=>ky left mate D (vF left T (p.1,mate))
theorem wz(B:Nat)(T:List (Nat×Int)):cA (fun p:Nat×Int=>p.1*B) T=cA (kb B) (T.map fun p=>(p.1,0)):=by rw[cA,cA,map_map];rfl
theorem A8(T:List (Nat×Int)):(T.map fun p=>(p.1,0)).map (·.1)=T.map (·.1):=by rw[map_map];rfl
theorem It(h:0<B):o7 (cA (fun p:Nat×Int=>p.1*B) T) ((x*B:Nat):Int) T.length 0 T.length=zj true T x:=by
 have e:=nK (x:=x) (bk:=T.map fun p=>(p.1,0)) h T.length 0 T.length
 rwa[←wz,A8]at e
theorem Iq(h:0<B):yo (cA (fun p:Nat×Int=>p.1*B) T) ((x*B:Nat):Int) T.length 0 T.length=zj false T x:=by
 have e:=tQ (x:=x) (bk:=T.map fun p=>(p.1,0)) h T.length 0 T.length
 rwa[←wz,A8]at e
theorem Cx(ks:List Nat)(x:Nat)(n:Nat):∀(lo hi:Nat),lo≤hi→x7 ks x n lo hi≤hi:=by
 induction n with
 |zero=>exact fun _ _ h=>h
 |succ n ih=>
  intro lo hi h
  show(if lo<hi then(if x<ks.getD ((lo+hi)/2) 0 then _ else _)else lo)≤hi
  by_cases l:lo<hi
  ·rw[if_pos l]
   split
   ·exact le_trans (ih _ _ (HU l)) (le_of_lt (Ai l))
   ·exact ih _ _ (Ai l)
  ·rw[if_neg l];exact h
theorem sh(left:Bool)(T:List (Nat×Int))(x:Nat×Int):(vF left T x).length=T.length+1:=Dg (by
 unfold zj
 split
 ·exact zi _ _ _ _ _ (zero_le _)
 ·exact Cx _ _ _ _ _ (zero_le _))
noncomputable def Lb:Stmt:=aX iw 19
noncomputable def HT:Stmt:=aX (fm Lb) 0
noncomputable def IW(left:Bool):V:=match left with
 |true=>.cst (.ref 48)
 |false=>.cst (.ref 30)
section
variable {n b:Nat} {O O1:Oj} {Q:Fl→List Fr→Oj→Prop} {scr nr ce pa ms al pl te ga pt bs le ow ak wd wt ln he en bo mo wg du nm ws tw pu ma rf tp oc rd:Option V} {C:List Nat}
theorem EQ(D:List (Nat×Int)):∀(f:Nat) (O1:Oj) (T:List (Nat×Int)) (nr pl:Option V),D.length<f→T.length+D.length<200→lA O1 tr=some (T.map (pv (2^(aE C).base)))→(∀nr pl,Q .next (cU scr nr ce pa ms al pl te ga pt bs le ow ak wd wt ln he en bo mo wg du nm ws (some (.ref tr)) (some (IW left)) (some (.int mate)) rf tp oc rd) (O1.set tr (.list ((ky left mate D T).map (pv (2^(aE C).base))))))→
 fY (W G3 (n+60)) (xC HT) (fm HT) (xD HT) b Q f (.items (D.map (pv (2^(aE C).base)))) (cU scr nr ce pa ms al pl te ga pt bs le ow ak wd wt ln he en bo mo wg du nm ws (some (.ref tr)) (some (IW left)) (some (.int mate)) rf tp oc rd) O1:=by
 have hB:0<2^(aE C).base:=pow_pos (by decide)
 induction D with
 |nil=>
  intro f O1 T nr pl hf hl ht q
  cases f with
  |zero=>exact absurd hf (not_lt_zero _)
  |succ f=>
   have q:=q nr pl
   rw[show ky left mate [] T=T from rfl,bV (aL ht)]at q
   exact q
 |cons p D ih=>
  intro f O1 T nr pl hf hl ht q
  replace hl:T.length+(D.length+1)<200:=hl
  have hl3:T.length<300:=lt_of_le_of_lt (le_trans (le_add_right _ _) (le_of_lt hl)) (by decide)
  cases f with
  |zero=>exact absurd hf (not_lt_zero _)
  |succ f=>
   have nxt:∀nr pl,fY (W G3 (n+60)) (xC HT) (fm HT) (xD HT) b Q f (.items (D.map (pv (2^(aE C).base)))) (cU scr nr ce pa ms al pl te ga pt bs le ow ak wd wt ln he en bo mo wg du nm ws (some (.ref tr)) (some (IW left)) (some (.int mate)) rf tp oc rd) (O1.set tr (.list ((vF left T (p.1,mate)).map (pv (2^(aE C).base))))):=fun nr pl=>by
    refine ih f _ (vF left T (p.1,mate)) nr pl (lt_of_succ_lt_succ hf) (by rw[sh];exact lt_of_le_of_lt (le_of_eq (succ_add _ _)) hl) (ac ht) fun nr pl=>?_
    rw[set_set]
    exact q nr pl
   clear ih q
   cases left with
   |true=>
    unfold vF at nxt
    rw[←It hB]at nxt
    exact Av (f:=fun p:Nat×Int=>p.1*2^(aE C).base) (g:=fun p=>.int p.2) (x:=(p.1,mate)) ht hl3 rfl (nxt _ _)
   |false=>
    unfold vF at nxt
    rw[←Iq hB]at nxt
    exact si (f:=fun p:Nat×Int=>p.1*2^(aE C).base) (g:=fun p=>.int p.2) (x:=(p.1,mate)) ht hl3 rfl (nxt _ _)
theorem ES{i:Int}{w:V}{l:List V}(ht:lA O1 tr=some (.tup [.int i,w]::l))(hl:l.length<290)(q:Q .next (cU scr nr ce pa ms al pl te ga pt bs le ow ak wd wt ln he en bo mo wg du nm ws (some (.ref tr)) (some (IW left)) (some (.int mate)) none tp oc rd) O1):
 (W G3 (n+60)).s (aX (fm Lb) 1) (cU scr nr ce pa ms al pl te ga pt bs le ow ak wd wt ln he en bo mo wg du nm ws (some (.ref tr)) (some (IW left)) (some (.int mate)) none tp oc rd) b Q O1:=by
 cases left with
 |true=>
  exact⟨by kernel_rfl!,by kernel_rfl!,⟨lf (qJ (v:=.ref tr) (k:=0) rfl ht (lt_trans (succ_lt_succ hl) (by decide)) rfl) ⟨⟨⟨⟨At ⟨⟨by rfl,by kernel_rfl!,rfl,rfl,q⟩⟩⟩⟩⟩⟩⟩⟩
 |false=>
  exact⟨by kernel_rfl!,by kernel_rfl!,⟨lf (qJ (v:=.ref tr) (k:=0) rfl ht (lt_trans (succ_lt_succ hl) (by decide)) rfl) ⟨⟨⟨⟨At ⟨⟨by rfl,by kernel_rfl!,rfl,rfl,q⟩⟩⟩⟩⟩⟩⟩⟩
theorem pI(left:Bool)(mate:Int):∀(D T:List (Nat×Int)),(ky left mate D T).length=T.length+D.length
 |[],T=>rfl
 |p::D,T=>by
  show(ky left mate D (vF left T (p.1,mate))).length=_
  rw[pI left mate D,sh,length_cons,add_assoc,add_comm 1]
theorem KG{hs:List (List Bool)}{D:List (Nat×Int)}(hhl:hs.length<200)(hl:T.length+(D.length+D.length)<200)(hD:0<D.length)(ht:lA O1 tr=some (T.map (pv (2^(aE C).base))))(q:∀nr pl pu ma,Q .next (cU scr nr ce pa ms al pl te ga pt bs le ow ak wd wt ln (some (.lst (aF (hs.map (cd (aE C).c0 (aE C).c1))))) en bo mo wg (some (.lst (D.map (pv (2^(aE C).base))))) nm ws (some (.ref tr)) pu ma none tp oc rd) (O1.set tr (.list ((ky false (hs.length:Nat) D (ky true (-1) D T)).map (pv (2^(aE C).base)))))):
 (W G3 (n+160)).s (aX iw 19) (cU scr nr ce pa ms al pl te ga pt bs le ow ak wd wt ln (some (.lst (aF (hs.map (cd (aE C).c0 (aE C).c1))))) en bo mo wg (some (.lst (D.map (pv (2^(aE C).base))))) nm ws (some (.ref tr)) pu ma none tp oc rd) b Q O1:=by
 have hl3:(aF (hs.map (cd (aE C).c0 (aE C).c1))).length<300:=by rw[a8];exact lt_trans hhl (by decide)
 have hl4:((aF (hs.map (cd (aE C).c0 (aE C).c1))).length:Int)=(hs.length:Nat):=by rw[a8]
 have hT1:=pI true (-1) D T
 have hT2:=pI false (hs.length:Nat) D (ky true (-1) D T)
 have cons:∀X:List (Nat×Int),0<X.length→∃p X',X=p::X':=fun X h=>by
  cases X with
  |nil=>exact absurd h (Nat.lt_irrefl 0)
  |cons p X=>exact⟨p,X,rfl⟩
 refine lf (ai (v:=.lst (aF (hs.map (cd (aE C).c0 (aE C).c1)))) rfl hl3) ?_
 refine Eq.symm (hl4)▸?_
 refine vw (vw (EQ (n:=n+98) (left:=true) (mate:= -1) D 300 O1 T nr pl (lt_of_le_of_lt (le_trans (le_trans (le_add_right _ _) (le_add_left _ _)) (le_of_lt hl)) (by decide)) (lt_of_le_of_lt (add_le_add_left (le_add_right _ _) _) hl) ht fun nr pl=>?_))
 obtain⟨p1,X1,e1⟩:=cons _ (show 0<(ky true (-1) D T).length from Nat.lt_of_lt_of_eq (lt_of_lt_of_le hD (le_add_left _ _)) hT1.symm)
 have ht1:lA (O1.set tr (.list ((ky true (-1) D T).map (pv (2^(aE C).base))))) tr=some ((ky true (-1) D T).map (pv (2^(aE C).base))):=ac ht
 have ht1':=ht1.trans (congrArg some (show _=V.tup [.int ((p1.1*2^(aE C).base:Nat):Int),.int p1.2]::X1.map (pv (2^(aE C).base))by rw[e1];rfl))
 refine ES (n:=n+99) (left:=true) (i:=((p1.1*2^(aE C).base:Nat):Int)) (w:=.int p1.2) ht1' ?_ ?_
 ·rw[length_map]
  have:=congrArg length e1
  rw[length_cons]at this
  exact lt_of_succ_lt (lt_of_le_of_lt (le_of_eq (this.symm.trans hT1)) (lt_of_le_of_lt (add_le_add_left (le_add_right _ _) _) (lt_trans hl (by decide))))
 refine vw (EQ (n:=n+98) (left:=false) (mate:=(hs.length:Nat)) D 300 _ (ky true (-1) D T) _ _ (lt_of_le_of_lt (le_trans (le_trans (le_add_right _ _) (le_add_left _ _)) (le_of_lt hl)) (by decide)) (lt_of_le_of_lt (le_of_eq ((congrArg (· +D.length) hT1).trans (add_assoc _ _ _))) hl) ht1 fun nr pl=>?_)
 rw[set_set]
 refine hG fun _ kk=>?_
 obtain⟨p2,X2,e2⟩:=cons _ (show 0<(ky false (hs.length:Nat) D (ky true (-1) D T)).length from Nat.lt_of_lt_of_eq (lt_of_lt_of_le hD (le_add_left _ _)) hT2.symm)
 refine kk ?_
 have ht2:lA (O1.set tr (.list ((ky false (hs.length:Nat) D (ky true (-1) D T)).map (pv (2^(aE C).base))))) tr=some ((ky false (hs.length:Nat) D (ky true (-1) D T)).map (pv (2^(aE C).base))):=ac ht
 have ht2':=ht2.trans (congrArg some (show _=V.tup [.int ((p2.1*2^(aE C).base:Nat):Int),.int p2.2]::X2.map (pv (2^(aE C).base))by rw[e2];rfl))
 refine ES (n:=n+99) (left:=false) (i:=((p2.1*2^(aE C).base:Nat):Int)) (w:=.int p2.2) ht2' ?_ (q _ _ _ _)
 rw[length_map]
 have:=congrArg length e2
 rw[length_cons]at this
 exact lt_of_succ_lt (lt_of_le_of_lt (le_of_eq (this.symm.trans (hT2.trans ((congrArg (· +D.length) hT1).trans (add_assoc _ _ _))))) (lt_trans hl (by decide)))
end
set_option backward.match.sparseCases true
end
section
variable {J:WI} {t2 elt t1 i2:Expr}
set_option backward.match.sparseCases false
theorem BP{α β:Type}{O:Oj}{FR:Option α→Option β→List Fr}{g:α→β→V}{e2:β→V}{Q:List Fr→Oj→Prop}(a:α)(set2:∀s c,dG (FR (some a) s) t2 (e2 c)=some (FR (some a) (some c)))(bs:List β):∀(f:Nat) (s:Option β) (aK:List V),
 (∀c∈bs,∀aK (K:V→Oj→Prop),K (g a c) (O++[.list aK])→J.e elt (FR (some a) (some c)) O.length K (O++[.list aK]))→bs.length<f→aK.length+bs.length<300→(∀s,Q (FR (some a) s) (O++[.list (aK++bs.map (g a))]))→iX J t2 [] elt O.length Q f (.items (bs.map e2)) (FR (some a) s) (O++[.list aK]):=by
 induction bs with
 |nil=>
  intro f s aK st hf hl q
  cases f with
  |zero=>exact absurd hf (not_lt_zero _)
  |succ f=>exact append_nil aK▸q s
 |cons c bs ih=>
  intro f s aK st hf hl q
  replace hl:aK.length+(bs.length+1)<300:=hl
  cases f with
  |zero=>exact absurd hf (not_lt_zero _)
  |succ f=>
   refine lf (set2 s c) (st c (mem_cons_self ..) aK _ (lf (jI (lt_of_le_of_lt (le_add_right _ _) hl)) ?_))
   refine ih f _ _ (fun x hx=>st x (mem_cons_of_mem _ hx)) (lt_of_succ_lt_succ hf) (by rw[length_append];show aK.length+1+bs.length<300;exact lt_of_le_of_lt (le_of_eq (succ_add _ _)) hl) fun s=>?_
   rw[append_assoc]
   exact q s
theorem BQ{α β:Type}{O:Oj}{FR:Option α→Option β→List Fr}{g:α→β→V}{e:α→V}{e2:β→V}{js:α→List β}{Q:Oj→Prop}(set1:∀t s a,dG (FR t s) t1 (e a)=some (FR (some a) s))(set2:∀a s c,dG (FR (some a) s) t2 (e2 c)=some (FR (some a) (some c)))(l:List α):∀(f:Nat) (t:Option α) (s:Option β) (aK:List V),
 (∀a∈l,∀s aK (K:gV→Oj→Prop),K (.items ((js a).map e2)) (O++[.list aK])→nY G3 J t2 i2 (FR (some a) s) O.length K (O++[.list aK]))→
 (∀a∈l,∀c∈js a,∀aK (K:V→Oj→Prop),K (g a c) (O++[.list aK])→J.e elt (FR (some a) (some c)) O.length K (O++[.list aK]))→l.length<f→aK.length+(l.flatMap js).length<300→Q (O++[.list (aK++l.flatMap fun a=>(js a).map (g a))])→jz G3 J t1 t2 i2 elt O.length (fun _=>Q) f (.items (l.map e)) (FR t s) (O++[.list aK]):=by
 induction l with
 |nil=>
  intro f t s aK hs st hf hl q
  cases f with
  |zero=>exact absurd hf (not_lt_zero _)
  |succ f=>exact append_nil aK▸q
 |cons a l ih=>
  intro f t s aK hs st hf hl q
  rw[flatMap_cons,length_append]at hl
  cases f with
  |zero=>exact absurd hf (not_lt_zero _)
  |succ f=>
   refine lf (set1 t s a) (hs a (mem_cons_self ..) s aK _ ⟨BP a (set2 a) (js a) 300 s aK (st a (mem_cons_self ..)) (lt_of_le_of_lt (le_trans (le_add_right _ _) (le_add_left _ _)) hl) (lt_of_le_of_lt (add_le_add_left (le_add_right _ _) _) hl) fun s=>?_⟩)
   refine ih f _ s _ (fun x hx=>hs x (mem_cons_of_mem _ hx)) (fun x hx=>st x (mem_cons_of_mem _ hx)) (lt_of_succ_lt_succ hf) (by rw[length_append,length_map];exact lt_of_le_of_lt (le_of_eq (add_assoc _ _ _)) hl) ?_
   rw[append_assoc]
   exact q
theorem Kv{α β:Type}{O:Oj}{Q:V→Oj→Prop}(l:List α)(FR:Option α→Option β→List Fr)(js:α→List β)(g:α→β→V)(e:α→V)(e2:β→V)(set1:∀t s a,dG (FR t s) t1 (e a)=some (FR (some a) s))(set2:∀a s c,dG (FR (some a) s) t2 (e2 c)=some (FR (some a) (some c)))
 (hs:∀a∈l,∀s aK (K:gV→Oj→Prop),K (.items ((js a).map e2)) (O++[.list aK])→nY G3 J t2 i2 (FR (some a) s) O.length K (O++[.list aK]))
 (st:∀a∈l,∀c∈js a,∀aK (K:V→Oj→Prop),K (g a c) (O++[.list aK])→J.e elt (FR (some a) (some c)) O.length K (O++[.list aK])) (hl:l.length<300) (hl2:(l.flatMap js).length<300) (hp:d0 (l.flatMap fun a=>(js a).map (g a))=true) (q:Q (.lst (l.flatMap fun a=>(js a).map (g a))) O):FN G3 J t1 t2 i2 elt O.length (fun _=>kN O.length Q) (.items (l.map e)) (FR none none) (O++[.list []]):=by
 refine⟨BQ set1 set2 l 300 none none [] hs st hl (by rw[length_nil,zero_add];exact hl2) ?_⟩
 rw[nil_append]
 exact pg rfl hp q
noncomputable def Lr{β:Type}(B:Nat)(e2:β→V)(x y z:String)(nm:af)(F:List Fr)(t:Option (Nat×Int))(s:Option β):List Fr:=⟨nm,[(u ".0",none),(u x,t.map fun p=>.int ((p.1*B:Nat):Int)),(u y,t.map fun p=>.int p.2),(u z,s.map e2)],false,0,none⟩::F
noncomputable def Jf(n:Int)(p:Nat×Int):List Int:=[-1,p.2,n]
noncomputable def pJ(n:Int)(D:List (Nat×Int)):List (Nat×Int):=D.flatMap fun p=>(Jf n p).map fun i=>(p.1,i)
theorem vt(n:Int):∀D:List (Nat×Int),(D.flatMap (Jf n)).length=3*D.length
 |[]=>rfl
 |p::D=>by rw[flatMap_cons,length_append,vt n D,length_cons];show 3+_=_;exact add_comm _ _
theorem qb(n:Int):∀D:List (Nat×Int),(pJ n D).length=3*D.length
 |[]=>rfl
 |p::D=>by rw[pJ,flatMap_cons,length_append];show 3+(pJ n D).length=_;rw[qb n D,length_cons];exact add_comm _ _
section
variable {n b:Nat} {O O1:Oj} {Q:Fl→List Fr→Oj→Prop} {scr nr ce pa ms al pl te ga pt bs le ow ak wd wt ln he en bo mo wg du nm ws tw pu ma rf tp oc rd:Option V} {C:List Nat}
theorem KF{tr:Nat}{hs:List (List Bool)}{D T:List (Nat×Int)}(hhl:hs.length<200)(hD1:0<D.length)(hD2:D.length<20)(ht:lA O1 tr=some (T.map (pv (2^(aE C).base))))(hsort:kF (pJ (hs.length:Nat) D)=some T)(q:Q .next (cU scr nr ce pa ms al pl te ga pt bs le ow ak wd wt ln (some (.lst (aF (hs.map (cd (aE C).c0 (aE C).c1))))) en bo mo wg (some (.lst (D.map (pv (2^(aE C).base))))) nm ws (some (.ref tr)) pu ma rf tp oc rd) O1):
 (W G3 (n+160)).s (aX iw 20) (cU scr nr ce pa ms al pl te ga pt bs le ow ak wd wt ln (some (.lst (aF (hs.map (cd (aE C).c0 (aE C).c1))))) en bo mo wg (some (.lst (D.map (pv (2^(aE C).base))))) nm ws (some (.ref tr)) pu ma rf tp oc rd) b Q O1:=by
 have hl3:(aF (hs.map (cd (aE C).c0 (aE C).c1))).length<300:=by rw[a8];exact lt_trans hhl (by decide)
 have hl4:((aF (hs.map (cd (aE C).c0 (aE C).c1))).length:Int)=(hs.length:Nat):=by rw[a8]
 have hB:0<2^(aE C).base:=pow_pos (by decide)
 have hsv:kE ((pJ (hs.length:Nat) D).map (pv (2^(aE C).base)))=some (T.map (pv (2^(aE C).base))):=by rw[v4 hB,hsort];rfl
 have htl:=qb (hs.length:Nat) D
 have e1:(D.flatMap fun p=>(Jf (hs.length:Nat) p).map fun i=>pv (2^(aE C).base) (p.1,i))=(pJ (hs.length:Nat) D).map (pv (2^(aE C).base)):=by
  rw[pJ,List.map_flatMap]
  refine congrArg (fun f=>List.flatMap f D) (funext fun p=>?_)
  rw[map_map];rfl
 refine Kv D (Lr (2^(aE C).base) V.int "number" "place" "at" _ _) (Jf (hs.length:Nat)) (fun p i=>pv (2^(aE C).base) (p.1,i)) (pv (2^(aE C).base)) V.int (fun _ _ _=>rfl) (fun _ _ _=>rfl) (fun p hp s aK K k=>?_) (fun p hp i hi aK K k=>k) (lt_trans hD2 (by decide)) (by rw[vt];exact lt_of_le_of_lt (mul_le_mul_left _ (le_of_lt hD2)) (by decide)) (e1▸mB _) ?_
 ·refine lf (ai (v:=.lst (aF (hs.map (cd (aE C).c0 (aE C).c1)))) rfl hl3) ?_
  refine Eq.symm (hl4)▸?_
  exact k
 ·rw[e1]
  refine lf (jg (by rw[length_map];exact le_trans hD1 (le_trans (Nat.le_mul_of_pos_left _ (by decide)) (le_of_eq htl.symm))) (by rw[length_map];exact lt_of_le_of_lt (le_of_eq htl) (lt_of_le_of_lt (mul_le_mul_left 3 (le_of_lt_succ hD2)) (by decide))) hsv) (lf (uo (a:=.ref tr) ht rfl (BH _ T)) ?_)
  exact q
end
set_option backward.match.sparseCases true
end
set_option backward.match.sparseCases false
noncomputable def Jg(D:List (Nat×Int))(mv:fF)(p:Nat×Int):Option (Nat×Nat):=(mv[p.2.toNat]?).bind fun row=>(row.2[0]?).bind fun a=>(row.2[1]?).bind fun c=>(D[a]?).bind fun x=>(D[c]?).map fun y=>(x.1,y.1)
noncomputable def xh(D:List (Nat×Int))(mv:fF)(p:Nat×Int):List Nat:=match Jg D mv p with
 |some z=>[p.1,z.1,z.2]
 |none=>[]
noncomputable def ng(number:Nat)(k:Nat):Nat:=number/64^k%64+if k=0 then 0 else 64
noncomputable def zt(number:Nat)(k:Nat):Bool:=decide (k=0)||decide (number≥64^k)
noncomputable def gm(noughts number:Nat):List Nat:=replicate noughts 64++([6,5,4,3,2,1,0].filter (zt number)).map (ng number)
theorem rJ(number noughts:Nat):(gm noughts number).length≤noughts+7:=by
 unfold gm
 rw[length_append,List.length_replicate,length_map]
 exact add_le_add_left (length_filter_le _ [6,5,4,3,2,1,0]) _
theorem mJ(no:Nat):∀l:List Nat,(l.flatMap (gm no)).length≤(no+7)*l.length
 |[]=>le_refl _
 |x::l=>by
  rw[flatMap_cons,length_append,length_cons,Nat.mul_succ]
  exact le_trans (add_le_add (rJ x no) (mJ no l)) (le_of_eq (add_comm _ _))
theorem IL{l:List V}{b:Nat}{O:Oj}:cq (u "iter") [.lst l] b O=some (.ref O.length,O++[.iter l]):=by kernel_rfl!
section
variable {n b:Nat} {O O1:Oj} {Q:Fl→List Fr→Oj→Prop} {scr nr ce pa ms al pl te ga pt bs le ow ak wd wt ln he en bo mo wg du nm ws tw pu ma rf tp oc rd:Option V} {C:List Nat}
theorem KD{bk D:List (Nat×Int)}{mv:fF}(hbl:bk.length<20)(hD2:D.length<20)(hml:mv.length<290)(hmr:∀p∈mv,p.2.length<290)(hok:∀p∈bk,0≤p.2∧(Jg D mv p).isSome=true)(htl:(bk.flatMap (xh D mv)).length<300)(q:Q .next (cU scr nr ce pa ms al pl te ga pt bs le ow ak wd wt ln he en (some (.lst (bk.map (pv (2^(aE C).base))))) (some (.lst (az mv))) wg (some (.lst (D.map (pv (2^(aE C).base))))) nm ws tw pu ma rf (some (.lst (aC ((bk.flatMap (xh D mv)).map (· *2^(aE C).base))))) oc rd) O1):
 (W G3 (n+160)).s (aX iw 21) (cU scr nr ce pa ms al pl te ga pt bs le ow ak wd wt ln he en (some (.lst (bk.map (pv (2^(aE C).base))))) (some (.lst (az mv))) wg (some (.lst (D.map (pv (2^(aE C).base))))) nm ws tw pu ma rf tp oc rd) b Q O1:=by
 have hDl:(D.map (pv (2^(aE C).base))).length<300:=by rw[length_map];exact lt_trans hD2 (by decide)
 have e1:(bk.flatMap fun p=>(xh D mv p).map fun(c:Nat)=>V.int ((c*2^(aE C).base:Nat):Int))=aC ((bk.flatMap (xh D mv)).map (· *2^(aE C).base)):=by
  rw[aC,map_map,List.map_flatMap];rfl
 refine Kv bk (Lr (2^(aE C).base) (fun(c:Nat)=>V.int ((c*2^(aE C).base:Nat):Int)) "number" "place" "at" _ _) (xh D mv) (fun _ (c:Nat)=>V.int ((c*2^(aE C).base:Nat):Int)) (pv (2^(aE C).base)) (fun(c:Nat)=>V.int ((c*2^(aE C).base:Nat):Int)) (fun _ _ _=>rfl) (fun _ _ _=>rfl) (fun p hp s aK K k=>?_) (fun p hp i hi aK K k=>k) (lt_trans hbl (by decide)) htl (e1▸bx _) ?_
 ·obtain⟨h0,hs⟩:=hok p hp
  refine hG fun _ kk=>?_
  obtain⟨z,hz⟩:=isSome_iff_exists.mp hs
  have ej:xh D mv p=[p.1,z.1,z.2]:=by rw[xh,hz]
  rw[ej]at k
  obtain⟨row,hrow,hz⟩:=gU hz
  obtain⟨a,ha,hz⟩:=gU hz
  obtain⟨c,hc,hz⟩:=gU hz
  obtain⟨x,hx,hz⟩:=gU hz
  obtain⟨y,hy,e⟩:=wk hz
  clear ej hz
  subst e
  have hrl:=hmr row (mem_of_getElem? hrow)
  have ep:p.2=(p.2.toNat:Nat):=(toNat_of_nonneg h0).symm
  obtain⟨v,hv,hvr⟩:=(i8.lst (O1++[aT.list aK]) mv).row (lt_trans hml (by decide)) hrow
  refine kk ?_
  rw[←ep]at hv
  have hd:∀{i:Nat} {x:Nat×Int} {O:Oj},D[i]? =some x→cN O (.lst (D.map (pv (2^(aE C).base)))) (.int (i:Nat))=some (pv (2^(aE C).base) x):=fun {i x O} h=>ay (v:=.lst (D.map (pv (2^(aE C).base)))) rfl hDl (by rw[getElem?_map,h];rfl)
  refine lf hv (lf (il (b:=false) rfl hvr hrl ha) (lf (hd hx) (lf hv (lf (il (b:=true) rfl hvr hrl hc) (lf (hd hy) ?_)))))
  exact k
 ·rw[e1];exact q
theorem KC{tpl:List Nat}(h6:C.length=6)(hl:tpl.length<20)(hN:∀x∈tpl,x<2^60)(q:Q .next (cU scr nr (some (.lst (aC C))) pa ms al pl te ga pt bs le ow ak wd wt ln he en bo mo wg du nm ws tw pu ma rf (some (.lst (aC tpl))) (some (.lst (aC (tpl.flatMap (gm (C.getD 5 0%3)))))) rd) O1):
 (W G3 (n+160)).s (aX iw 22) (cU scr nr (some (.lst (aC C))) pa ms al pl te ga pt bs le ow ak wd wt ln he en bo mo wg du nm ws tw pu ma rf (some (.lst (aC tpl))) oc rd) b Q O1:=by
 have hno:C.getD 5 0%3<3:=mod_lt _ (by decide)
 have hol:=mJ (C.getD 5 0%3) tpl
 have hol2:(tpl.flatMap (gm (C.getD 5 0%3))).length<300:=lt_of_le_of_lt (le_trans hol (Nat.mul_le_mul (show C.getD 5 0%3+7≤9 from add_le_add_right (le_of_lt_succ hno) 7) (le_of_lt_succ hl))) (by decide)
 have e1:(tpl.flatMap fun x=>(gm (C.getD 5 0%3) x).map fun(c:Nat)=>V.int (c:Nat))=aC (tpl.flatMap (gm (C.getD 5 0%3))):=by
  rw[aC,List.map_flatMap]
 refine Kv tpl (fun t s=>⟨_,[(u ".0",none),(u "number",t.map fun(c:Nat)=>V.int (c:Nat)),(u "octet",s.map fun(c:Nat)=>V.int (c:Nat))],false,0,none⟩::_) (gm (C.getD 5 0%3)) (fun _ (c:Nat)=>V.int (c:Nat)) (fun(c:Nat)=>V.int (c:Nat)) (fun(c:Nat)=>V.int (c:Nat)) (fun _ _ _=>rfl) (fun _ _ _=>rfl) (fun x hx s aK K k=>?_) (fun p hp i hi aK K k=>k) (lt_trans hl (by decide)) hol2 (e1▸bx _) ?_
 ·have e3:(([6,5,4,3,2,1,0].filter (zt x)).map fun k=>V.int (ng x k:Nat))=aC (([6,5,4,3,2,1,0].filter (zt x)).map (ng x)):=by unfold aC;rw[map_map];rfl
  have e4:(replicate (C.getD 5 0%3) [V.int 64]).flatten++aC (([6,5,4,3,2,1,0].filter (zt x)).map (ng x))=aC (gm (C.getD 5 0%3) x):=by rw[ET, ←cn];rfl
  have hpl:=rJ x (C.getD 5 0%3)
  refine lf (cC (i:=5) h6 (by decide)) (lf (Cq (l:=[V.int 64]) (k:=C.getD 5 0%3) (lt_trans hno (by decide)) (by show 1*_<_;exact lt_of_le_of_lt (mul_le_mul_left _ (le_of_lt hno)) (by decide))) (lc [6,5,4,3,2,1,0] (zE _ _ "k") (zt x) (fun k=>.int (ng x k:Nat)) (fun(k:Nat)=>.int k) (.items _) (fun _ _=>rfl) (fun k' hk aK K1 K2 k1 k2=>?_) (by decide) (eu _ _) ?_))
  ·have hk4:k'<7:=(show ∀k∈[6,5,4,3,2,1,0],k<7 by decide) k' hk
   have hp0:0<64^k':=pow_pos (by decide)
   have hp1:64^k'<2^300:=lt_of_lt_of_le (Nat.pow_lt_pow_of_lt (by decide) hk4) (by decide)
   by_cases h0:k'=0
   ·subst h0
    exact kq (j:=(ng x 0:Nat)) (by simp[ng]) (k1 rfl)
   ·have h0':((k':Nat):Int)≠0:=fun e=>h0 (Int.ofNat.inj e)
    have hv:ng x k'=x/64^k'%64+64:=by rw[ng,if_neg h0]
    refine uB (t:= !decide ((k':Int)=0)) (by rw[decide_eq_false h0'];rfl) (lf (f7 (d:=64) (k:=k') rfl (lt_trans hk4 (by decide))) (MF (t:=decide ((x:Int)≥(64^k':Nat))) (fun h=>?_) fun h=>?_))
    ·refine lf (f7 (d:=64) (k:=k') rfl (lt_trans hk4 (by decide))) (lf (lK hp0 hp1) (uB (t:=decide ((k':Int)≠0)) (decide_eq_true h0') ?_))
     exact kq (j:=(ng x k':Nat)) (congrArg Nat.cast hv.symm) (k1 (or_eq_true_iff.mpr (.inr (decide_eq_true (ofNat_le.mp (of_decide_eq_true h))))))
    ·exact k2 (Bool.or_eq_false_iff.mpr ⟨decide_eq_false h0,decide_eq_false fun z=>of_decide_eq_false h (ofNat_le.mpr z)⟩)
  ·rw[e3]
   refine lf (xN (by rw[←length_append,e4,aJ];exact lt_of_le_of_lt (le_trans hpl (add_le_add_right (le_of_lt hno) _)) (by decide))) ?_
   rw[e4]
   exact k
 ·rw[e1];exact q
end
set_option backward.match.sparseCases true
section
variable {rr no hi:Nat}
set_option backward.match.sparseCases false
theorem BI{O:Oj}{a c:V}{l:List V}(ha:iO O a=some l)(hc:iO O c=some l)(hl:∀v∈l,dq O 8 v v=some true):i5 G3 O .Eq a c=some true:=xH ha hc hl
theorem Do(O:Oj)(l:List Nat):∀v∈aC l,dq O 8 v v=some true:=fun v hv=>by
 obtain⟨c,_,rfl⟩:=mem_map.mp hv;exact vT O 7 _
theorem vn(r:List Nat):∀(l:List Nat) (v b x:Nat),Hc v b l=some (x,[])→Hc v b (l++r)=some (x,r)
 |[],v,b,x,h=>by
  replace h:(if b&&& 64=0 then some (v,[])else none)=some (x,[]):=h
  rw[nil_append]
  by_cases hb:b&&& 64=0
  ·rw[if_pos hb]at h
   obtain⟨rfl,_⟩:=sP h
   cases r with
   |nil=>exact if_pos hb
   |cons c r=>exact if_pos hb
  ·rw[if_neg hb]at h;exact nomatch h
 |c::l,v,b,x,h=>by
  replace h:(if b&&& 64=0 then some (v,c::l)else if v<1152921504606846976 then _ else none)=some (x,[]):=h
  show(if b&&& 64=0 then some (v,c::(l++r))else if v<1152921504606846976 then _ else none)=some (x,r)
  by_cases hb:b&&& 64=0
  ·rw[if_pos hb]at h;exact nomatch h
  ·rw[if_neg hb]at h ⊢
   by_cases hv:v<1152921504606846976
   ·rw[if_pos hv]at h ⊢
    exact vn r l _ _ x h
   ·rw[if_neg hv]at h;exact nomatch h
theorem CN{l r:List Nat}{x:Nat}(h:gX l=some (x,[])):gX (l++r)=some (x,r):=by
 cases l with
 |nil=>exact nomatch h
 |cons b l=>exact vn r l _ b x h
theorem yJ{r b:Nat}{O:Oj}(h:O[r]? =some (.iter [])):d5 (u "list") [.ref r] b O=some (.ref (O.set r .dead).length,O.set r .dead++[.list []]):=by
 have e:d5 (u "list") [.ref r] b O=match jV O (.ref r)with
  |some n=>some (.ref O.length,O.set n .dead++[.list []])
  |none=>(nP O (.ref r)).bind fun l=>if lO l.length then some (.ref O.length,O++[.list l])else none:=by kernel_rfl!
 have e2:jV O (.ref r)=some r:=by
  show(gw O r).bind _=_
  rw[w5 h];rfl
 rw[e,e2,length_set]
noncomputable def jm(no hi:Nat)(l:List Nat):List Nat:=(l.flatMap (gm no)).map (· +hi)
noncomputable def MI:Stmt:=aX iw 24
noncomputable def DJ:Expr:=match MI with
 |.Return (some e) _=>(match e with
  |.BoolOp _ es _=>(match es with
   |e::_=>(match e with
    |.Compare e _ _ _=>e
    |_=>default)
   |_=>default)
  |_=>default)
 |_=>default
section
variable {n b:Nat} {O O1:Oj} {Q:Fl→List Fr→Oj→Prop} {scr nr ce pa ms al pl te ga pt bs le ow ak wd wt ln he en bo mo wg du nm ws tw pu ma rf tp oc rd:Option V} {C:List Nat}
theorem KB{ocs:List Nat}(h6:C.length=6)(hl:ocs.length<300)(q:Q .next (cU scr nr (some (.lst (aC C))) pa ms al pl te ga pt bs le ow ak wd wt ln he en bo mo wg du nm ws tw pu ma rf tp (some (.lst (aC ocs))) (some (.ref O1.length))) (O1++[.iter (aC (ocs.map (· +128*(C.getD 5 0/3%2))))])):
 (W G3 (n+160)).s (aX iw 23) (cU scr nr (some (.lst (aC C))) pa ms al pl te ga pt bs le ow ak wd wt ln he en bo mo wg du nm ws tw pu ma rf tp (some (.lst (aC ocs))) rd) b Q O1:=by
 have hh:C.getD 5 0/3%2<2:=mod_lt _ (by decide)
 have e:(ocs.map fun c=>V.int ((c+128*(C.getD 5 0/3%2):Nat):Int))=aC (ocs.map (· +128*(C.getD 5 0/3%2))):=by rw[aC,map_map];rfl
 refine CF ocs (zE _ _ "octet") (fun c=>V.int ((c+128*(C.getD 5 0/3%2):Nat):Int)) (fun(c:Nat)=>.int c) (.items _) (fun _ _=>rfl) (fun c hc aK K1 K2 k1 k2=>?_) hl (eu _ _) ?_
 ·exact lf (cC (i:=5) h6 (by decide)) (lf (lG (a:=128) (d:=C.getD 5 0/3%2) (by decide) (lt_trans hh (by decide))) (k1 rfl))
 ·rw[e]
  exact q
theorem Hb{Q:Oj→Prop}(tpl:List Nat):∀(f:Nat) (t:Option Nat) (O:Oj) (aK:List Nat),(∀x∈tpl,gX ((gm no x).map (· +hi))=some (x,[]))→tpl.length<f→aK.length+tpl.length<200→(jm no hi tpl).length<300→O[rr]? =some (.iter (aC (jm no hi tpl)))→
 Q (O.set rr (.iter [])++[.list (aC (aK++tpl))])→
 iX (W G3 (n+90)) (Jo DJ 0).target (Jo DJ 0).ifs (Eg DJ) O.length (fun _=>Q) f (.items (aC tpl)) (zE (Lj DJ).names (cU scr nr ce pa ms al pl te ga pt bs le ow ak wd wt ln he en bo mo wg du nm ws tw pu ma rf tp oc (some (.ref rr))) "number" t) (O++[.list (aC aK)]):=by
 induction tpl with
 |nil=>
  intro f t O aK hv hf hl ho hr q
  cases f with
  |zero=>exact absurd hf (not_lt_zero _)
  |succ f=>
   rw[show(aT.iter []:aT)=.iter (aC (jm no hi []))from rfl,bV hr,append_nil]at q
   exact q
 |cons x tpl ih=>
  intro f t O aK hv hf hl ho hr q
  replace hl:aK.length+(tpl.length+1)<200:=hl
  cases f with
  |zero=>exact absurd hf (not_lt_zero _)
  |succ f=>
   have e:jm no hi (x::tpl)=(gm no x).map (· +hi)++jm no hi tpl:=by rw[jm,flatMap_cons,map_append];rfl
   have hx:=CN (r:=jm no hi tpl) (hv x (mem_cons_self ..))
   rw[←e]at hx
   refine CP hx (eX hr) ho ?_
   refine Eq.symm (v6 hr)▸?_
   have ls:(O.set rr (.iter (aC (jm no hi tpl)))).length=O.length:=length_set
   refine lf (ls▸jI (aK:=aC aK) (by rw[aJ];exact lt_of_le_of_lt (le_trans (le_add_right _ _) (le_of_lt hl)) (by decide))) ?_
   have ho2:(jm no hi tpl).length<300:=by
    rw[e,length_append]at ho
    exact lt_of_le_of_lt (le_add_left _ _) ho
   have:=ih f (some x) (O.set rr (.iter (aC (jm no hi tpl)))) (aK++[x]) (fun y hy=>hv y (mem_cons_of_mem _ hy)) (lt_of_succ_lt_succ hf) (by rw[length_append];show aK.length+1+tpl.length<200;exact lt_of_le_of_lt (le_of_eq (succ_add _ _)) hl) ho2 (dL hr) (by
    rw[set_set,append_assoc]
    exact q)
   rw[ls,cn]at this
   exact this
theorem KA{tpl:List Nat}{Q:Fl→List Fr→Oj→Prop}(hv:∀x∈tpl,gX ((gm no x).map (· +hi))=some (x,[]))(hl:tpl.length<200)(ho:(jm no hi tpl).length<300)(hr:O1[rr]? =some (.iter (aC (jm no hi tpl))))(q:∀F O2,(∀k,k≤rr→O2.take k=O1.take k)→Q (.ret (.bool true)) F O2):
 (W G3 (n+160)).s (aX iw 24) (cU scr nr ce pa ms al pl te ga pt bs le ow ak wd wt ln he en bo mo wg du nm ws tw pu ma rf (some (.lst (aC tpl))) oc (some (.ref rr))) b Q O1:=by
 have hw:=fun Q q=>Hb (n:=n+66) (scr:=scr) (nr:=nr) (ce:=ce) (pa:=pa) (ms:=ms) (al:=al) (pl:=pl) (te:=te) (ga:=ga) (pt:=pt) (bs:=bs) (le:=le) (ow:=ow) (ak:=ak) (wd:=wd) (wt:=wt) (ln:=ln) (he:=he) (en:=en) (bo:=bo) (mo:=mo) (wg:=wg) (du:=du) (nm:=nm) (ws:=ws) (tw:=tw) (pu:=pu) (ma:=ma) (rf:=rf) (tp:=some (.lst (aC tpl))) (oc:=oc) (Q:=Q) tpl 300 none O1 [] hv (lt_trans hl (by decide)) (by rw[length_nil,zero_add];exact hl) ho hr q
 refine⟨hw _ ?_⟩
 rw[nil_append]
 refine pg length_set (bx _) ?_
 refine lf (BI (l:=aC tpl) rfl rfl (Do _ tpl)) ?_
 have hd:(O1.set rr (.iter []))[rr]? =some (.iter []):=dL hr
 refine lf (yJ hd) (lf (BI (l:=[]) (aU ((O1.set rr (.iter [])).set rr .dead) []) rfl (fun v hv=>nomatch hv)) ?_)
 refine q _ _ fun k hk=>?_
 have hrl:=(List.getElem?_eq_some_iff.mp hr).1
 rw[List.take_append_of_le_length (by rw[length_set,length_set];exact le_trans hk (le_of_lt hrl)),set_set,List.take_set_of_le hk]
end
set_option backward.match.sparseCases true
end
section
variable {script:List Int}
noncomputable def qH(bk:ae):List (Nat×Int):=bk.map fun p=>(p.1,(p.2:Int))
theorem Iw(B:Nat)(bk:ae):(qH bk).map (pv B)=aQ B bk:=by rw[qH,map_map];rfl
structure HN (C:List Nat) (f:List Bool→Bool) (R:D9):Prop where
 prep:hV (aE C).want (C.getD 1 0/3%4) [(aE C).c0] [(aE C).c1] (aE C).p2 (aE C).p3 (aE C).mar (aE C).al
 same:jJ (aE C).want (C.getD 1 0/3%4) [(aE C).c0] [(aE C).c1] (aE C).p2 (aE C).p3 (aE C).mar (aE C).al=(aE C).want
 asks:eZ (aE C) f
 find:∀b,cH [(aE C).c0,(aE C).c1] [sg (aE C).c0 (aE C).c1 b] 0 2=(b1 b:Nat)
 owl:(dR C).length<290
 owr:∀p∈dR C,p.2.length<290
 lrn:lrn f (dR C) 8 0 [[]] [[]] []=some R
 al:R.A.length<290
 aw:∀p∈R.A,p.1.length<200
 aa:∀p∈R.A,aK (dR C) p.1=some p.2
 tot:∀w:List Bool,w.length<200→(aK (dR C) w).isSome=true
 hl0:0<R.hs.length
 hl:R.hs.length<20
 el:R.es.length<20
 hw:∀h∈R.hs,h.length<90
 ew:∀h∈R.es,h.length<90
 len:R.hs.length=(k6 C).length+if(gz (C.getD 0 0)).getD 0 0=0 then 2 else 1
 sort:kF (ee (dR C) R.hs R.es)=some (qH R.bk)
 flag:∀p∈ee (dR C) R.hs R.es,nW (aE C).base R.es.length (p.1*2^(aE C).base)
 sort2:kF (pJ (R.hs.length:Nat) (ee (dR C) R.hs R.es))=some (ky false (R.hs.length:Nat) (ee (dR C) R.hs R.es) (ky true (-1) (ee (dR C) R.hs R.es) (qH R.bk)))
 bl:R.bk.length<20
 ml:R.mv.length<290
 mr:∀p∈R.mv,p.2.length<290
 tape:∀p∈qH R.bk,0≤p.2∧(Jg (ee (dR C) R.hs R.es) R.mv p).isSome=true
 tl:((qH R.bk).flatMap (xh (ee (dR C) R.hs R.es) R.mv)).length<20
 var:∀x∈((qH R.bk).flatMap (xh (ee (dR C) R.hs R.es) R.mv)).map (· *2^(aE C).base),x<2^60∧gX ((gm (C.getD 5 0%3) x).map (· +128*(C.getD 5 0/3%2)))=some (x,[])
noncomputable def HC(O:Oj)(Q:Fl→List Fr→Oj→Prop):Prop:=∀F O1,O1.take O.length=O→Q (.ret (.bool true)) F O1
section
variable {n b:Nat} {O O1:Oj} {Q:Fl→List Fr→Oj→Prop} {scr nr ce pa ms al pl te ga pt bs le ow ak wd wt ln he en bo mo wg du nm ws tw pu ma rf tp oc rd:Option V} {C:List Nat} {f:List Bool→Bool} {R:D9}
theorem IE(K:HN C f R)(h6:C.length=6)(hT:O1.take O.length=O)(q:HC O Q):
 xs (W G3 (n+160)) (iw.drop 16) (cU scr nr (some (.lst (aC C))) pa ms al pl (some (.str (k6 C))) (some (.lst (aC (gz (C.getD 0 0))))) pt (some (.int ((aE C).base:Nat))) le ow ak wd wt ln (some (.lst (aF (R.hs.map (cd (aE C).c0 (aE C).c1))))) (some (.lst (aF (R.es.map (cd (aE C).c0 (aE C).c1))))) (some (.lst ((qH R.bk).map (pv (2^(aE C).base))))) (some (.lst (az R.mv))) wg (some (.lst ((ee (dR C) R.hs R.es).map (pv (2^(aE C).base))))) nm ws tw pu ma none tp oc rd) b Q O1:=by
 have hl:O.length≤O1.length:=by rw[←hT,length_take];exact min_le_right _ _
 have hDl:(ee (dR C) R.hs R.es).length=R.hs.length:=by rw[ee,length_map,length_range]
 have hBl:(qH R.bk).length=R.bk.length:=length_map ..
 refine fx rfl (KJ (fx (i:=17) rfl (KI rfl K.el (aU O1 _) (by rw[hDl];exact lt_trans K.hl (by decide)) K.flag fun nr pl ws X=>fx (i:=18) rfl (KH (by rw[hBl];exact lt_trans K.bl (by decide)) (fx (i:=19) rfl (KG (lt_trans K.hl (by decide)) (by rw[hDl,hBl];exact lt_trans (add_lt_add K.bl (add_lt_add K.hl K.hl)) (by decide)) (by rw[hDl];exact K.hl0) (aU _ _) fun nr pl pu ma=>fx (i:=20) rfl (KF (lt_trans K.hl (by decide)) (by rw[hDl];exact K.hl0) (by rw[hDl];exact K.hl) (ac (aU _ _)) K.sort2 (fx (i:=21) rfl (KD (by rw[hBl];exact K.bl) (by rw[hDl];exact K.hl) K.ml K.mr K.tape (lt_trans K.tl (by decide)) (fx (i:=22) rfl (KC h6 (by rw[length_map];exact K.tl) (fun x hx=>(K.var x hx).1) ?_)))))))))))
 have V:=K.var
 have htl:(((qH R.bk).flatMap (xh (ee (dR C) R.hs R.es) R.mv)).map (· *2^(aE C).base)).length<20:=by rw[length_map];exact K.tl
 generalize ((qH R.bk).flatMap (xh (ee (dR C) R.hs R.es) R.mv)).map (· *2^(aE C).base)=tpl at V htl ⊢
 have hno:C.getD 5 0%3<3:=mod_lt _ (by decide)
 have hol2:(tpl.flatMap (gm (C.getD 5 0%3))).length<300:=lt_of_le_of_lt (le_trans (mJ (C.getD 5 0%3) tpl) (Nat.mul_le_mul (show C.getD 5 0%3+7≤9 from add_le_add_right (le_of_lt_succ hno) 7) (le_of_lt_succ htl))) (by decide)
 have l1:O.length≤(O1++[aT.list (aF zD)]).length:=by rw[length_append];exact le_trans hl (le_add_right _ _)
 have l2:O.length≤(O1++[aT.list (aF zD)]++X).length:=by rw[length_append];exact le_trans l1 (le_add_right _ _)
 have t2:=fg (X:=[aT.list ((qH R.bk).map (pv (2^(aE C).base)))]) (fg (X:=X) (fg (X:=[aT.list (aF zD)]) hT hl) l1) l2
 have t3:=fun o:aT=>bU (x:=o) t2 l2
 refine fx (i:=23) rfl (KB h6 hol2 (fx (i:=24) rfl (KA (no:=C.getD 5 0%3) (hi:=128*(C.getD 5 0/3%2)) (fun x hx=>(V x hx).2) (lt_trans htl (by decide)) (by rw[jm,length_map];exact hol2) (getElem?_concat_length ..) fun F O2 h2=>q F O2 ?_)))
 have l3:O.length≤((O1++[aT.list (aF zD)]++X++[aT.list ((qH R.bk).map (pv (2^(aE C).base)))]).set (O1++[aT.list (aF zD)]++X).length (.list ((ky false (R.hs.length:Nat) (ee (dR C) R.hs R.es) (ky true (-1) (ee (dR C) R.hs R.es) (qH R.bk))).map (pv (2^(aE C).base))))).length:=by
  rw[length_set,length_append];exact le_trans l2 (le_add_right _ _)
 exact(h2 _ l3).trans (fg (t3 _) l3)
theorem IF(K:HN C f R)(h6:C.length=6)(hT:O1.take O.length=O)(q:HC O Q):
 xs (W G3 (n+160)) (iw.drop 7) (cU scr nr (some (.lst (aC C))) (some (gi (C.getD 1 0%3))) (some (.lst (dJ.map .int))) (some (.int ((aE C).al:Nat))) pl (some (.str (k6 C))) (some (.lst (aC (gz (C.getD 0 0))))) (some (.str (aE C).want)) bs le ow ak wd wt ln he en bo mo wg du nm ws tw pu ma none tp oc rd) b Q O1:=by
 have hl:O.length≤O1.length:=by rw[←hT,length_take];exact min_le_right _ _
 have hne:=K.asks.ne
 have hDl:(ee (dR C) R.hs R.es).length=R.hs.length:=by rw[ee,length_map,length_range]
 refine fx rfl (Lw h6 (fx (i:=8) rfl (Lv h6 (fx (i:=9) rfl (Lu h6 K.prep K.same (fx (i:=10) rfl (KP K.asks (getElem?_concat_length ..) K.find K.owl K.owr K.lrn (fx (i:=11) rfl (KO (fx (i:=12) rfl (KN (fx (i:=13) rfl (KM hne K.find (getElem?_set_self (by rw[length_append];exact lt_succ_self _)) K.al K.aw K.owl K.owr K.aa (fx (i:=14) rfl (KL K.find K.owl K.owr K.tot (lt_trans K.hl (by decide)) K.el K.hw K.ew ?_)))))))))))))))
 rw[←Iw]
 exact fx (i:=15) rfl (KK (lt_trans K.hl (by decide)) (by rw[hDl];exact K.hl0) (by rw[hDl];exact lt_trans K.hl (by decide)) K.len K.sort (IE K h6 (bU (fg hT hl) hl) q))
theorem IG(hs:script.length<64)(hP:∀C:List Nat,C.length=6→∃f R,HN C f R)(hT:O1.take O.length=O)(q:HC O Q):
 xs (W G3 (n+160)) (iw.drop 0) (cU (some (.lst (script.map .int))) nr ce pa ms al pl te ga pt bs le ow ak wd wt ln he en bo mo wg du nm ws tw pu ma none tp oc rd) b Q O1:=by
 have h6:(o6.map (o5 script)).length=6:=length_map ..
 refine fx rfl (L9 hs ?_)
 generalize o6.map (o5 script)=C at h6
 obtain⟨f,R,K⟩:=hP C h6
 have hl:O.length≤O1.length:=by rw[←hT,length_take];exact min_le_right _ _
 have ht:=lT C
 refine fx (i:=1) rfl (L8 h6 fun O2 t2=>fx (i:=2) rfl (L6 fun O3 t3=>fx (i:=3) rfl (L4 h6 (fx (i:=4) rfl (Lz h6 (fx (i:=5) rfl (Ly h6 (fx (i:=6) rfl (Lx (lt_trans ht (by decide)) (by rw[lI,kz]) (El _) ?_)))))))))
 have hT2:O2.take O.length=O:=(t2 _ hl).trans hT
 have hl2:O.length≤O2.length:=by rw[←hT2,length_take];exact min_le_right _ _
 exact IF K h6 ((t3 _ hl2).trans hT2) q
end
theorem DU{n:Nat}{O:Oj}{Q:V→Oj→Prop}(hs:script.length<64)(hP:∀C:List Nat,C.length=6→∃f R,HN C f R)(q:Q (.bool true) O):J0 G3 (W G3 (n+160)) 182 [.lst (script.map .int)] [] Q O:=by
 have hw:=fun Q q=>IG (n:=n) (b:=O.length) (O:=O) (Q:=Q) (nr:=none) (ce:=none) (pa:=none) (ms:=none) (al:=none) (pl:=none) (te:=none) (ga:=none) (pt:=none) (bs:=none) (le:=none) (ow:=none) (ak:=none) (wd:=none) (wt:=none) (ln:=none) (he:=none) (en:=none) (bo:=none) (mo:=none) (wg:=none) (du:=none) (nm:=none) (ws:=none) (tw:=none) (pu:=none) (ma:=none) (tp:=none) (oc:=none) (rd:=none) hs hP take_length q
 exact hw _ fun F O1 hT=>vq (Q:=Q) hT q
end
noncomputable def jn(x y:List Nat)(hi limit:Nat):List Nat→Nat→Nat→List Nat
 |[],_,_=>[]
 |i::r,n,free=>if n<limit&&free≤i&&i+y.length≤hi&&((x.drop i).take y.length==y)then i::jn x y hi limit r (n+1) (i+y.length)else jn x y hi limit r n free
theorem uj(x y:List Nat)(hi limit i:Nat)(r:List Nat)(n free:Nat):jn x y hi limit (i::r) n free=if n<limit&&free≤i&&i+y.length≤hi&&((x.drop i).take y.length==y)then i::jn x y hi limit r (n+1) (i+y.length)else jn x y hi limit r n free:=rfl
theorem pZ(x y:List Nat)(hi limit:Nat):∀(l:List Nat) (a:Array Nat) (free:Nat),(forIn l (a,free) (StrLaws.occBody (S x) (S y) hi limit)).run.fst.toList=a.toList++jn x y hi limit l a.size free
 |[],a,free=>by rw[show jn x y hi limit [] a.size free=[]from rfl];simp
 |i::l,a,free=>by
  rw[forIn_cons]
  rw[StrLaws.occBody,uj]
  have e:Builtin.Str.subAt (S x) (S y) i=((x.drop i).take y.length==y):=by
   rw[StrLaws.subAt_eq,sL];rfl
  rw[e,sL]
  by_cases hc:((a.size<limit∧free≤i)∧i+y.length≤hi)∧((x.drop i).take y.length==y)=true
  ·rw[if_pos hc,if_pos (by simp only[Bool.and_eq_true,decide_eq_true_eq];exact hc)]
   have:=pZ x y hi limit l (a.push i) (i+y.length)
   rw[Array.size_push]at this
   refine Eq.trans this ?_
   simp
  ·rw[if_neg hc,if_neg (by simp only[Bool.and_eq_true,decide_eq_true_eq];exact hc)]
   exact pZ x y hi limit l a free
theorem jN(x y:List Nat)(lo hi limit:Nat):Builtin.Str.occurrences (S x) (S y) lo hi limit=jn x y hi limit (range' lo (hi+1-lo)) 0 lo:=by
 rw[StrLaws.occ_eq,pZ]
 rfl
theorem yB(x cuts:List Nat)(w:Nat):(Builtin.Str.partsBetween (S x) cuts w).length=cuts.length+1:=by
 simp only[Builtin.Str.partsBetween]
 simp
theorem mK(x y:List Nat)(hi limit:Nat):∀(l:List Nat) (n free:Nat),(jn x y hi limit l n free).length≤l.length
 |[],_,_=>le_refl _
 |i::l,n,free=>by
  rw[uj]
  split
  ·exact succ_le_succ (mK x y hi limit l _ _)
  ·exact le_succ_of_le (mK x y hi limit l _ _)
theorem wG{x y:List Nat}{k:Nat}(h:x.length≤100000):(Builtin.Str.partsBetween (S x) (Builtin.Str.occurrences (S x) (S y) 0 x.length (x.length+1)) k).length≤1000000:=by
 rw[yB,jN]
 have:=mK x y x.length (x.length+1) (range' 0 (x.length+1-0)) 0 0
 rw[length_range']at this
 exact le_trans (succ_le_succ this) (le_trans (succ_le_succ (succ_le_succ h)) (by decide))
noncomputable def eV(x:List Nat):List (List Nat)→List Nat
 |[]=>[]
 |w::l=>w++l.flatMap fun p=>x++p
theorem cE(x:List Nat)(l:List (List Nat)):gv x l=eV x l:=by
 have go:∀(l:List (List Nat)) (a:Array Nat),((l.map S).foldl (fun aK p=>aK++(S x).cps++p.cps) a).toList=a.toList++l.flatMap fun p=>x++p:=by
  intro l
  induction l with
  |nil=>intro a;simp
  |cons w l ih=>intro a;simp only[map_cons,foldl_cons,ih,flatMap_cons];simp[S]
 cases l with
 |nil=>rfl
 |cons w l=>
  show(((S w::l.map S).drop 1).foldl (fun aK p=>aK++(S x).cps++p.cps) ((S w::l.map S).headD Str.empty).cps).toList=_
  rw[List.drop_one,List.tail_cons,List.headD_cons,go]
  rfl
theorem qp{x y:List Nat}(hy:y≠[])(hx:x.length≤100000):qq x y=true:=by
 unfold qq
 simp only[Bool.and_eq_true,not_eq_true',decide_eq_true_eq]
 refine⟨⟨?_,le_trans hx (by decide)⟩,wG hx⟩
 cases y with
 |nil=>exact absurd rfl hy
 |cons=>rfl
theorem oa(x y:List Nat):eV y (kf x y)=x:=by
 rw[←cE]
 unfold gv kf
 rw[map_map]
 have e:((Txt.split (S x) (S y)).map (S∘fun p=>p.cps.toList))=Txt.split (S x) (S y):=by
  refine(map_congr_left fun p _=>?_).trans (List.map_id _)
  show S p.cps.toList=p
  unfold S
  simp
 rw[e]
 rw[show Txt.join (S y) (Txt.split (S x) (S y))=Str.join (S y) (Txt.split (S x) (S y))from StrLaws.glued_eq_join _ _,StrLaws.join_split]
 simp[S]
theorem n9{x:List Nat}{g:Nat→List Nat}:∀l:List (List Nat),(l.flatMap fun p=>x++p).flatMap g=(l.map (·.flatMap g)).flatMap fun p=>x.flatMap g++p
 |[]=>rfl
 |w::l=>by rw[flatMap_cons,flatMap_append,flatMap_append,n9 l];rfl
theorem iI{x:List Nat}{g:Nat→List Nat}:∀l:List (List Nat),(eV x l).flatMap g=eV (x.flatMap g) (l.map (·.flatMap g))
 |[]=>rfl
 |w::l=>by
  show(w++l.flatMap fun p=>x++p).flatMap g=_
  rw[flatMap_append,n9];rfl
theorem Ab{x:List Nat}{c:Nat}{l:List (List Nat)}(h:c∈l.flatMap fun p=>x++p):c∈x∨∃w∈l,c∈w:=by
 obtain⟨p,hp,hc⟩:=mem_flatMap.mp h
 exact(mem_append.mp hc).imp id fun h=>⟨p,hp,h⟩
theorem sE{x:List Nat}{c:Nat}:∀{l:List (List Nat)},c∈eV x l→c∈x∨∃w∈l,c∈w
 |[],h=>nomatch h
 |w::l,h=>by
  rcases mem_append.mp h with h|h
  ·exact .inr ⟨w,mem_cons_self ..,h⟩
  ·exact(Ab h).imp id fun⟨v,hv,hc⟩=>⟨v,mem_cons_of_mem _ hv,hc⟩
theorem sY{x:List Nat}{c:Nat}{w:List Nat}:∀{l:List (List Nat)},w∈l→c∈w→c∈eV x l
 |[],h,_=>nomatch h
 |v::l,h,hc=>by
  rcases mem_cons.mp h with rfl|h
  ·exact mem_append_left _ hc
  ·exact mem_append_right _ (mem_flatMap.mpr ⟨w,h,mem_append_right _ hc⟩)
theorem qd{x y:List Nat}(h:x.length≤y.length):∀l:List (List Nat),(l.flatMap fun p=>x++p).length≤(l.flatMap fun p=>y++p).length
 |[]=>le_refl _
 |w::l=>by
  have:=qd h l
  rw[flatMap_cons,flatMap_cons,length_append,length_append,length_append,length_append]
  exact add_le_add (add_le_add_right h _) this
theorem w0{x y:List Nat}(h:x.length≤y.length):∀l:List (List Nat),(eV x l).length≤(eV y l).length
 |[]=>le_refl _
 |w::l=>by
  have:=qd h l
  show(w++_).length≤(w++_).length
  rw[length_append,length_append]
  exact add_le_add_left this _
theorem lW{y:List Nat}(hy:1≤y.length):∀l:List (List Nat),l.length≤(l.flatMap fun p=>y++p).length∧∀w∈l,w.length≤(l.flatMap fun p=>y++p).length
 |[]=>⟨le_refl _,fun w h=>nomatch h⟩
 |v::l=>by
  obtain⟨h1,h2⟩:=lW hy l
  refine Eq.symm (flatMap_cons)▸Eq.symm (length_append)▸Eq.symm (length_append)▸?_
  refine⟨by rw[length_cons];exact le_trans (add_le_add h1 hy) (le_trans (le_of_eq (add_comm _ _)) (add_le_add_right (le_add_right _ _) _)),fun w hw=>?_⟩
  rcases mem_cons.mp hw with rfl|hw
  ·exact le_trans (le_add_left _ _) (le_add_right _ _)
  ·exact le_trans (h2 w hw) (le_add_left _ _)
theorem mY{y:List Nat}(hy:1≤y.length):∀l:List (List Nat),l.length≤(eV y l).length+1∧∀w∈l,w.length≤(eV y l).length
 |[]=>⟨zero_le _,fun w h=>nomatch h⟩
 |v::l=>by
  obtain⟨h1,h2⟩:=lW hy l
  show _≤(v++_).length+1∧∀w∈v::l,w.length≤(v++_).length
  rw[length_append]
  refine⟨by rw[length_cons];exact succ_le_succ (le_trans h1 (le_add_left _ _)),fun w hw=>?_⟩
  rcases mem_cons.mp hw with rfl|hw
  ·exact le_add_right _ _
  ·exact le_trans (h2 w hw) (le_add_left _ _)
section
variable {c:Nat}
noncomputable def cL(c:Nat):List Nat:=if sn c then[]else oQ c
theorem mC:∀t:List Nat,(gh t).flatten=t.flatMap cL
 |[]=>rfl
 |c::t=>by
  have ih:=mC t
  unfold gh at *
  rw[flatMap_cons, ←ih,List.filter_cons]
  unfold cL
  cases sn c<;>simp
noncomputable def lh(c:Nat):Prop:=pO c=true∧(cL c).length≤2
theorem zf{t:List Nat}(ht:t.length<290)(hg:∀c∈t,lh c):fW [] (gh t)=true:=by
 refine cg (by simp) ?_ fun w hw=>?_
 ·unfold gh
  rw[length_map]
  exact le_trans (length_filter_le _ _) (le_trans (le_of_lt ht) (by decide))
 ·unfold gh at hw
  obtain⟨c,hc,rfl⟩:=mem_map.mp hw
  rw[mem_filter]at hc
  have h:=(hg c hc.1).2
  have:sn c=false:=by simpa using hc.2
  unfold cL at h
  rw[this]at h
  simp only[false_eq_true,if_false]at h
  exact le_trans h (by decide)
noncomputable def fV:List Nat:=[115,116,102,105,108]
noncomputable def bf:List Nat:=46::fV
noncomputable def us:List Nat:=dJ.map toNat
noncomputable def lP:List Nat:=gI.map fun k=>119808+52*k.toNat
noncomputable def yK:List (Nat×List Nat):=[(223,[115,115]),(64262,[115,116]),(64256,[102,102]),(64257,[102,105]),(64258,[102,108])]
noncomputable def Gp(c:Nat)(r:List Nat):Bool:=pO c&&decide (cL c=r)&&decide (r.length≤2)
theorem jX{r:List Nat}(h:Gp c r=true):lh c∧cL c=r:=by
 unfold Gp at h
 simp only[Bool.and_eq_true,decide_eq_true_eq]at h
 exact⟨⟨h.1.1,by rw[h.1.2];exact h.2⟩,h.1.2⟩
theorem BX:bf.all (fun c=>Gp c [c])=true:=by decide +kernel
theorem LA:fV.all (fun c=>Gp (65+c-97) [c])=true:=by decide +kernel
theorem LB:us.all (fun m=>Gp m [])=true:=by decide +kernel
theorem LE:yK.all (fun p=>Gp p.1 p.2)=true:=by decide +kernel
theorem LG:lP.all (fun a=>fV.all fun c=>Gp (a+c-97) [c])=true:=by decide +kernel
noncomputable def iy(c:Nat):List Nat:=(yK.lookup c).getD [c]
theorem GR(h:bf.contains c=true∨(yK.map (·.1)).contains c=true):lh c∧cL c=iy c:=by
 rcases h with h|h
 ·have hm:=contains_iff_mem.mp h
  have h1:=jX (all_eq_true.mp BX c hm)
  refine⟨h1.1,h1.2.trans ?_⟩
  have:bf.all (fun c=>iy c==[c])=true:=by decide
  exact(eq_of_beq (all_eq_true.mp this c hm)).symm
 ·obtain⟨p,hp,rfl⟩:=mem_map.mp (contains_iff_mem.mp h)
  have h1:=jX (all_eq_true.mp LE p hp)
  refine⟨h1.1,h1.2.trans ?_⟩
  have:yK.all (fun p=>iy p.1==p.2)=true:=by decide
  exact(eq_of_beq (all_eq_true.mp this p hp)).symm
theorem yQ(m:Nat)(hm:cL m=[]):∀w:List Nat,(eV [m] (dE w)).flatMap cL=w.flatMap cL
 |[]=>rfl
 |c::w=>by
  have go:∀w:List Nat,((dE w).flatMap fun p=>[m]++p).flatMap cL=w.flatMap cL:=by
   intro w
   induction w with
   |nil=>rfl
   |cons c w ih=>
    show(([m]++[c])++(dE w).flatMap fun p=>[m]++p).flatMap cL=_
    rw[flatMap_append,ih]
    simp[hm]
  show([c]++(dE w).flatMap fun p=>[m]++p).flatMap cL=_
  rw[flatMap_append,go]
  simp
theorem np(m:Nat):∀w:List Nat,(eV [m] (dE w)).length≤2*w.length
 |[]=>le_refl _
 |c::w=>by
  have go:∀w:List Nat,((dE w).flatMap fun p=>[m]++p).length=2*w.length:=by
   intro w
   induction w with
   |nil=>rfl
   |cons c w ih=>
    show(([m]++[c])++(dE w).flatMap fun p=>[m]++p).length=_
    rw[length_append,ih]
    simp;exact add_comm 2 _
  show([c]++(dE w).flatMap fun p=>[m]++p).length≤_
  rw[length_append,go]
  simp;exact le_trans (le_of_eq (add_comm 1 _)) (le_succ _)
theorem nj(m:Nat):∀w:List Nat,∀c∈eV [m] (dE w),c=m∨c∈w
 |[],c,h=>by cases h
 |a::w,c,h=>by
  have h:c∈[a]++(dE w).flatMap fun p=>[m]++p:=h
  rcases mem_append.mp h with h|h
  ·exact .inr (by rw[mem_singleton.mp h];exact mem_cons_self ..)
  ·obtain⟨p,hp,hc⟩:=mem_flatMap.mp h
   obtain⟨x,hx,rfl⟩:=mem_map.mp hp
   rcases mem_append.mp hc with h|h
   ·exact .inl (mem_singleton.mp h)
   ·rw[mem_singleton.mp h]
    exact .inr (mem_cons_of_mem _ hx)
theorem ya{w:List Nat}{f:Nat→List Nat}(h:∀c∈w,f c=[c]):w.flatMap f=w:=by
 induction w with
 |nil=>rfl
 |cons c w ih=>
  rw[flatMap_cons,h c (mem_cons_self ..),ih fun x hx=>h x (mem_cons_of_mem _ hx)]
  rfl
theorem vR:∀w:List Nat,(dE w).flatten=w
 |[]=>rfl
 |c::w=>congrArg (c:: ·) (vR w)
theorem zk:∀k,k<3→au k 0∈fV∧au k 1∈fV∧au k 0≠au k 1∧iy (au k 2)=[au k 0,au k 0]∧iy (au k 3)=[au k 0,au k 1]∧(yK.map (·.1)).contains (au k 2)=true∧(yK.map (·.1)).contains (au k 3)=true:=by decide
theorem wC{k st m al:Nat}{T:List Nat}(hk:k<3)(hst:st<4)(hT:∀c∈T,c∈bf)(hl:T.length<100)(hm:m∈us)(ha:al∈lP):
 hV T st [au k 0] [au k 1] [au k 2] [au k 3] [m] al∧jJ T st [au k 0] [au k 1] [au k 2] [au k 3] [m] al=T:=by
 obtain⟨p0,p1,pne,q2,q3,r2,r3⟩:=zk k hk
 have hal:60000≤al∧al<900000:=by
  have:lP.all (fun a=>decide (60000≤a)&&decide (a<900000))=true:=by decide
  have:=and_eq_true_iff.mp (all_eq_true.mp this al ha)
  exact⟨of_decide_eq_true this.1,of_decide_eq_true this.2⟩
 have h97:∀c∈bf,c=46∨c∈fV∧97≤c∧c<1000:=by decide
 have hmk:=jX (all_eq_true.mp LB m hm)
 have hjl:=np m T
 have ne:∀{x y:Nat},[x]++[y]≠[]:=fun h=>nomatch h
 have j1:=oa T ([au k 0]++[au k 0])
 generalize hl1:kf T ([au k 0]++[au k 0])=l1 at j1
 have s1:=mY (show 1≤([au k 0]++[au k 0]).length from le_of_ble_eq_true rfl) l1
 have e1:=w0 (show[au k 2].length≤([au k 0]++[au k 0]).length from le_of_ble_eq_true rfl) l1
 rw[j1]at s1 e1
 have j2:=oa (eV [au k 2] l1) ([au k 0]++[au k 1])
 generalize hl2:kf (eV [au k 2] l1) ([au k 0]++[au k 1])=l2 at j2
 have s2:=mY (show 1≤([au k 0]++[au k 1]).length from le_of_ble_eq_true rfl) l2
 have e2:=w0 (show[au k 3].length≤([au k 0]++[au k 1]).length from le_of_ble_eq_true rfl) l2
 rw[j2]at s2 e2
 have jl:∀{x:List Nat} {l:List (List Nat)},x.length≤1→l.length≤T.length+1→(∀w∈l,w.length≤T.length)→fW x l=true:=fun hx h1 h2=>cg (le_trans hx (by decide)) (le_trans (le_trans h1 (succ_le_succ (le_of_lt hl))) (by decide)) fun w hw=>by have:=h2 w hw;exact le_trans (le_trans this (le_of_lt hl)) (by decide)
 have hsg:∀w:List Nat,w.length≤200→∀{x:List Nat},x.length≤1→fW x (dE w)=true:=fun w hw {x} hx=>cg (le_trans hx (by decide)) (by rw[dE,length_map];exact le_trans hw (by decide)) fun y hy=>by
  obtain⟨c,_,rfl⟩:=mem_map.mp hy;exact(show 1≤1000 by decide)
 have hself:∀f:Nat→List Nat,(∀c∈bf,f c=[c])→T.flatMap f=T:=fun f hf=>ya fun c hc=>hf c (hT c hc)
 have key:∀t,uL T st [au k 0] [au k 1] [au k 2] [au k 3] [m] al=t→t.length<290→(∀c∈t,lh c)→t.flatMap cL=T→hV T st [au k 0] [au k 1] [au k 2] [au k 3] [m] al∧jJ T st [au k 0] [au k 1] [au k 2] [au k 3] [m] al=T:=by
  intro t ht hl3 hg hf
  refine⟨⟨lt_trans hl (by decide),hst,fun _=>⟨le_of_ble_eq_true rfl,le_of_ble_eq_true rfl,qp ne (le_trans (le_of_lt hl) (by decide)),?_,?_,?_⟩,fun _=>⟨hsg T (le_trans (le_of_lt hl) (by decide)) (le_of_ble_eq_true rfl),?_⟩,fun _ c hc=>(h97 c (hT c hc)).imp id fun h=>⟨h.2.1,h.2.2,.inr hal⟩,ht▸fun c hc=>(hg c hc).1,ht▸hl3,ht▸zf hl3 hg⟩,by unfold jJ;rw[ht,mX,mC,hf]⟩
  ·rw[hl1];exact jl (le_of_ble_eq_true rfl) s1.1 s1.2
  ·rw[hl1,cE];exact qp ne (le_trans (le_trans e1 (le_of_lt hl)) (by decide))
  ·rw[hl1,cE,hl2];exact jl (le_of_ble_eq_true rfl) (le_trans s2.1 (succ_le_succ e1)) fun w hw=>by have:=s2.2 w hw;exact le_trans this e1
  ·rw[cE];show _+1≤_;exact le_trans (succ_le_succ (le_trans hjl (mul_le_mul_left _ (le_of_lt hl)))) (by decide)
 rcases(show ∀s,s<4→s=0∨s=1∨s=2∨s=3 by decide) st hst with rfl|rfl|rfl|rfl
 ·refine key (gv [m] (dE T)++[m]) rfl ?_ ?_ ?_
  ·rw[cE,length_append,List.length_singleton];exact lt_of_le_of_lt (succ_le_succ (le_trans hjl (mul_le_mul_left _ (le_of_lt hl)))) (by decide)
  ·intro c hc
   rw[cE]at hc
   rcases mem_append.mp hc with h|h
   ·rcases nj m T c h with rfl|h
    ·exact hmk.1
    ·exact(jX (all_eq_true.mp BX c (hT c h))).1
   ·rw[mem_singleton.mp h];exact hmk.1
  ·rw[cE,flatMap_append,yQ m hmk.2,hself cL fun c hc=>(jX (all_eq_true.mp BX c hc)).2]
   simp[hmk.2]
 ·have hc:∀c∈bf,lh (zC 65 c)∧cL (zC 65 c)=[c]:=fun c hc=>by
   rcases h97 c hc with rfl|h
   ·exact jX (all_eq_true.mp BX 46 (by decide))
   ·have e:zC 65 c=65+c-97:=if_neg fun z=>by subst z;exact absurd h.2.1 (by decide)
    rw[e];exact jX (all_eq_true.mp LA c h.1)
  refine key (T.map (zC 65)) rfl (by rw[length_map];exact lt_of_lt_of_le hl (by decide)) ?_ ?_
  ·intro c hc'
   obtain⟨x,hx,rfl⟩:=mem_map.mp hc'
   exact(hc x (hT x hx)).1
  ·rw[List.flatMap_map]
   exact hself _ fun c h=>(hc c h).2
 ·have hj1:∀c∈eV [au k 2] l1,c=au k 2∨c∈bf:=fun c hc=>(sE hc).imp mem_singleton.mp fun⟨w,hw,h⟩=>hT c (j1▸sY hw h)
  have hch:∀c∈eV [au k 3] l2,lh c∧cL c=iy c:=fun c hc=>GR (by
   rcases sE hc with h|⟨w,hw,h⟩
   ·rw[mem_singleton.mp h];exact .inr r3
   ·rcases hj1 c (j2▸sY hw h)with rfl|h
    ·exact .inr r2
    ·exact .inl (contains_iff_mem.mpr h))
  refine key (eV [au k 3] l2) ?_ (lt_of_le_of_lt (le_trans e2 (le_trans e1 (le_of_lt hl))) (by decide)) (fun c hc=>(hch c hc).1) ?_
  ·show FY _ _ _ _ _=_
   unfold FY
   rw[hl1,cE,cE,hl2]
  ·have go:∀t:List Nat,(∀c∈t,cL c=iy c)→t.flatMap cL=t.flatMap iy:=by
    intro t
    induction t with
    |nil=>intro _;rfl
    |cons c t ih=>intro h;rw[flatMap_cons,flatMap_cons,h c (mem_cons_self ..),ih fun x hx=>h x (mem_cons_of_mem _ hx)]
   have hq:∀c∈bf,iy c=[c]:=by decide
   have hq0:=hq _ (mem_cons_of_mem _ p0)
   have hq1:=hq _ (mem_cons_of_mem _ p1)
   have f1:(eV [au k 2] l1).flatMap iy=T:=by
    have a1:(eV [au k 2] l1).flatMap iy=(eV ([au k 0]++[au k 0]) l1).flatMap iy:=by
     rw[iI,iI]
     congr 1
     simp[q2,hq0]
    exact Eq.symm (a1)▸Eq.symm (j1)▸Eq.symm (hself iy hq)▸rfl
   have a2:(eV [au k 3] l2).flatMap iy=(eV ([au k 0]++[au k 1]) l2).flatMap iy:=by
    rw[iI,iI]
    congr 1
    simp[q3,hq0,hq1]
   exact Eq.symm (go _ fun c hc=>(hch c hc).2)▸Eq.symm (a2)▸Eq.symm (j2)▸Eq.symm (f1)▸rfl
 ·have hc:∀c∈bf,lh (zC al c)∧cL (zC al c)=[c]:=fun c hc=>by
   rcases h97 c hc with rfl|h
   ·exact jX (all_eq_true.mp BX 46 (by decide))
   ·have e:zC al c=al+c-97:=if_neg fun z=>by subst z;exact absurd h.2.1 (by decide)
    rw[e];exact jX (all_eq_true.mp (all_eq_true.mp LG al ha) c h.1)
  refine key (T.map (zC al)) rfl (by rw[length_map];exact lt_of_lt_of_le hl (by decide)) ?_ ?_
  ·intro c hc'
   obtain⟨x,hx,rfl⟩:=mem_map.mp hc'
   exact(hc x (hT x hx)).1
  ·rw[List.flatMap_map]
   exact hself _ fun c h=>(hc c h).2
end
noncomputable def qm(g w:List Bool):Bool:=decide (w.length≤g.length)&&(g.take w.length==w)
noncomputable def vV(g w:List Bool):Bool:=decide (w.length≤g.length)&&(g.drop (g.length-w.length)==w)
noncomputable def d3(x y:List Bool)(hi:Nat):List Nat→Option Nat
 |[]=>none
 |i::r=>if decide (i+y.length≤hi)&&((x.drop i).take y.length==y)then some i else d3 x y hi r
noncomputable def uD(g:List Bool)(ep:Nat):List (List Bool)→Nat→Bool
 |[],_=>true
 |w::r,sp=>match d3 g w ep (range' sp (ep+1-sp))with
  |none=>false
  |some i=>uD g ep r (i+w.length)
noncomputable def vN(g:List Bool):List (List Bool)→Option (Nat×List (List Bool))
 |[]=>none
 |w::r=>if w.isEmpty then some (0,w::r)else if qm g w then some (w.length,r)else none
noncomputable def ie(g:List Bool)(ws:List (List Bool)):Option (Nat×List (List Bool)):=match ws.getLast? with
 |none=>none
 |some w=>if w.isEmpty then some (g.length,ws)else if vV g w then some (g.length-w.length,ws.dropLast)else none
noncomputable def mL(ps:List (List Bool))(g:List Bool):Bool:=match vN g ps with
 |none=>false
 |some p=>match ie g p.2 with
  |none=>false
  |some q=>decide (p.1≤q.1)&&uD g q.1 q.2 p.1
section
variable {c0 c1:Nat} (hne:c0≠c1)
include hne
theorem vd(x y:List Bool):(cd c0 c1 x==cd c0 c1 y)=(x==y):=Bool.eq_iff_iff.mpr ⟨fun h=>beq_iff_eq.mpr (j3 hne (eq_of_beq h)),fun h=>beq_iff_eq.mpr (congrArg _ (eq_of_beq h))⟩
theorem Fd(g w:List Bool):Txt.startswith (S (cd c0 c1 g)) (S (cd c0 c1 w))=qm g w:=by
 unfold Txt.startswith qm
 rw[StrLaws.subAt_eq,sL,sL,zero_add,aS,aS]
 show(decide (w.length≤g.length)&&(((cd c0 c1 g).drop 0).take w.length==cd c0 c1 w))=_
 rw[drop_zero,show(cd c0 c1 g).take w.length=cd c0 c1 (g.take w.length)from map_take.symm,vd hne]
theorem BJ(g w:List Bool):Txt.endswith (S (cd c0 c1 g)) (S (cd c0 c1 w))=vV g w:=by
 unfold Txt.endswith vV
 rw[StrLaws.subAt_eq,sL,sL,zero_add,aS,aS]
 show(decide (w.length≤g.length)&&(((cd c0 c1 g).drop (g.length-w.length)).take w.length==cd c0 c1 w))=_
 refine Eq.symm (show(cd c0 c1 g).drop (g.length-w.length)=cd c0 c1 (g.drop (g.length-w.length))from map_drop.symm)▸?_
 cases h:decide (w.length≤g.length)with
 |false=>rfl
 |true=>
  rw[take_of_length_le (by rw[aS,length_drop];exact le_of_eq (Nat.sub_sub_self (of_decide_eq_true h))),vd hne]
theorem tA(x y:List Bool)(hi free:Nat):∀l:List Nat,(∀i∈l,free≤i)→jn (cd c0 c1 x) (cd c0 c1 y) hi 1 l 0 free=(match d3 x y hi l with|some i=>[i]|none=>[])
 |[],_=>rfl
 |i::l,h=>by
  have e:(((cd c0 c1 x).drop i).take (cd c0 c1 y).length==cd c0 c1 y)=((x.drop i).take y.length==y):=by
   rw[aS,show(cd c0 c1 x).drop i=cd c0 c1 (x.drop i)from map_drop.symm,show(cd c0 c1 (x.drop i)).take y.length=cd c0 c1 ((x.drop i).take y.length)from map_take.symm,vd hne]
  have stop:∀(l:List Nat) (free:Nat),jn (cd c0 c1 x) (cd c0 c1 y) hi 1 l 1 free=[]:=by
   intro l
   induction l with
   |nil=>exact fun _=>rfl
   |cons j l ih=>exact fun free=>ih free
  rw[uj,show d3 x y hi (i::l)=if decide (i+y.length≤hi)&&((x.drop i).take y.length==y)then some i else d3 x y hi l from rfl]
  rw[e,aS,decide_eq_true (h i (mem_cons_self ..))]
  show(if(true&&true&&decide (i+y.length≤hi)&&_)=true then _ else _)=_
  rw[Bool.and_self,Bool.true_and]
  cases hc:(decide (i+y.length≤hi)&&((x.drop i).take y.length==y))with
  |true=>rw[if_pos rfl,if_pos rfl,stop]
  |false=>rw[if_neg Bool.false_ne_true,if_neg Bool.false_ne_true];exact tA x y hi free l fun j hj=>h j (mem_cons_of_mem _ hj)
theorem Dl(x y:List Bool)(lo hi:Nat):cH (cd c0 c1 x) (cd c0 c1 y) lo hi=(match d3 x y hi (range' lo (hi+1-lo))with|some i=>(i:Int)|none=> -1):=by
 unfold cH
 rw[jN,tA hne x y hi lo _ fun i hi=>(List.mem_range'_1.mp hi).1]
 cases d3 x y hi (range' lo (hi+1-lo))<;>rfl
end
theorem o4(n k:Nat):d4 n (k:Nat)=k:=by
 unfold d4
 rw[if_neg (not_lt.mpr (natCast_nonneg k)),Int.max_eq_right (natCast_nonneg k),Int.toNat_natCast]
section
variable {c0 c1:Nat} (hne:c0≠c1)
include hne
omit hne in theorem goL_n {g w:List Bool} {ep sp:Nat} {r:List (List Bool)} (h:d3 g w ep (range' sp (ep+1-sp))=none):uD g ep (w::r) sp=false:=by
 show(match d3 g w ep (range' sp (ep+1-sp))with
  |none=>false
  |some i=>uD g ep r (i+w.length))=_
 rw[h]
omit hne in theorem goL_s {g w:List Bool} {ep sp i:Nat} {r:List (List Bool)} (h:d3 g w ep (range' sp (ep+1-sp))=some i):uD g ep (w::r) sp=uD g ep r (i+w.length):=by
 show(match d3 g w ep (range' sp (ep+1-sp))with
  |none=>false
  |some i=>uD g ep r (i+w.length))=_
 rw[h]
theorem Em(g:List Bool)(ep:Nat)(hep:ep≤g.length):∀(ws:List (List Bool)) (sp:Nat),hJ (cd c0 c1 g) (ep:Nat) (ws.map (cd c0 c1)) (sp:Nat)=uD g ep ws sp
 |[],_=>rfl
 |w::ws,sp=>by
  rw[map_cons]
  show(if cH (cd c0 c1 g) (cd c0 c1 w) (d4 (cd c0 c1 g).length sp) (min (d4 (cd c0 c1 g).length ep) (cd c0 c1 g).length)<0 then false else hJ (cd c0 c1 g) ep (ws.map (cd c0 c1)) (cH (cd c0 c1 g) (cd c0 c1 w) (d4 (cd c0 c1 g).length sp) (min (d4 (cd c0 c1 g).length ep) (cd c0 c1 g).length)+(cd c0 c1 w).length))=_
  rw[o4,o4,aS,min_eq_left hep,Dl hne]
  cases hf:d3 g w ep (range' sp (ep+1-sp))with
  |none=>exact(goL_n hf).symm
  |some i=>
   rw[goL_s hf]
   show(if(i:Int)<0 then false else hJ _ _ _ ((i:Int)+((cd c0 c1 w).length:Nat)))=uD g ep ws (i+w.length)
   rw[if_neg (not_lt.mpr (natCast_nonneg i)),aS]
   exact Em g ep hep ws (i+w.length)
theorem A9(g:List Bool):∀ws:List (List Bool),Dq (cd c0 c1 g) (ws.map (cd c0 c1))=(vN g ws).map fun p=>(p.1,p.2.map (cd c0 c1))
 |[]=>rfl
 |w::ws=>by
  rw[map_cons]
  show(if(cd c0 c1 w).isEmpty then some (0,cd c0 c1 w::ws.map (cd c0 c1))else if Txt.startswith (S (cd c0 c1 g)) (S (cd c0 c1 w))then some ((cd c0 c1 w).length,ws.map (cd c0 c1))else none)=map _ (if w.isEmpty then some (0,w::ws)else if qm g w then some (w.length,ws)else none)
  rw[Fd hne,aS,show(cd c0 c1 w).isEmpty=w.isEmpty from List.isEmpty_map]
  cases w.isEmpty with
  |true=>rfl
  |false=>cases qm g w<;>rfl
theorem D1(g:List Bool)(ws:List (List Bool)):Dr (cd c0 c1 g) (ws.map (cd c0 c1))=(ie g ws).map fun p=>((p.1:Int),p.2.map (cd c0 c1)):=by
 unfold Dr ie
 refine Eq.symm (List.getLast?_map)▸?_
 cases ws.getLast? with
 |none=>rfl
 |some w=>
  show(if(cd c0 c1 w).isEmpty then _ else if Txt.endswith _ _ then _ else _)=map _ (if w.isEmpty then _ else if vV g w then _ else _)
  rw[BJ hne,show(cd c0 c1 w).isEmpty=w.isEmpty from List.isEmpty_map,aS]
  cases w.isEmpty with
  |true=>rfl
  |false=>
   cases he:vV g w with
   |false=>rfl
   |true=>
    have hl:=of_decide_eq_true (and_eq_true_iff.mp he).1
    show some (((g.length:Nat):Int)-((cd c0 c1 w).length:Nat),(ws.map (cd c0 c1)).dropLast)=some (((g.length-w.length:Nat):Int),(ws.dropLast).map (cd c0 c1))
    rw[aS,Int.ofNat_sub hl,List.map_dropLast]
theorem Gl{want:List Nat}{ps:List (List Bool)}(h1:nF want=true)(h2:nq want=ps.map (cd c0 c1))(g:List Bool):jx want (cd c0 c1 g)=mL ps g:=by
 unfold jx mL
 rw[if_pos h1,h2,A9 hne]
 cases vN g ps with
 |none=>rfl
 |some p=>
  show BK _ _ _=(match ie g p.2 with
   |none=>false
   |some q=>decide (p.1≤q.1)&&uD g q.1 q.2 p.1)
  unfold BK
  rw[D1 hne]
  cases hb:ie g p.2 with
  |none=>rfl
  |some q=>
   show ye _ _ _ _=_
   unfold ye
   have hq:q.1≤g.length:=by
    unfold ie at hb
    split at hb
    ·exact nomatch hb
    ·split at hb
     ·obtain rfl:=sI hb;exact le_refl _
     ·split at hb
      ·obtain rfl:=sI hb;exact sub_le _ _
      ·exact nomatch hb
   show(if((p.1:Nat):Int)>((q.1:Nat):Int)then false else hJ _ _ _ _)=(decide (p.1≤q.1)&&uD g q.1 q.2 p.1)
   by_cases hpq:p.1≤q.1
   ·rw[if_neg (not_lt.mpr (ofNat_le.mpr hpq)),Em hne g q.1 hq,decide_eq_true hpq];rfl
   ·rw[if_pos (ofNat_lt.mpr (Nat.lt_of_not_le hpq)),decide_eq_false hpq];rfl
end
section
variable {T:fF} {k n:Nat} {p:List Bool×List Nat}
noncomputable def oZ(x:List Nat):Nat:=if x.all (fun c=>decide (c<256))then 1 else if x.all (fun c=>decide (c<65536))then 2 else 4
theorem oY(x:List Nat):Builtin.Str.strKind (S x)=oZ x:=by
 unfold Builtin.Str.strKind oZ S
 simp
noncomputable def ug(x cuts:List Nat)(w:Nat):List (List Nat):=((0::cuts.map (· +w)).zip (cuts++[x.length])).map fun p=>(x.drop p.1).take (p.2-p.1)
theorem uf(x cuts:List Nat)(w:Nat):(Builtin.Str.partsBetween (S x) cuts w).map (fun p=>p.cps.toList)=ug x cuts w:=by
 unfold Builtin.Str.partsBetween ug
 rw[sL,map_map]
 apply map_congr_left
 intro p _
 show(Builtin.Str.strSub (S x) p.1 p.2).cps.toList=_
 rw[StrLaws.strSub_toList];rfl
noncomputable def C8(x y:List Nat):List Nat:=jn x y x.length (x.length+1) (range' 0 (x.length+1)) 0 0
noncomputable def CZ(x y:List Nat):List (List Nat):=if decide (x.length<y.length)||decide (oZ x<oZ y)then[x]else if(C8 x y).isEmpty then[x]else ug x (C8 x y) y.length
theorem uQ(x y:List Nat):(Txt.split (S x) (S y)).map (fun p=>p.cps.toList)=CZ x y:=by
 unfold Txt.split CZ
 rw[oY,oY,sL,sL,jN]
 show List.map _ (if(decide (x.length<y.length)||decide (oZ x<oZ y))=true then[S x]else if(C8 x y).isEmpty=true then[S x]else Builtin.Str.partsBetween (S x) (C8 x y) y.length)=_
 split
 ·rfl
 ·split
  ·rfl
  ·exact uf _ _ _
theorem oD(x y:List Nat):kf x y=CZ x y:=uQ x y
theorem zQ(c0 c1:Nat)(t:List Bool)(a c:Nat):bM (cd c0 c1 t) a c=cd c0 c1 ((t.drop a).take (c-a)):=by
 unfold bM
 rw[show(cd c0 c1 t).drop a=cd c0 c1 (t.drop a)from map_drop.symm,show(cd c0 c1 (t.drop a)).take (c-a)=cd c0 c1 ((t.drop a).take (c-a))from map_take.symm]
noncomputable def BE(t:List Bool)(begin low front:Nat)(c:Bool):List Nat:=(range' low (min (front+2) (t.length+1)-low)).filter fun p=>vV ((t.drop begin).take (front-begin)++[c]) ((t.drop begin).take (p-begin))
noncomputable def xu(t:List Bool)(gp:List Nat)(front:Nat):Bool×List Nat:=(decide (front=t.length),[false,true].map fun c=>dH (t.length+1) (BE t (cG gp front).1 (cG gp front).2 front c))
noncomputable def f8(t:List Bool)(gp:List Nat):fF:=(List.range (t.length+1)).map (xu t gp)++[(false,[t.length+1,t.length+1])]
theorem Fw{c0 c1:Nat}(hne:c0≠c1)(t:List Bool)(gp:List Nat):rH (cd c0 c1 t) gp [c0,c1]=f8 t gp:=by
 have e:∀(begin low front:Nat) (c:Bool),bK (cd c0 c1 t) begin low front (sg c0 c1 c)=BE t begin low front c:=fun begin low front c=>by
  unfold bK BE
  rw[aS]
  refine congrArg (fun f=>List.filter f _) (funext fun p=>?_)
  rw[zQ,zQ, ←BJ hne,j4];rfl
 have e2:∀front,mI (cd c0 c1 t) gp [c0,c1] front=xu t gp front:=fun front=>by
  have e0:=e (cG gp front).1 (cG gp front).2 front false
  have e1:=e (cG gp front).1 (cG gp front).2 front true
  show(decide (front=(cd c0 c1 t).length),[dH ((cd c0 c1 t).length+1) (bK (cd c0 c1 t) (cG gp front).1 (cG gp front).2 front (sg c0 c1 false)),dH ((cd c0 c1 t).length+1) (bK (cd c0 c1 t) (cG gp front).1 (cG gp front).2 front (sg c0 c1 true))])=_
  rw[e0,e1,aS];rfl
 unfold rH f8
 rw[aS,show mI (cd c0 c1 t) gp [c0,c1]=xu t gp from funext e2]
noncomputable def CW(T:fF):Bool:=decide (0<T.length)&&T.all fun p=>decide (p.2.length=2)&&p.2.all fun x=>decide (x<T.length)
theorem DS(h:CW T=true):∀(w:List Bool) (s:Nat),s<T.length→∃r,CD T w s=some r∧∀x∈s::r,x<T.length:=by
 obtain⟨h0,h1⟩:=and_eq_true_iff.mp h
 intro w
 induction w with
 |nil=>exact fun s hs=>⟨[],rfl,fun x hx=>by rw[mem_singleton.mp hx];exact hs⟩
 |cons c w ih=>
  intro s hs
  have hr:=getElem?_eq_getElem hs
  obtain⟨h2,h3⟩:=and_eq_true_iff.mp (all_eq_true.mp h1 T[s] (getElem_mem hs))
  have h2:=of_decide_eq_true h2
  have hc:b1 c<T[s].2.length:=by rw[h2];cases c<;>decide
  have hg:=getElem?_eq_getElem hc
  have hx:=of_decide_eq_true (all_eq_true.mp h3 _ (getElem_mem hc))
  obtain⟨r,e,hm⟩:=ih _ hx
  refine⟨T[s].2[b1 c]::r,?_,fun x hx=>?_⟩
  ·show((T[s]?).bind fun p=>(p.2[b1 c]?).bind fun t=>(CD T w t).map (t:: ·))=_
   rw[hr,Option.bind_some,hg,Option.bind_some,e];rfl
  ·rcases mem_cons.mp hx with rfl|hx
   ·exact hs
   ·exact hm x hx
theorem D6(h:CW T=true)(w:List Bool):(aK T w).isSome=true:=by
 have h0:=of_decide_eq_true (and_eq_true_iff.mp h).1
 obtain⟨r,e,hm⟩:=DS h w 0 h0
 unfold aK
 rw[e,Option.bind_some]
 cases hl:(0::r).getLast? with
 |none=>exact nomatch List.getLast?_eq_none_iff.mp hl
 |some s=>
  rw[Option.bind_some,getElem?_eq_getElem (hm s (List.mem_of_getLast? hl))];rfl
noncomputable def mE:List Bool→List Bool→List Nat→List (List Bool)
 |cur,_,[]=>[cur]
 |cur,[],g::_=>if g=0 then[cur]else cur::(replicate (g-1) []++[[]])
 |cur,c::t,g::gs=>if g=0 then mE (cur++[c]) t gs else cur::(replicate (g-1) []++mE [c] t gs)
noncomputable def HP(t:List Bool)(gp:List Nat):List (List Bool):=mE [] t gp
noncomputable def mz(gp:List Nat):Bool:=gp.all fun g=>decide (g=0)
noncomputable def fB(t:List Bool)(gp:List Nat)(w:List Bool):Bool:=if mz gp then decide (t=w)else mL (HP t gp) w
noncomputable def rE(t gp:List Nat):List Nat:=(yA t gp).flatten
noncomputable def ph(want:List Nat):Bool:= !(jn want [46,46,46] want.length 1 (range' 0 (want.length+1)) 0 0).isEmpty
noncomputable def Fv(k:Nat)(p:List Bool×List Nat):Bool:=if mz p.2 then !ph (rE (cd (au k 0) (au k 1) p.1) p.2)&&decide (rE (cd (au k 0) (au k 1) p.1) p.2=cd (au k 0) (au k 1) p.1)
 else ph (rE (cd (au k 0) (au k 1) p.1) p.2)&&(decide (CZ (rE (cd (au k 0) (au k 1) p.1) p.2) [46,46,46]=(HP p.1 p.2).map (cd (au k 0) (au k 1)))&&(decide (2≤(HP p.1 p.2).length)&&(decide ((HP p.1 p.2).length<300)&&(HP p.1 p.2).all fun w=>decide (w.length<1000))))
noncomputable def y0{α:Type}(xs:List α):Nat→List (List α)
 |0=>[[]]
 |n+1=>(y0 xs n).flatMap fun l=>xs.map fun d=>l++[d]
theorem gn{α:Type}{xs:List α}{f:Nat→α}(h:∀p,f p∈xs):∀n,(List.range n).map f∈y0 xs n
 |0=>List.mem_singleton_self _
 |n+1=>by
  rw[range_succ,map_append]
  exact mem_flatMap.mpr ⟨_,gn h n,mem_map.mpr ⟨f n,h n,rfl⟩⟩
noncomputable def tW(n:Nat):List (List Bool×List Nat):=(y0 [false,true] n).flatMap fun t=>(y0 [0,1,2] (n+1)).map fun g=>(t,g)
theorem Ad(c:Nat):(qS c,gz c)∈tW (c%4):=by
 refine mem_flatMap.mpr ⟨qS c,gn (fun p=>?_) _,mem_map.mpr ⟨gz c,gn (fun p=>?_) _,rfl⟩⟩
 ·cases decide (c/4/2^p%2=1)<;>decide
 ·have h:c/32/3^p%3<3:=mod_lt _ (by decide)
  generalize c/32/3^p%3=x at h
  match x,h with
  |0,_=>decide
  |1,_=>decide
  |2,_=>decide
theorem Kf:(List.range 4).all (fun n=>(tW n).all (Fv 0))=true:=by decide +kernel
theorem Ke:(List.range 4).all (fun n=>(tW n).all (Fv 1))=true:=by decide +kernel
theorem Kd:(List.range 4).all (fun n=>(tW n).all (Fv 2))=true:=by decide +kernel
theorem zl(hk:k<3)(hn:n<4)(hp:p∈tW n):Fv k p=true:=by
 have h2:(List.range 4).all (fun n=>(tW n).all (Fv k))=true:=match k,hk with
  |0,_=>Kf
  |1,_=>Ke
  |2,_=>Kd
 exact all_eq_true.mp (all_eq_true.mp h2 n (mem_range.mpr hn)) p hp
theorem p7(want:List Nat):nF want=ph want:=by
 unfold nF ph
 rw[jN];rfl
theorem jK(t gp:List Nat):pV t gp=rE t gp:=mX _
theorem Im(hk:k<3)(hn:n<4)(hp:p∈tW n)(w:List Bool):jx (pV (cd (au k 0) (au k 1) p.1) p.2) (cd (au k 0) (au k 1) w)=fB p.1 p.2 w:=by
 have hne:=(zk k hk).2.2.1
 have h:=zl hk hn hp
 unfold Fv at h
 unfold fB
 rw[jK]
 by_cases hz:mz p.2=true
 ·rw[if_pos hz]at h ⊢
  obtain⟨h1,h2⟩:=and_eq_true_iff.mp h
  have h1:=(not_eq_true' _).mp h1
  have h2:=of_decide_eq_true h2
  unfold jx
  rw[if_neg (by rw[p7,h1];decide),h2]
  exact decide_eq_decide.mpr ⟨fun z=>j3 hne z,fun z=>congrArg _ z⟩
 ·rw[if_neg hz]at h ⊢
  obtain⟨h1,h2⟩:=and_eq_true_iff.mp h
  exact Gl hne ((p7 _).trans h1) ((oD _ _).trans (of_decide_eq_true (and_eq_true_iff.mp h2).1)) w
theorem Io(hk:k<3)(hn:n<4)(hp:p∈tW n)(hl:(pV (cd (au k 0) (au k 1) p.1) p.2).length<1000):HM (pV (cd (au k 0) (au k 1) p.1) p.2):=by
 have h:=zl hk hn hp
 unfold Fv at h
 rw[jK]at hl ⊢
 refine⟨hl,fun hin=>?_⟩
 rw[p7]at hin
 by_cases hz:mz p.2=true
 ·rw[if_pos hz]at h
  rw[hin]at h
  exact nomatch (and_eq_true_iff.mp h).1
 ·rw[if_neg hz]at h
  obtain⟨h2,h3⟩:=and_eq_true_iff.mp (and_eq_true_iff.mp h).2
  obtain⟨h4,h5⟩:=and_eq_true_iff.mp h3
  obtain⟨h6,h7⟩:=and_eq_true_iff.mp h5
  have e:nq (rE (cd (au k 0) (au k 1) p.1) p.2)=(HP p.1 p.2).map (cd (au k 0) (au k 1)):=(oD _ _).trans (of_decide_eq_true h2)
  rw[e,length_map]
  refine⟨⟨of_decide_eq_true h4,of_decide_eq_true h6⟩,fun w hw=>?_,wG (le_of_lt (lt_trans hl (by decide)))⟩
  obtain⟨x,hx,rfl⟩:=mem_map.mp hw
  rw[aS]
  exact lt_trans (of_decide_eq_true (all_eq_true.mp h7 x hx)) (by decide)
end
section
variable {b:List (List Bool)}
theorem BF(g:List Bool){ep sp:Nat}(h:sp≤ep):d3 g [] ep (range' sp (ep+1-sp))=some sp:=by
 have e:ep+1-sp=(ep-sp)+1:=Nat.succ_sub h
 rw[e,List.range'_succ]
 exact if_pos (and_eq_true_iff.mpr ⟨decide_eq_true h,rfl⟩)
theorem xF{g y:List Bool}{hi:Nat}:∀{l:List Nat} {i:Nat},d3 g y hi l=some i→i+y.length≤hi
 |[],_,h=>nomatch h
 |j::l,i,h=>by
  replace h:(if decide (j+y.length≤hi)&&((g.drop j).take y.length==y)then some j else d3 g y hi l)=some i:=h
  by_cases hc:(decide (j+y.length≤hi)&&((g.drop j).take y.length==y))=true
  ·rw[if_pos hc]at h
   obtain rfl:=sI h
   exact of_decide_eq_true (and_eq_true_iff.mp hc).1
  ·rw[if_neg hc]at h;exact xF h
theorem vL(g:List Bool)(ep:Nat)(ys:List (List Bool)):∀(xs:List (List Bool)) (sp:Nat),sp≤ep→uD g ep (xs++[]::ys) sp=uD g ep (xs++ys) sp
 |[],sp,h=>by
  exact goL_s (BF g h)
 |x::xs,sp,h=>by
  rw[cons_append,cons_append]
  cases hf:d3 g x ep (range' sp (ep+1-sp))with
  |none=>rw[goL_n hf,goL_n hf]
  |some i=>rw[goL_s hf,goL_s hf];exact vL g ep ys xs _ (xF hf)
theorem nO{p:Bool}{a b:Bool}(h:p=true→a=b):(p&&a)=(p&&b):=by
 cases p with
 |true=>rw[h rfl]
 |false=>rfl
theorem tU(g:List Bool)(a:List (List Bool))(hb:b≠[])(sp:Nat):(match ie g (a++[]::b)with
 |none=>false
 |some q=>decide (sp≤q.1)&&uD g q.1 q.2 sp)=(match ie g (a++b)with
 |none=>false
 |some q=>decide (sp≤q.1)&&uD g q.1 q.2 sp):=by
 have e1:(a++[]::b).getLast? =b.getLast? :=by
  cases b with
  |nil=>exact absurd rfl hb
  |cons y b=>rw[List.getLast?_append,List.getLast?_cons_cons];cases hl:(y::b).getLast? with
   |none=>exact nomatch List.getLast?_eq_none_iff.mp hl
   |some z=>rfl
 have e2:(a++b).getLast? =b.getLast? :=by
  rw[List.getLast?_append]
  cases hl:b.getLast? with
  |none=>exact absurd (List.getLast?_eq_none_iff.mp hl) hb
  |some z=>rfl
 have d1:(a++[]::b).dropLast=a++[]::b.dropLast:=by
  rw[List.dropLast_append_of_ne_nil (by exact fun h=>nomatch h)]
  clear e1 e2
  cases b with
  |nil=>exact absurd rfl hb
  |cons y b=>rfl
 have d2:(a++b).dropLast=a++b.dropLast:=List.dropLast_append_of_ne_nil hb
 unfold ie
 refine Eq.symm (e1)▸Eq.symm (e2)▸Eq.symm (d1)▸Eq.symm (d2)▸?_
 cases b.getLast? with
 |none=>rfl
 |some w=>
  dsimp only
  by_cases h1:w.isEmpty=true
  ·rw[if_pos h1,if_pos h1]
   exact nO fun h=>vL g _ b a sp (of_decide_eq_true h)
  ·rw[if_neg h1,if_neg h1]
   by_cases h2:vV g w=true
   ·rw[if_pos h2,if_pos h2]
    exact nO fun h=>vL g _ b.dropLast a sp (of_decide_eq_true h)
   ·rw[if_neg h2,if_neg h2]
noncomputable def i7(g:List Bool)(sp:Nat)(ws:List (List Bool)):Bool:=match ie g ws with
 |none=>false
 |some q=>decide (sp≤q.1)&&uD g q.1 q.2 sp
theorem wp(g x:List Bool)(l:List (List Bool)):mL (x::l) g=if x.isEmpty then i7 g 0 (x::l)else if qm g x then i7 g x.length l else false:=by
 show(match(if x.isEmpty then some (0,x::l)else if qm g x then some (x.length,l)else none)with
  |none=>false
  |some p=>i7 g p.1 p.2)=_
 cases x.isEmpty with
 |true=>rfl
 |false=>cases qm g x<;>rfl
theorem Ag(g x:List Bool)(a:List (List Bool))(hb:b≠[]):mL (x::(a++[]::b)) g=mL (x::(a++b)) g:=by
 rw[wp,wp,show i7 g 0 (x::(a++[]::b))=i7 g 0 (x::(a++b))from tU g (x::a) hb 0,show i7 g x.length (a++[]::b)=i7 g x.length (a++b)from tU g a hb _]
noncomputable def uk(gp:List Nat):List Nat:=gp.map fun g=>min g 1
theorem Fu(t:List Bool):∀(gp:List Nat) (cur:List Bool),mE cur t gp≠[]:=by
 induction t with
 |nil=>intro gp cur;cases gp with
  |nil=>exact fun h=>nomatch h
  |cons g gp=>show(if g=0 then[cur]else _)≠[];split<;>exact fun h=>nomatch h
 |cons c t ih=>intro gp cur;cases gp with
  |nil=>exact fun h=>nomatch h
  |cons g gp=>
   show(if g=0 then mE (cur++[c]) t gp else _)≠[]
   split
   ·exact ih gp _
   ·exact fun h=>nomatch h
theorem C0(g:List Bool)(t:List Bool):∀(gp:List Nat) (cur:List Bool) (a:List (List Bool)),(∀x∈gp,x<3)→mL (a++mE cur t gp) g=mL (a++mE cur t (uk gp)) g:=by
 have three:∀x,x<3→x=0∨x=1∨x=2:=by decide
 have step:∀(a:List (List Bool)) (cur:List Bool) {b b':List (List Bool)},b≠[]→(∀a',mL (a'++b) g=mL (a'++b') g)→mL (a++cur::([]::b)) g=mL (a++cur::b') g:=fun a cur {b b'} hb h=>by
  have:=h (a++[cur])
  rw[append_assoc,append_assoc]at this
  refine Eq.trans ?_ this
  cases a with
  |nil=>exact Ag g cur [] hb
  |cons x a=>
   have:=Ag g x (a++[cur]) hb
   rw[append_assoc,append_assoc]at this
   exact this
 induction t with
 |nil=>
  intro gp cur a h
  cases gp with
  |nil=>rfl
  |cons x gp=>
   rcases three x (h x (mem_cons_self ..))with rfl|rfl|rfl
   ·rfl
   ·rfl
   ·exact step a cur (b:=[[]]) (b':=[[]]) (fun h=>nomatch h) fun _=>rfl
 |cons c t ih=>
  intro gp cur a h
  cases gp with
  |nil=>rfl
  |cons x gp=>
   have hg:=fun y hy=>h y (mem_cons_of_mem _ hy)
   rcases three x (h x (mem_cons_self ..))with rfl|rfl|rfl
   ·exact ih gp (cur++[c]) a hg
   ·have:=ih gp [c] (a++[cur]) hg
    rw[append_assoc,append_assoc]at this
    exact this
   ·exact step a cur (Fu t gp [c]) fun a'=>ih gp [c] a' hg
theorem Gj(t:List Bool){gp:List Nat}(h:∀x∈gp,x<3):fB t gp=fB t (uk gp):=funext fun w=>by
 have three:∀x,x<3→decide (x=0)=decide (min x 1=0):=by decide
 have e:mz gp=mz (uk gp):=by
  unfold mz uk
  rw[List.all_map]
  clear w
  induction gp with
  |nil=>rfl
  |cons x gp ih=>rw[all_cons,all_cons,three x (h x (mem_cons_self ..)),ih fun y hy=>h y (mem_cons_of_mem _ hy)];rfl
 unfold fB
 rw[e]
 split
 ·rfl
 ·exact C0 w t gp [] [] h
theorem AW(gp:List Nat)(k:Nat):decide (gp.getD k 0≠0)=decide ((uk gp).getD k 0≠0):=by
 unfold uk
 refine Eq.symm (getD_eq_getElem?_getD)▸Eq.symm (getD_eq_getElem?_getD)▸Eq.symm (getElem?_map)▸?_
 cases gp[k]? with
 |none=>rfl
 |some x=>
  show decide (x≠0)=decide (min x 1≠0)
  refine decide_eq_decide.mpr ?_
  cases x with
  |zero=>exact Iff.rfl
  |succ n=>rw[Nat.min_eq_right (succ_le_succ (zero_le n))];exact⟨fun _=>Nat.one_ne_zero,fun _=>Nat.succ_ne_zero n⟩
theorem zo(t:List Bool)(gp:List Nat):f8 t gp=f8 t (uk gp):=by
 have e:∀front,cG gp front=cG (uk gp) front:=fun front=>by
  unfold cG eG
  rw[show(fun k=>decide (gp.getD k 0≠0))=fun k=>decide ((uk gp).getD k 0≠0)from funext (AW gp)]
 have e2:xu t gp=xu t (uk gp):=funext fun front=>by unfold xu;rw[e]
 unfold f8
 rw[e2]
end
section
variable {b c:Bool} {h:List Bool} {ends:List (List Bool)} {bk:ae} {t k:Nat} {ow:fF}
noncomputable abbrev Wl:=List (List Bool)
structure nx (f:List Bool→Bool) (A:bJ) (W:Wl):Prop where
 ok:∀p∈A,p.2=f p.1∧p.1∈W
 len:A.length≤W.length
theorem oU{w:List Bool}{t:Bool}:∀{A:bJ},A.lookup w=some t→(w,t)∈A
 |p::A,h=>by
  rw[lookup_cons]at h
  by_cases e:w=p.1
  ·rw[e,beq_self_eq_true]at h
   obtain rfl:=sI h
   rw[e];exact mem_cons_self ..
  ·rw[beq_eq_false_iff_ne.mpr e]at h
   exact mem_cons_of_mem _ (oU h)
theorem lN{f:List Bool→Bool}{A:bJ}{W:Wl}(C:nx f A W)(w:List Bool):(ask f w A).1=f w∧nx f (ask f w A).2 (w::W):=by
 unfold ask
 cases h:A.lookup w with
 |some t=>exact⟨(C.ok _ (oU h)).1,fun p hp=>⟨(C.ok p hp).1,mem_cons_of_mem _ (C.ok p hp).2⟩,le_succ_of_le C.len⟩
 |none=>
  refine⟨rfl,fun p hp=>?_,?_⟩
  ·rcases mem_append.mp hp with hp|hp
   ·exact⟨(C.ok p hp).1,mem_cons_of_mem _ (C.ok p hp).2⟩
   ·rw[mem_singleton.mp hp];exact⟨rfl,mem_cons_self ..⟩
  ·show(A++[(w,f w)]).length≤W.length+1
   rw[length_append];exact succ_le_succ C.len
noncomputable def uW(f:List Bool→Bool)(h:List Bool):List (List Bool)→Nat→List Nat
 |[],_=>[]
 |e::es,k=>if f (h++e)then k::uW f h es (k+1)else uW f h es (k+1)
noncomputable def Fi(h:List Bool):List (List Bool)→Wl→Wl
 |[],W=>W
 |e::es,W=>Fi h es ((h++e)::W)
theorem v7{f:List Bool→Bool}{h:List Bool}:∀(es:List (List Bool)) (k:Nat) {A:bJ} {W:Wl},nx f A W→(di f h es k A).1=uW f h es k∧nx f (di f h es k A).2 (Fi h es W)
 |[],_,_,_,C=>⟨rfl,C⟩
 |e::es,k,A,W,C=>by
  obtain⟨a1,a2⟩:=lN C (h++e)
  obtain⟨b1,b2⟩:=v7 es (k+1) a2
  refine⟨?_,b2⟩
  show(if(ask f (h++e) A).1 then k::(di f h es (k+1) _).1 else(di f h es (k+1) _).1)=if f (h++e)then k::uW f h es (k+1)else uW f h es (k+1)
  rw[a1,b1]
noncomputable def Cs(place turn:Nat)(bk:ae)(x:Nat):Option (Nat×ae):=(uZ place turn bk x []).map fun r=>(r.1,r.2.1)
theorem Fp(place turn:Nat)(bk:ae)(x:Nat)(A:bJ):uZ place turn bk x A=(Cs place turn bk x).map fun r=>(r.1,r.2,A):=by
 unfold Cs uZ
 split
 ·cases bk[kX bk x]? <;>rfl
 ·split
  ·rfl
  ·cases(vE bk (if turn%2=1 then Jt bk x else kX bk x) (x,place))[kX bk x]? <;>rfl
noncomputable def gR{α β:Type}(R:α→β→Prop)(x:Option α)(y:Option β):Prop:=∀b,y=some b→∃a,x=some a∧R a b
section
variable {α β γ δ:Type} {f:List Bool→Bool} {R:γ→δ→Prop}
theorem gR.some{a:γ}{b:δ}(h:R a b):gR R (some a) (some b):=fun c e=>⟨a,rfl,sI e▸h⟩
theorem gR.none{x:Option γ}:gR R x none:=fun c e=>nN e
theorem gR.ite{d:Bool}{x:Option γ}{y:Option δ}(k:d=true→c=true)(h:gR R x y):gR R (if c then x else .none) (if d then y else .none):=by
 cases d with
 |true=>rw[k rfl];exact h
 |false=>exact gR.none
theorem gR.bind{S:α→β→Prop}{x:Option α}{y:Option β}{F:α→Option γ}{G:β→Option δ}(h:gR S x y)(k:∀a b,S a b→gR R (F a) (G b)):gR R (x.bind F) (y.bind G):=by
 intro c e
 cases y with
 |none=>exact nN e
 |some b=>
  obtain⟨a,rfl,r⟩:=h b rfl
  exact k a b r c e
theorem gR.same{x:Option α}{F:α→Option γ}{G:α→Option δ}(k:∀a,gR R (F a) (G a)):gR R (x.bind F) (x.bind G):=by
 cases x with
 |none=>exact gR.none
 |some a=>exact k a
inductive Q2 (f:List Bool→Bool):β×bJ→β×Wl→Prop
 |mk {a A W} (C:nx f A W):Q2 f (a,A) (a,W)
inductive Q3 (f:List Bool→Bool):α×β×bJ→α×β×Wl→Prop
 |mk {a b A W} (C:nx f A W):Q3 f (a,b,A) (a,b,W)
inductive Q4 (f:List Bool→Bool):List (List Bool)×ae×bJ×β→List (List Bool)×ae×Wl×β→Prop
 |mk {a b A W m} (C:nx f A W):Q4 f (a,b,A,m) (a,b,W,m)
theorem gR.bq{x:Option (β×bJ)}{y:Option (β×Wl)}{F:β×bJ→Option γ}{G:β×Wl→Option δ}(h:gR (Q2 f) x y)(k:∀a A W,nx f A W→gR R (F (a,A)) (G (a,W))):gR R (x.bind F) (y.bind G):=h.bind fun _ _ r=>r.rec fun C=>k _ _ _ C
theorem gR.bt{x:Option (α×β×bJ)}{y:Option (α×β×Wl)}{F:α×β×bJ→Option γ}{G:α×β×Wl→Option δ}(h:gR (Q3 f) x y)(k:∀a b A W,nx f A W→gR R (F (a,b,A)) (G (a,b,W))):gR R (x.bind F) (y.bind G):=h.bind fun _ _ r=>r.rec fun C=>k _ _ _ _ C
theorem gR.bs{x:Option (List (List Bool)×ae×bJ×β)}{y:Option (List (List Bool)×ae×Wl×β)}{F:List (List Bool)×ae×bJ×β→Option γ}{G:List (List Bool)×ae×Wl×β→Option δ}(h:gR (Q4 f) x y)(k:∀a b A W m,nx f A W→gR R (F (a,b,A,m)) (G (a,b,W,m))):gR R (x.bind F) (y.bind G):=h.bind fun _ _ r=>r.rec fun C=>k _ _ _ _ _ C
end
noncomputable def Ct(f:List Bool→Bool)(place turn:Nat)(h:List Bool)(ends:List (List Bool))(bk:ae)(W:Wl):Option (Nat×ae×Wl):=(Cs place turn bk (jo (uW f h ends 0))).map fun r=>(r.1,r.2,Fi h ends W)
section
variable {f:List Bool→Bool} {A:bJ} {W:Wl}
theorem wA{place turn:Nat}(C:nx f A W):gR (Q3 f) (put f place turn h ends bk A) (Ct f place turn h ends bk W):=by
 obtain⟨b1,b2⟩:=v7 (h:=h) ends 0 C
 unfold put
 rw[Fp,b1]
 unfold Ct
 cases Cs place turn bk (jo (uW f h ends 0))with
 |none=>exact gR.none
 |some r=>exact .some ⟨b2⟩
noncomputable def K5(n:Nat)(bk:ae)(h:List Bool)(ends:List (List Bool)):Bool:=decide (n+ends.length<190)&&(decide (bk.length<180)&&(decide (h.length<39)&&(ends.all (fun e=>decide (e.length<39))&&decide (ends.length<20))))
theorem B5{a:Bool}(k:a=true→b=true)(h:(a&&c)=true):(b&&c)=true:=and_eq_true_iff.mpr ⟨k (and_eq_true_iff.mp h).1,(and_eq_true_iff.mp h).2⟩
theorem Km{a b m:Nat}(k:a≤b)(h:decide (b<m)=true):decide (a<m)=true:=decide_eq_true (lt_of_le_of_lt k (of_decide_eq_true h))
theorem A6(C:nx f A W):K5 W.length bk h ends=true→En A bk h ends=true:=B5 (Km (add_le_add_right C.len _))
end
noncomputable def za(f:List Bool→Bool)(t:Nat)(ends:List (List Bool)):List (List Bool)→Nat→ae→Wl→Option (ae×Wl)
 |[],_,bk,W=>some (bk,W)
 |h::hs,k,bk,W=>if K5 W.length bk h ends then(Ct f k t h ends bk W).bind fun r=>za f t ends hs (k+1) r.2.1 r.2.2 else none
theorem zZ{f:List Bool→Bool}(hs:List (List Bool)):∀(k:Nat) (bk:ae) (A:bJ) (W:Wl),nx f A W→gR (Q2 f) (zb f t ends hs k bk A) (za f t ends hs k bk W):=by
 induction hs with
 |nil=>exact fun k bk A W C=>.some ⟨C⟩
 |cons x hs ih=>exact fun k bk A W C=>.ite (A6 C) (.bt (wA C) fun a b A W C=>ih (k+1) b A W C)
noncomputable def zR(f:List Bool→Bool)(t:Nat)(ends:List (List Bool))(h:List Bool)(b:Bool)(s:List (List Bool)×ae×Wl×List Nat):Option (List (List Bool)×ae×Wl×List Nat):=
 if(K5 s.2.2.1.length s.2.1 (h++[b]) ends&&decide (s.1.length<40))&&decide (s.2.2.2.length<40)then(Ct f s.1.length t (h++[b]) ends s.2.1 s.2.2.1).bind fun r=>some (if r.1=s.1.length then s.1++[h++[b]]else s.1,r.2.1,r.2.2,s.2.2.2++[r.1])else none
theorem qi{f:List Bool→Bool}{hs:List (List Bool)}{m:List Nat}{A:bJ}{W:Wl}(C:nx f A W):gR (Q4 f) (ld f t ends k h b (hs,bk,A,m)) (zR f t ends h b (hs,bk,W,m)):=
 .ite (B5 (B5 (A6 C))) (.bt (wA C) fun _ _ _ _ C=>.some ⟨C⟩)
noncomputable def pM(f:List Bool→Bool)(t:Nat)(ends:List (List Bool)):Nat→Nat→List (List Bool)→ae→Wl→fF→Option (List (List Bool)×ae×Wl×fF)
 |0,_,hs,bk,W,mv=>some (hs,bk,W,mv)
 |n+1,k,hs,bk,W,mv=>match hs[k]? with
  |none=>pM f t ends n (k+1) hs bk W mv
  |some h=>if decide (W.length<190)&&decide (h.length<90)then(zR f t ends h false (hs,bk,h::W,[])).bind fun s=>(zR f t ends h true s).bind fun s=>pM f t ends n (k+1) s.1 s.2.1 s.2.2.1 (mv++[(f h,s.2.2.2)])else none
theorem xk{f:List Bool→Bool}(n:Nat):∀(k:Nat) (hs:List (List Bool)) (bk:ae) (mv:fF) (A:bJ) (W:Wl),nx f A W→gR (Q4 f) (lZ f t ends n k hs bk A mv) (pM f t ends n k hs bk W mv):=by
 induction n with
 |zero=>exact fun k hs bk mv A W C=>.some ⟨C⟩
 |succ n ih=>
  intro k hs bk mv A W C
  show gR _ (match hs[k]? with|none=>_|some h=>_) (match hs[k]? with|none=>_|some h=>_)
  cases hs[k]? with
  |none=>exact ih (k+1) hs bk mv A W C
  |some h=>
   obtain⟨a1,a2⟩:=lN C h
   refine .ite (B5 (Km C.len)) (.bs (qi a2) fun hs bk A W m C=>.bs (qi C) fun hs bk A W m C=>?_)
   refine Eq.symm (a1)▸?_
   exact ih _ hs bk _ A W C
noncomputable def Ef(f:List Bool→Bool)(w:List Bool)(hs:List (List Bool))(tr:List Nat)(tru:Bool)(k:Nat)(W:Wl):Option (Bool×Wl):=
 (tr[k]?).bind fun t=>(hs[t]?).map fun h=>(f (h++w.drop k)==tru,(h++w.drop k)::W)
noncomputable def lH(f:List Bool→Bool)(w:List Bool)(hs:List (List Bool))(tr:List Nat)(tru:Bool):Nat→Nat→Nat→List Nat→Wl→Option (Nat×List Nat×Wl)
 |0,_,_,_,_=>none
 |n+1,lo,hi,ls,W=>if lo<hi then(Ef f w hs tr tru ((lo+hi)/2) W).bind fun r=>if r.1 then lH f w hs tr tru n ((lo+hi)/2+1) hi (ls++[(lo+hi)/2]) r.2 else lH f w hs tr tru n lo ((lo+hi)/2) (ls++[(lo+hi)/2]) r.2 else some (lo,ls,W)
section
variable {f:List Bool→Bool} {w:List Bool} {hs:List (List Bool)} {tr:List Nat} {tru:Bool}
theorem Am{A:bJ}{W:Wl}(C:nx f A W):gR (Q2 f) (oS f w hs tr tru k A) (Ef f w hs tr tru k W):=by
 refine .same fun t=>?_
 cases hs[t]? with
 |none=>exact .none
 |some h=>
  obtain⟨a1,a2⟩:=lN C (h++w.drop k)
  exact .some (show Q2 f ((ask f (h++w.drop k) A).1==tru,_) _ from a1.symm▸⟨a2⟩)
theorem vJ(n:Nat):∀(lo hi:Nat) (ls:List Nat) (A:bJ) (W:Wl),nx f A W→gR (Q3 f) (fJ f w hs tr tru n lo hi ls A) (lH f w hs tr tru n lo hi ls W):=by
 induction n with
 |zero=>exact fun _ _ _ _ _ _=>.none
 |succ n ih=>
  intro lo hi ls A W C
  show gR _ (ite _ _ _) (ite _ _ _)
  cases Nat.decLt lo hi with
  |isTrue=>exact .bq (Am C) fun b A W C=>match b with
   |true=>ih _ _ _ A W C
   |false=>ih _ _ _ A W C
  |isFalse=>exact .some ⟨C⟩
end
structure D8 where
 hs:List (List Bool)
 es:List (List Bool)
 bk:ae
 mv:fF
 W:Wl
noncomputable def Kl(hs es:List (List Bool))(n:Nat)(w:List Bool):Bool:=decide (n<190)&&(decide (w.length<40)&&(hs.all (fun h=>decide (h.length<40))&&(decide (hs.length<200)&&decide (es.length<200))))
noncomputable def Kz(es:List (List Bool))(w:List Bool)(c:Nat)(ls:List Nat):Bool:=decide (1≤c)&&(decide (c≤w.length)&&(!(es.contains (w.drop c))&&(!(ls.contains 0)&&(decide (2^ls.length≤2*w.length)&&decide (ls.length<100)))))
noncomputable def yG(f:List Bool→Bool)(ow:fF):Nat→Nat→List (List Bool)→List (List Bool)→Wl→Option D8
 |0,_,_,_,_=>none
 |n+1,t,hs,es,W=>(za f t es hs 0 [] W).bind fun p=>(pM f t es 8 0 hs p.1 p.2 []).bind fun s=>(EF s.2.2.2 ow 99 0 [(0,0,[])]).bind fun r=>match r with
  |none=>some ⟨s.1,es,s.2.1,s.2.2.2,s.2.2.1⟩
  |some w=>(CD s.2.2.2 w 0).bind fun tr=>if Kl s.1 es s.2.2.1.length w then(lH f w s.1 (0::tr) (f w) 60 1 (w.length+1) [] (w::s.2.2.1)).bind fun r=>if Kz es w r.1 r.2.1 then yG f ow n (t+1) s.1 (es++[w.drop r.1]) r.2.2 else none else none
noncomputable def LR(f:List Bool→Bool)(r:D9)(R:D8):Prop:=r=⟨R.hs,R.es,R.bk,R.mv,r.A⟩∧nx f r.A R.W
theorem H6{f:List Bool→Bool}(n:Nat):∀(t:Nat) (hs es:List (List Bool)) (A:bJ) (W:Wl),nx f A W→gR (LR f) (lrn f ow n t hs es A) (yG f ow n t hs es W):=by
 induction n with
 |zero=>exact fun _ _ _ _ _ _=>.none
 |succ n ih=>
  intro t hs es A W C
  refine .bq (zZ hs 0 [] A W C) fun p A W C=>.bs (xk 8 0 hs p [] A W C) fun hs bk A W mv C=>.same fun r=>?_
  cases r with
  |none=>exact .some ⟨rfl,C⟩
  |some w=>
   obtain⟨a1,a2⟩:=lN C w
   refine .same fun tr=>.ite (B5 (Km C.len)) (.bt (a1▸vJ 60 1 _ [] _ _ a2) fun a b A W C=>.ite (fun k=>k) (ih _ _ _ A W C))
theorem DO{f:List Bool→Bool}(n t:Nat)(hs es:List (List Bool)){A:bJ}{W:Wl}{R:D8}(C:nx f A W)(e:yG f ow n t hs es W=some R):∃A',lrn f ow n t hs es A=some ⟨R.hs,R.es,R.bk,R.mv,A'⟩∧nx f A' R.W:=by
 obtain⟨r,e1,e2,c⟩:=H6 n t hs es A W C R e
 exact⟨r.A,e2▸e1,c⟩
end
section
variable {x base:Nat}
noncomputable def IX(base el x:Nat):Bool:=decide (Ft (x*2^base)=IY base el (x*2^base))&&(decide ((Ft (x*2^base)).length≤100)&&(Ft (x*2^base)).all fun w=>decide (w.length≤100))
theorem BD:(List.range 34).all (fun base=>(List.range 5).all fun el=>(List.range (2^el)).all (IX base el))=true:=by decide +kernel
theorem rC(hx:x<16)(hb:base<34):x*2^base<2^38:=lt_of_lt_of_le (Nat.mul_lt_mul_of_lt_of_le hx (pow_le_pow_right (by decide) (le_of_lt_succ hb)) (pow_pos (by decide))) (by decide)
theorem Dk{el:Nat}(hb:base<34)(he:el<5)(hx:x<2^el):nW base el (x*2^base):=by
 have h:=all_eq_true.mp (all_eq_true.mp (all_eq_true.mp BD base (mem_range.mpr hb)) el (mem_range.mpr he)) x (mem_range.mpr hx)
 obtain⟨h1,h⟩:=and_eq_true_iff.mp h
 obtain⟨h2,h3⟩:=and_eq_true_iff.mp h
 have h1:=of_decide_eq_true h1
 have h2:=of_decide_eq_true h2
 have hj:fW [44,32] (Ft (x*2^base))=true:=cg (by decide) (le_trans h2 (by decide)) fun w hw=>le_trans (of_decide_eq_true (all_eq_true.mp h3 w hw)) (by decide)
 have hx16:x<16:=lt_of_lt_of_le hx (pow_le_pow_right (by decide) (le_of_lt_succ he))
 exact⟨lt_trans (rC hx16 hb) (by decide),hj,h1▸hj,congrArg (gv [44,32]) h1⟩
noncomputable def J5(no hi base x:Nat):Bool:=decide (gX ((gm no (x*2^base)).map (· +hi))=some (x*2^base,[]))
theorem CO:(List.range 3).all (fun no=>(List.range 2).all fun h=>(List.range 34).all fun base=>(List.range 16).all (J5 no (128*h) base))=true:=by decide +kernel
theorem FU{no h:Nat}(hn:no<3)(hh:h<2)(hb:base<34)(hx:x<16):gX ((gm no (x*2^base)).map (· +128*h))=some (x*2^base,[]):=
 of_decide_eq_true (all_eq_true.mp (all_eq_true.mp (all_eq_true.mp (all_eq_true.mp CO no (mem_range.mpr hn)) h (mem_range.mpr hh)) base (mem_range.mpr hb)) x (mem_range.mpr hx))
noncomputable def Gm(f:List Bool→Bool)(t:List Bool)(gp:List Nat)(T:fF)(D:List (Nat×Int))(R:D8):Bool:=
 (decide (R.W.length<190)&&(R.W.all (fun w=>decide (w.length<200)&&(aK T w==some (f w)))&&(decide (0<R.hs.length)&&(decide (R.hs.length<20)&&(decide (R.es.length<5)&&(R.hs.all (fun h=>decide (h.length<90))&&(R.es.all (fun h=>decide (h.length<90))&&(decide (R.hs.length=t.length+if gp.getD 0 0=0 then 2 else 1)&&(decide (kF D=some (qH R.bk))&&(decide (kF (pJ (R.hs.length:Nat) D)=some (ky false (R.hs.length:Nat) D (ky true (-1) D (qH R.bk))))&&(decide (R.bk.length<20)&&(decide (R.mv.length<290)&&(R.mv.all (fun p=>decide (p.2.length<290))&&((qH R.bk).all (fun p=>decide (0≤p.2)&&(Jg D R.mv p).isSome)&&(decide (((qH R.bk).flatMap (xh D R.mv)).length<20)&&((qH R.bk).flatMap (xh D R.mv)).all (fun x=>decide (x<16)))))))))))))))))
noncomputable def gS(p:List Bool×List Nat):Bool:=CW (f8 p.1 p.2)&&(decide ((f8 p.1 p.2).length<290)&&((f8 p.1 p.2).all (fun q=>decide (q.2.length<290))&&match yG (fB p.1 p.2) (f8 p.1 p.2) 8 0 [[]] [[]] []with
 |none=>false
 |some R=>Gm (fB p.1 p.2) p.1 p.2 (f8 p.1 p.2) (ee (f8 p.1 p.2) R.hs R.es) R))
noncomputable def jb(n:Nat):List (List Bool×List Nat):=(y0 [false,true] n).flatMap fun t=>(y0 [0,1] (n+1)).map fun g=>(t,g)
theorem Ac(c:Nat):(qS c,uk (gz c))∈jb (c%4):=by
 have e:uk (gz c)=(List.range (c%4+1)).map fun p=>min (c/32/3^p%3) 1:=by rw[uk,gz,map_map];rfl
 refine mem_flatMap.mpr ⟨qS c,gn (fun p=>?_) _,mem_map.mpr ⟨uk (gz c),e▸gn (fun p=>?_) _,rfl⟩⟩
 ·cases decide (c/4/2^p%2=1)<;>decide
 ·cases c/32/3^p%3 with
  |zero=>decide
  |succ x=>rw[Nat.min_eq_right (succ_le_succ (zero_le x))];decide
theorem MC:(jb 0).all gS=true:=by decide +kernel
theorem MB:(jb 1).all gS=true:=by decide +kernel
theorem MA:(jb 2).all gS=true:=by decide +kernel
end
theorem KY:(((jb 3).drop 0).take 16).all gS=true:=by decide +kernel
theorem KX:(((jb 3).drop 16).take 16).all gS=true:=by decide +kernel
theorem KW:(((jb 3).drop 32).take 16).all gS=true:=by decide +kernel
theorem KV:(((jb 3).drop 48).take 16).all gS=true:=by decide +kernel
theorem KU:(((jb 3).drop 64).take 16).all gS=true:=by decide +kernel
theorem KT:(((jb 3).drop 80).take 16).all gS=true:=by decide +kernel
theorem KS:(((jb 3).drop 96).take 16).all gS=true:=by decide +kernel
theorem KR:(((jb 3).drop 112).take 16).all gS=true:=by decide +kernel
theorem DP{n:Nat}(hn:n<4){p:List Bool×List Nat}(hp:p∈jb n):gS p=true:=by
 match n,hn with
 |0,_=>exact all_eq_true.mp MC p hp
 |1,_=>exact all_eq_true.mp MB p hp
 |2,_=>exact all_eq_true.mp MA p hp
 |3,_=>
  have cut:∀(l:List (List Bool×List Nat)) (m:Nat),((l.drop m).take 16).all gS=true→(l.drop (m+16)).all gS=true→(l.drop m).all gS=true:=fun l m h1 h2=>by
   have e:l.drop m=(l.drop m).take 16++l.drop (m+16):=by rw[←drop_drop];exact(take_append_drop 16 _).symm
   rw[e,List.all_append,h1,h2];rfl
  have h:((jb 3).drop 0).all gS=true:=cut _ 0 KY (cut _ 16 KX (cut _ 32 KW (cut _ 48 KV (cut _ 64 KU (cut _ 80 KT (cut _ 96 KS (cut _ 112 KR (by decide +kernel))))))))
  exact all_eq_true.mp h p hp
section
variable {t gp:List Nat} {c:Nat}
theorem Gi:(List.range 3).all (fun k=>[false,true].all fun b=>decide (cH [au k 0,au k 1] [sg (au k 0) (au k 1) b] 0 2=(b1 b:Nat)))=true:=by decide +kernel
theorem wm(c:Nat):(dJ.getD (c/4%27) 0).toNat∈us:=by
 have h:c/4%27<dJ.length:=mod_lt _ (by decide)
 rw[getD_eq_getElem?_getD,getElem?_eq_getElem h]
 exact mem_map_of_mem (getElem_mem h)
theorem tV(c:Nat):119808+52*(gI.getD (c%10) 0).toNat∈lP:=by
 have h:c%10<gI.length:=mod_lt _ (by decide)
 rw[getD_eq_getElem?_getD,getElem?_eq_getElem h]
 exact mem_map.mpr ⟨_,getElem_mem h,rfl⟩
theorem C1(h:c∈pV t gp):c=46∨c∈t:=by
 rw[jK,rE]at h
 obtain⟨l,hl,hc⟩:=List.mem_flatten.mp h
 obtain⟨p,_,rfl⟩:=mem_map.mp hl
 rcases mem_append.mp hc with hc|hc
 ·obtain⟨d,hd,hc⟩:=List.mem_flatten.mp hc
  rw[(List.mem_replicate.mp hd).2]at hc
  exact .inl ((show ∀c∈[46,46,46],c=46 by decide) c hc)
 ·exact .inr (List.mem_of_mem_drop (List.mem_of_mem_take hc))
theorem C2(hg:∀g∈gp,g<3):(pV t gp).length≤(t.length+1)*7:=by
 rw[jK,rE,yA]
 have go:∀l:List Nat,((l.map fun p=>(replicate (gp.getD p 0) [46,46,46]).flatten++bM t p (p+1)).flatten).length≤l.length*7:=by
  intro l
  induction l with
  |nil=>exact zero_le _
  |cons p l ih=>
   rw[map_cons,flatten_cons,length_append,length_append,length_cons,succ_mul]
   have h1:(bM t p (p+1)).length≤1:=le_trans (List.length_take_le _ _) (le_of_eq (Nat.add_sub_cancel_left _ _))
   have h2:gp.getD p 0<3:=by
    rw[getD_eq_getElem?_getD]
    cases hq:gp[p]? with
    |none=>exact(by decide:0<3)
    |some g=>exact hg g (mem_of_getElem? hq)
   have h3:(replicate (gp.getD p 0) [46,46,46]).flatten.length≤6:=by
    rw[List.length_flatten,List.map_replicate,List.sum_replicate_nat]
    show _*3≤6
    exact Nat.mul_le_mul_right _ (le_of_lt_succ h2)
   exact le_trans (add_le_add (add_le_add h3 h1) ih) (le_of_eq (add_comm _ _))
 exact le_trans (go _) (by rw[length_range];exact le_refl _)
theorem Gq{c0 c1:Nat}{w:List Bool}(h:c∈cd c0 c1 w):c=c0∨c=c1:=by
 obtain⟨b,_,rfl⟩:=mem_map.mp h
 clear left h
 cases b
 ·exact .inl rfl
 ·exact .inr rfl
theorem Ak{p:List Bool×List Nat}(h:gS p=true):CW (f8 p.1 p.2)=true∧decide ((f8 p.1 p.2).length<290)=true∧(f8 p.1 p.2).all (fun q=>decide (q.2.length<290))=true∧∃R,yG (fB p.1 p.2) (f8 p.1 p.2) 8 0 [[]] [[]] []=some R∧Gm (fB p.1 p.2) p.1 p.2 (f8 p.1 p.2) (ee (f8 p.1 p.2) R.hs R.es) R=true:=by
 unfold gS at h
 obtain⟨q1,h⟩:=and_eq_true_iff.mp h
 obtain⟨q2,h⟩:=and_eq_true_iff.mp h
 obtain⟨q3,h⟩:=and_eq_true_iff.mp h
 cases hL:yG (fB p.1 p.2) (f8 p.1 p.2) 8 0 [[]] [[]] []with
 |none=>rw[hL]at h;exact nomatch h
 |some R=>rw[hL]at h;exact⟨q1,q2,q3,R,rfl,h⟩
theorem plain_all(C:List Nat)(h6:C.length=6):∃f R,HN C f R:=by
 have hk:C.getD 1 0%3<3:=mod_lt _ (by decide)
 have hn:C.getD 0 0%4<4:=mod_lt _ (by decide)
 have hp:=Ad (C.getD 0 0)
 have hq:=DP hn (Ac (C.getD 0 0))
 obtain⟨p0,p1,pne,_⟩:=zk _ hk
 have hbase:(aE C).base<34:=mod_lt _ (by decide)
 have hg3:=El (C.getD 0 0)
 have hlet:∀(w:List Bool) (c:Nat),c∈cd (aE C).c0 (aE C).c1 w→c∈bf:=fun w c h=>by
  rcases Gq h with rfl|rfl
  ·exact mem_cons_of_mem _ p0
  ·exact mem_cons_of_mem _ p1
 have hwl:(aE C).want.length<100:=by
  have:=C2 (t:=k6 C) hg3
  have ht:=lT C
  show(pV (k6 C) (gz (C.getD 0 0))).length<100
  exact lt_of_le_of_lt (le_trans this (Nat.mul_le_mul_right _ (succ_le_succ (le_of_lt ht)))) (by decide)
 have hwd:∀c∈(aE C).want,c∈bf:=fun c hc=>by
  rcases C1 hc with rfl|h
  ·exact mem_cons_self ..
  ·exact hlet _ c h
 have pw:=wC (st:=C.getD 1 0/3%4) hk (mod_lt _ (by decide)) hwd hwl (wm (C.getD 2 0)) (tV (C.getD 3 0))
 have eT:dR C=f8 (qS (C.getD 0 0)) (uk (gz (C.getD 0 0))):=(Fw pne _ _).trans (zo _ _)
 have ef:=Gj (qS (C.getD 0 0)) hg3
 have HA:eZ (aE C) (fB (qS (C.getD 0 0)) (gz (C.getD 0 0))):=by
  have hel:HM (aE C).want:=Io (p:=(qS (C.getD 0 0),gz (C.getD 0 0))) hk hn hp (show(aE C).want.length<1000 from lt_trans hwl (show 100<1000 by decide))
  have hell:∀w,jx (aE C).want (cd (aE C).c0 (aE C).c1 w)=fB (qS (C.getD 0 0)) (gz (C.getD 0 0)) w:=fun w=>Im (p:=(qS (C.getD 0 0),gz (C.getD 0 0))) hk hn hp w
  refine⟨pne,hel,fun w hw=>?_⟩
  have pp:=wC (st:=((aE C).st+(cd (aE C).c0 (aE C).c1 w).length)%4) hk (mod_lt _ (by decide)) (hlet w) (by rw[aS];exact hw) (wm (C.getD 2 0)) (tV (C.getD 3 0))
  have e:(aE C).pr (cd (aE C).c0 (aE C).c1 w)=cd (aE C).c0 (aE C).c1 w:=pp.2
  exact⟨pp.1,by rw[e,aS];exact lt_trans hw (by decide),by rw[e];exact hell w⟩
 obtain⟨q1,q2,q3,R,hL,hq⟩:=Ak hq
 dsimp only at q1 q2 q3 hL hq
 rw[←ef, ←eT]at hL hq
 rw[←eT]at q1 q2 q3
 ·skip
  obtain⟨A,hl,hA⟩:=DO 8 0 [[]] [[]] (A:=[]) (W:=[]) ⟨fun p hp=>(nomatch hp),le_refl _⟩ hL
  generalize fB (qS (C.getD 0 0)) (gz (C.getD 0 0))=f at HA hq hl hA
  refine⟨f,⟨R.hs,R.es,R.bk,R.mv,A⟩,?_⟩
  unfold Gm at hq
  refine hG fun _ kk=>?_
  obtain⟨c1,hq⟩:=and_eq_true_iff.mp hq
  obtain⟨c2,hq⟩:=and_eq_true_iff.mp hq
  obtain⟨c3,hq⟩:=and_eq_true_iff.mp hq
  obtain⟨c4,hq⟩:=and_eq_true_iff.mp hq
  obtain⟨c5,hq⟩:=and_eq_true_iff.mp hq
  obtain⟨c6,hq⟩:=and_eq_true_iff.mp hq
  obtain⟨c7,hq⟩:=and_eq_true_iff.mp hq
  obtain⟨c8,hq⟩:=and_eq_true_iff.mp hq
  obtain⟨c9,hq⟩:=and_eq_true_iff.mp hq
  obtain⟨c10,hq⟩:=and_eq_true_iff.mp hq
  obtain⟨c11,hq⟩:=and_eq_true_iff.mp hq
  obtain⟨c12,hq⟩:=and_eq_true_iff.mp hq
  obtain⟨c13,hq⟩:=and_eq_true_iff.mp hq
  obtain⟨c14,hq⟩:=and_eq_true_iff.mp hq
  obtain⟨c15,c16⟩:=and_eq_true_iff.mp hq
  refine kk ?_
  have c5:=of_decide_eq_true c5
  have inW:∀p∈A,p.1.length<200∧aK (dR C) p.1=some p.2:=fun p hp=>by
   obtain⟨z1,z2⟩:=hA.ok p hp
   obtain⟨y1,y2⟩:=and_eq_true_iff.mp (all_eq_true.mp c2 p.1 z2)
   exact⟨of_decide_eq_true y1,z1▸eq_of_beq y2⟩
  have all:∀{α:Type} {P:α→Prop} [DecidablePred P] {l:List α},l.all (fun x=>decide (P x))=true→∀x∈l,P x:=fun h x hx=>of_decide_eq_true (all_eq_true.mp h x hx)
  exact {
   prep:=pw.1
   same:=pw.2
   asks:=HA
   find:=fun b=>of_decide_eq_true (all_eq_true.mp (all_eq_true.mp Gi _ (mem_range.mpr hk)) b (by cases b<;>decide))
   owl:=of_decide_eq_true q2
   owr:=all q3
   lrn:=hl
   al:=lt_of_le_of_lt hA.len (lt_trans (of_decide_eq_true c1) (by decide))
   aw:=fun p hp=>(inW p hp).1
   aa:=fun p hp=>(inW p hp).2
   tot:=fun w _=>D6 q1 w
   hl0:=of_decide_eq_true c3
   hl:=of_decide_eq_true c4
   el:=lt_trans c5 (by decide)
   hw:=all c6
   ew:=all c7
   len:=by
    have e:=AW (gz (C.getD 0 0)) 0
    have e:=decide_eq_decide.mp e
    have c8:=of_decide_eq_true c8
    rw[k6,aS]
    show R.hs.length=_
    rw[c8]
    congr 1
    by_cases z:(gz (C.getD 0 0)).getD 0 0=0
    ·rw[if_pos z,if_pos (Decidable.of_not_not fun y=>e.mpr y z)]
    ·rw[if_neg z,if_neg (e.mp z)]
   sort:=of_decide_eq_true c9
   flag:=fun p hp=>by
    obtain⟨i,_,rfl⟩:=mem_map.mp hp
    exact Dk hbase c5 (iu _ _)
   sort2:=of_decide_eq_true c10
   bl:=of_decide_eq_true c11
   ml:=of_decide_eq_true c12
   mr:=all c13
   tape:=fun p hp=>(and_eq_true_iff.mp (all_eq_true.mp c14 p hp)).imp of_decide_eq_true id
   tl:=of_decide_eq_true c15
   var:=fun x hx=>by
    obtain⟨y,hy,rfl⟩:=mem_map.mp hx
    have hy:=all c16 y hy
    exact⟨lt_trans (rC hy hbase) (by decide),FU (mod_lt _ (by decide)) (mod_lt _ (by decide)) hbase hy⟩ }
end
section
variable (P:Params)
theorem kZ(w:World):HW w=H0 w.params:=by unfold HW;rfl
theorem t6:GG=G3:=by unfold GG;rfl
theorem JX:PG=PySem.Challenge.rw_ta0099_01.row.prog:=by unfold PG;rfl
theorem aP{P:Params}{a:Addr}{o:Obj}(e:(HE P).get? a=some o)(h:dT.contains a=false):(H0 P).get? a=some o:=hideAll_get _ e (by
 intro hm
 have:=contains_iff_mem.mpr hm
 rw[h]at this;exact aj this)
theorem bE{P:Params}{a:Addr}(h:a∈dT):(H0 P).get? a=none:=hideAll_none _ h
theorem FL{P:Params}{a:Addr}{o:Obj}(e:(H0 P).get? a=some o):(HE P).get? a=some o:=of_hideAll _ e
theorem bD:(H0 P).objs.size=183:=(hideAll_size _ _).trans (absHeap_size _ _ _)
theorem HH:(List.range 183).all (fun a=>((HE P).get? a).isSome)=true:=by kernel_rfl!
theorem HI{P:Params}{p:Addr}(hp:p<(H0 P).objs.size)(hn:(H0 P).get? p=none):p∈dT:=by
 rw[bD]at hp
 have h1:=all_eq_true.mp (HH P) p (mem_range.mpr hp)
 cases hc:dT.contains p with
 |true=>exact contains_iff_mem.mp hc
 |false=>
  cases ho:(HE P).get? p with
  |none=>rw[ho]at h1;exact aj h1
  |some o=>rw[aP ho hc]at hn;exact nN hn.symm
theorem kL{P:Params}{a:Addr}(x:(HE P).isNs a=true)(h:dT.contains a=false):(H0 P).Ns a ((HE P).nsMap a):=by
 obtain⟨o,es,ep,ho,r⟩:=Ns.of_isNs x
 exact⟨o,es,ep,aP ho h,r⟩
theorem e8{α β:Type}[BEq α][LawfulBEq α]{l:List (α×β)}{a:α}{b:β}(h:l.lookup a=some b):(a,b)∈l:=by
 induction l with
 |nil=>exact nN h
 |cons p l ih=>
  obtain⟨x,y⟩:=p
  rw[lookup_cons]at h
  cases hx:a==x with
  |true=>
   rw[hx]at h
   clear ih
   obtain rfl:=sI h
   rw[eq_of_beq hx]
   exact mem_cons_self ..
  |false=>
   rw[hx]at h
   exact mem_cons_of_mem _ (ih h)
noncomputable def La(P:Params):=(HE P).nsMap mainGlobals
noncomputable def MG(P:Params):=(HE P).nsMap builtinsNs
noncomputable def Ll(P:Params)(x:Str)(v:V):Prop:=∃cv,v=lU cv∧(La P x=some cv∨(La P x=none∧MG P x=some cv))
noncomputable def uA{α:Type}(R:α→Prop):List α→Prop
 |[]=>True
 |x::l=>R x∧uA R l
theorem uA.mem{α:Type}{R:α→Prop}{x:α}:∀{l:List α},uA R l→x∈l→R x
 |y::l,⟨h,t⟩,hm=>(mem_cons.mp hm).elim (fun e=>e▸h) fun hm=>uA.mem t hm
theorem IS:uA (fun p:Str×V=>Ll P p.1 p.2) G3.names:=
 ⟨⟨.ref 21,rfl,.inl (by kernel_rfl!)⟩,⟨.ref 30,rfl,.inl (by kernel_rfl!)⟩,⟨.ref 39,rfl,.inl (by kernel_rfl!)⟩,⟨.ref 48,rfl,.inl (by kernel_rfl!)⟩,⟨.ref 57,rfl,.inl (by kernel_rfl!)⟩,⟨.ref 65,rfl,.inl (by kernel_rfl!)⟩,⟨.ref 72,rfl,.inl (by kernel_rfl!)⟩,⟨.ref 90,rfl,.inl (by kernel_rfl!)⟩,⟨.ref 136,rfl,.inl (by kernel_rfl!)⟩,⟨.ref 141,rfl,.inl (by kernel_rfl!)⟩,⟨.ref 148,rfl,.inl (by kernel_rfl!)⟩,⟨.ref 153,rfl,.inl (by kernel_rfl!)⟩,⟨.ref 158,rfl,.inl (by kernel_rfl!)⟩,⟨.ref 165,rfl,.inl (by kernel_rfl!)⟩,⟨.ref 170,rfl,.inl (by kernel_rfl!)⟩,⟨.ref 177,rfl,.inl (by kernel_rfl!)⟩,⟨.ref 182,rfl,.inl (by kernel_rfl!)⟩,⟨.ref 58,rfl,.inl (by kernel_rfl!)⟩,⟨.ref 80,rfl,.inl (by kernel_rfl!)⟩,⟨.ref 91,rfl,.inl (by kernel_rfl!)⟩,⟨.str (ofString "...") 189,by kernel_rfl!,.inl (by kernel_rfl!)⟩,⟨.builtin "len",rfl,.inr ⟨by kernel_rfl!,by kernel_rfl!⟩⟩,⟨.builtin "hex",rfl,.inr ⟨by kernel_rfl!,by kernel_rfl!⟩⟩,⟨.builtin "next",rfl,.inr ⟨by kernel_rfl!,by kernel_rfl!⟩⟩,⟨.builtin "ord",rfl,.inr ⟨by kernel_rfl!,by kernel_rfl!⟩⟩,⟨.builtin "chr",rfl,.inr ⟨by kernel_rfl!,by kernel_rfl!⟩⟩,⟨.builtin "sum",rfl,.inr ⟨by kernel_rfl!,by kernel_rfl!⟩⟩,⟨.builtin "sorted",rfl,.inr ⟨by kernel_rfl!,by kernel_rfl!⟩⟩,⟨.builtin "iter",rfl,.inr ⟨by kernel_rfl!,by kernel_rfl!⟩⟩,⟨.builtin "min",rfl,.inr ⟨by kernel_rfl!,by kernel_rfl!⟩⟩,⟨.type "range",rfl,.inr ⟨by kernel_rfl!,by kernel_rfl!⟩⟩,⟨.type "list",rfl,.inr ⟨by kernel_rfl!,by kernel_rfl!⟩⟩,⟨.type "enumerate",rfl,.inr ⟨by kernel_rfl!,by kernel_rfl!⟩⟩,⟨.type "str",rfl,.inr ⟨by kernel_rfl!,by kernel_rfl!⟩⟩,⟨.type "ValueError",rfl,.inr ⟨by kernel_rfl!,by kernel_rfl!⟩⟩,trivial⟩
theorem Dj(x:Str)(v:V)(h:G3.names.lookup x=some v):Ll P x v:=(IS P).mem (e8 h)
noncomputable def fK(P:Params)(a:Addr)(fi:CH):Prop:=∃o fd,FM (H0 P) a fi o fd
theorem jQ{x:Str}{h:Int}{t:Tok}{o:Option Value}(e:o=nsFind #[⟨h,.str (ofString "key") t,.none⟩] x):o.map lU=List.lookup x [(u "key",V.none)]:=by
 rw[e,lookup_cons]
 clear e
 cases hx:x==u "key" with
 |true=>
  have hx:=eq_of_beq hx
  subst hx
  kernel_rfl!
 |false=>
  have hn:¬(x=ofString "key"):=by simpa using hx
  have hn2:¬(ofString "key"=x):=fun h=>hn h.symm
  have hb:(ofString "key"==x)=false:=by rw[beq_eq_false_iff_ne];exact hn2
  unfold nsFind findBy
  simp[Value.isStr,hb]
theorem JR:(H0 P).get? 21=some (rX P):=aP (by kernel_rfl!) (by decide)
theorem FH:(H0 P).get? 20=some (rY P):=aP (by kernel_rfl!) (by decide)
theorem E5:CodeHd (H0 P) 20 16:=⟨_,_,ofString "/claim/cut.py",201,3,0,true,181,0,FH P,rfl,rfl,rfl,rfl,rfl,rfl,rfl,rfl,by decide⟩
theorem Ii:fK P 21 (iK 2 [] []):=⟨_,_,⟨JR P,rfl,rfl,rfl,rfl,rfl,rfl,rfl,⟨20,_,_,192,rfl,FH P,rfl,rfl⟩,rfl,by kernel_rfl!,by kernel_rfl!,by kernel_rfl!,⟨20,16,rfl,E5 P,by rw[bD];decide,bE (by decide)⟩,.inl ⟨rfl,rfl⟩,.inl ⟨rfl,rfl⟩⟩⟩
theorem JP:(H0 P).get? 30=some (rU P):=aP (by kernel_rfl!) (by decide)
theorem FG:(H0 P).get? 29=some (rV P):=aP (by kernel_rfl!) (by decide)
theorem E4:CodeHd (H0 P) 29 25:=⟨_,_,ofString "/claim/cut.py",216,3,0,true,181,0,FG P,rfl,rfl,rfl,rfl,rfl,rfl,rfl,rfl,by decide⟩
theorem JQ:(H0 P).get? 22=some (rW P):=aP (by kernel_rfl!) (by decide)
theorem IK:∀x,((HE P).nsMap 23 x).map lU=List.lookup x [(u "key",V.none)]:=fun x=>jQ (show(HE P).nsMap 23 x=nsFind #[⟨PyData.keyHash P (ofString "key"),(.str (ofString "key") 206),.none⟩] x by kernel_rfl!)
theorem Ih:fK P 30 (iK 4 [.int 0,.none] [(u "key",.none)]):=⟨_,_,⟨JP P,rfl,rfl,rfl,rfl,rfl,rfl,rfl,⟨29,_,_,208,rfl,FG P,rfl,rfl⟩,rfl,by kernel_rfl!,by kernel_rfl!,by kernel_rfl!,⟨29,25,rfl,E4 P,by rw[bD];decide,bE (by decide)⟩,.inr ⟨22,_,rfl,⟨_,JQ P,rfl,_,rfl⟩,by kernel_rfl!⟩,.inr ⟨23,_,rfl,kL (by kernel_rfl!) (by decide),IK P⟩⟩⟩
theorem JN:(H0 P).get? 39=some (rR P):=aP (by kernel_rfl!) (by decide)
theorem FF:(H0 P).get? 38=some (rS P):=aP (by kernel_rfl!) (by decide)
theorem E3:CodeHd (H0 P) 38 34:=⟨_,_,ofString "/claim/cut.py",230,3,0,true,181,0,FF P,rfl,rfl,rfl,rfl,rfl,rfl,rfl,rfl,by decide⟩
theorem JO:(H0 P).get? 31=some (rT P):=aP (by kernel_rfl!) (by decide)
theorem IJ:∀x,((HE P).nsMap 32 x).map lU=List.lookup x [(u "key",V.none)]:=fun x=>jQ (show(HE P).nsMap 32 x=nsFind #[⟨PyData.keyHash P (ofString "key"),(.str (ofString "key") 219),.none⟩] x by kernel_rfl!)
theorem Ig:fK P 39 (iK 5 [.int 0,.none] [(u "key",.none)]):=⟨_,_,⟨JN P,rfl,rfl,rfl,rfl,rfl,rfl,rfl,⟨38,_,_,221,rfl,FF P,rfl,rfl⟩,rfl,by kernel_rfl!,by kernel_rfl!,by kernel_rfl!,⟨38,34,rfl,E3 P,by rw[bD];decide,bE (by decide)⟩,.inr ⟨31,_,rfl,⟨_,JO P,rfl,_,rfl⟩,by kernel_rfl!⟩,.inr ⟨32,_,rfl,kL (by kernel_rfl!) (by decide),IJ P⟩⟩⟩
theorem JL:(H0 P).get? 48=some (rO P):=aP (by kernel_rfl!) (by decide)
theorem FE:(H0 P).get? 47=some (rP P):=aP (by kernel_rfl!) (by decide)
theorem E2:CodeHd (H0 P) 47 43:=⟨_,_,ofString "/claim/cut.py",243,3,0,true,181,0,FE P,rfl,rfl,rfl,rfl,rfl,rfl,rfl,rfl,by decide⟩
theorem JM:(H0 P).get? 40=some (rQ P):=aP (by kernel_rfl!) (by decide)
theorem II:∀x,((HE P).nsMap 41 x).map lU=List.lookup x [(u "key",V.none)]:=fun x=>jQ (show(HE P).nsMap 41 x=nsFind #[⟨PyData.keyHash P (ofString "key"),(.str (ofString "key") 233),.none⟩] x by kernel_rfl!)
theorem Ie:fK P 48 (iK 6 [.int 0,.none] [(u "key",.none)]):=⟨_,_,⟨JL P,rfl,rfl,rfl,rfl,rfl,rfl,rfl,⟨47,_,_,235,rfl,FE P,rfl,rfl⟩,rfl,by kernel_rfl!,by kernel_rfl!,by kernel_rfl!,⟨47,43,rfl,E2 P,by rw[bD];decide,bE (by decide)⟩,.inr ⟨40,_,rfl,⟨_,JM P,rfl,_,rfl⟩,by kernel_rfl!⟩,.inr ⟨41,_,rfl,kL (by kernel_rfl!) (by decide),II P⟩⟩⟩
theorem JJ:(H0 P).get? 57=some (rK P):=aP (by kernel_rfl!) (by decide)
theorem FD:(H0 P).get? 56=some (rL P):=aP (by kernel_rfl!) (by decide)
theorem E1:CodeHd (H0 P) 56 52:=⟨_,_,ofString "/claim/cut.py",257,3,0,true,181,0,FD P,rfl,rfl,rfl,rfl,rfl,rfl,rfl,rfl,by decide⟩
theorem JK:(H0 P).get? 49=some (rN P):=aP (by kernel_rfl!) (by decide)
theorem IH:∀x,((HE P).nsMap 50 x).map lU=List.lookup x [(u "key",V.none)]:=fun x=>jQ (show(HE P).nsMap 50 x=nsFind #[⟨PyData.keyHash P (ofString "key"),(.str (ofString "key") 246),.none⟩] x by kernel_rfl!)
theorem Id:fK P 57 (iK 7 [.int 0,.none] [(u "key",.none)]):=⟨_,_,⟨JJ P,rfl,rfl,rfl,rfl,rfl,rfl,rfl,⟨56,_,_,248,rfl,FD P,rfl,rfl⟩,rfl,by kernel_rfl!,by kernel_rfl!,by kernel_rfl!,⟨56,52,rfl,E1 P,by rw[bD];decide,bE (by decide)⟩,.inr ⟨49,_,rfl,⟨_,JK P,rfl,_,rfl⟩,by kernel_rfl!⟩,.inr ⟨50,_,rfl,kL (by kernel_rfl!) (by decide),IH P⟩⟩⟩
theorem JH:(H0 P).get? 65=some (wO P):=aP (by kernel_rfl!) (by decide)
theorem FC:(H0 P).get? 64=some (wP P):=aP (by kernel_rfl!) (by decide)
theorem E0:CodeHd (H0 P) 64 60:=⟨_,_,ofString "/claim/cut.py",300,3,0,true,181,0,FC P,rfl,rfl,rfl,rfl,rfl,rfl,rfl,rfl,by decide⟩
theorem Ic:fK P 65 (iK 10 [] []):=⟨_,_,⟨JH P,rfl,rfl,rfl,rfl,rfl,rfl,rfl,⟨64,_,_,293,rfl,FC P,rfl,rfl⟩,rfl,by kernel_rfl!,by kernel_rfl!,by kernel_rfl!,⟨64,60,rfl,E0 P,by rw[bD];decide,bE (by decide)⟩,.inl ⟨rfl,rfl⟩,.inl ⟨rfl,rfl⟩⟩⟩
theorem JG:(H0 P).get? 72=some (wM P):=aP (by kernel_rfl!) (by decide)
theorem FB:(H0 P).get? 71=some (wN P):=aP (by kernel_rfl!) (by decide)
theorem Ez:CodeHd (H0 P) 71 67:=⟨_,_,ofString "/claim/cut.py",309,3,0,true,181,0,FB P,rfl,rfl,rfl,rfl,rfl,rfl,rfl,rfl,by decide⟩
theorem Ib:fK P 72 (iK 11 [] []):=⟨_,_,⟨JG P,rfl,rfl,rfl,rfl,rfl,rfl,rfl,⟨71,_,_,303,rfl,FB P,rfl,rfl⟩,rfl,by kernel_rfl!,by kernel_rfl!,by kernel_rfl!,⟨71,67,rfl,Ez P,by rw[bD];decide,bE (by decide)⟩,.inl ⟨rfl,rfl⟩,.inl ⟨rfl,rfl⟩⟩⟩
theorem JE:(H0 P).get? 90=some (wJ P):=aP (by kernel_rfl!) (by decide)
theorem FA:(H0 P).get? 89=some (wK P):=aP (by kernel_rfl!) (by decide)
theorem Ey:CodeHd (H0 P) 89 85:=⟨_,_,ofString "/claim/cut.py",378,3,0,true,181,0,FA P,rfl,rfl,rfl,rfl,rfl,rfl,rfl,rfl,by decide⟩
theorem Ia:fK P 90 (iK 14 [] []):=⟨_,_,⟨JE P,rfl,rfl,rfl,rfl,rfl,rfl,rfl,⟨89,_,_,374,rfl,FA P,rfl,rfl⟩,rfl,by kernel_rfl!,by kernel_rfl!,by kernel_rfl!,⟨89,85,rfl,Ey P,by rw[bD];decide,bE (by decide)⟩,.inl ⟨rfl,rfl⟩,.inl ⟨rfl,rfl⟩⟩⟩
theorem G9:(H0 P).get? 136=some (AE P):=aP (by kernel_rfl!) (by decide)
theorem B1:(H0 P).get? 135=some (AF P):=aP (by kernel_rfl!) (by decide)
theorem Bh:CodeHd (H0 P) 135 131:=⟨_,_,ofString "/claim/cut.py",2337,3,0,true,181,0,B1 P,rfl,rfl,rfl,rfl,rfl,rfl,rfl,rfl,by decide⟩
theorem Gh:fK P 136 (iK 16 [] []):=⟨_,_,⟨G9 P,rfl,rfl,rfl,rfl,rfl,rfl,rfl,⟨135,_,_,2332,rfl,B1 P,rfl,rfl⟩,rfl,by kernel_rfl!,by kernel_rfl!,by kernel_rfl!,⟨135,131,rfl,Bh P,by rw[bD];decide,bE (by decide)⟩,.inl ⟨rfl,rfl⟩,.inl ⟨rfl,rfl⟩⟩⟩
theorem G8:(H0 P).get? 141=some (AC P):=aP (by kernel_rfl!) (by decide)
theorem B0:(H0 P).get? 140=some (AD P):=aP (by kernel_rfl!) (by decide)
theorem Bg:CodeHd (H0 P) 140 138:=⟨_,_,ofString "/claim/cut.py",2345,3,0,true,181,0,B0 P,rfl,rfl,rfl,rfl,rfl,rfl,rfl,rfl,by decide⟩
theorem Gg:fK P 141 (iK 18 [] []):=⟨_,_,⟨G8 P,rfl,rfl,rfl,rfl,rfl,rfl,rfl,⟨140,_,_,2342,rfl,B0 P,rfl,rfl⟩,rfl,by kernel_rfl!,by kernel_rfl!,by kernel_rfl!,⟨140,138,rfl,Bg P,by rw[bD];decide,bE (by decide)⟩,.inl ⟨rfl,rfl⟩,.inl ⟨rfl,rfl⟩⟩⟩
theorem G7:(H0 P).get? 148=some (AA P):=aP (by kernel_rfl!) (by decide)
theorem Bz:(H0 P).get? 147=some (AB P):=aP (by kernel_rfl!) (by decide)
theorem Bf:CodeHd (H0 P) 147 143:=⟨_,_,ofString "/claim/cut.py",2354,3,0,true,181,0,Bz P,rfl,rfl,rfl,rfl,rfl,rfl,rfl,rfl,by decide⟩
theorem Gf:fK P 148 (iK 19 [] []):=⟨_,_,⟨G7 P,rfl,rfl,rfl,rfl,rfl,rfl,rfl,⟨147,_,_,2348,rfl,Bz P,rfl,rfl⟩,rfl,by kernel_rfl!,by kernel_rfl!,by kernel_rfl!,⟨147,143,rfl,Bf P,by rw[bD];decide,bE (by decide)⟩,.inl ⟨rfl,rfl⟩,.inl ⟨rfl,rfl⟩⟩⟩
theorem G6:(H0 P).get? 153=some (z8 P):=aP (by kernel_rfl!) (by decide)
theorem By:(H0 P).get? 152=some (z9 P):=aP (by kernel_rfl!) (by decide)
theorem Be:CodeHd (H0 P) 152 150:=⟨_,_,ofString "/claim/cut.py",2360,3,0,true,181,0,By P,rfl,rfl,rfl,rfl,rfl,rfl,rfl,rfl,by decide⟩
theorem Ge:fK P 153 (iK 20 [] []):=⟨_,_,⟨G6 P,rfl,rfl,rfl,rfl,rfl,rfl,rfl,⟨152,_,_,2357,rfl,By P,rfl,rfl⟩,rfl,by kernel_rfl!,by kernel_rfl!,by kernel_rfl!,⟨152,150,rfl,Be P,by rw[bD];decide,bE (by decide)⟩,.inl ⟨rfl,rfl⟩,.inl ⟨rfl,rfl⟩⟩⟩
theorem G5:(H0 P).get? 158=some (z6 P):=aP (by kernel_rfl!) (by decide)
theorem Bx:(H0 P).get? 157=some (z7 P):=aP (by kernel_rfl!) (by decide)
theorem Bc:CodeHd (H0 P) 157 155:=⟨_,_,ofString "/claim/cut.py",2366,3,0,true,181,0,Bx P,rfl,rfl,rfl,rfl,rfl,rfl,rfl,rfl,by decide⟩
theorem Gc:fK P 158 (iK 21 [] []):=⟨_,_,⟨G5 P,rfl,rfl,rfl,rfl,rfl,rfl,rfl,⟨157,_,_,2363,rfl,Bx P,rfl,rfl⟩,rfl,by kernel_rfl!,by kernel_rfl!,by kernel_rfl!,⟨157,155,rfl,Bc P,by rw[bD];decide,bE (by decide)⟩,.inl ⟨rfl,rfl⟩,.inl ⟨rfl,rfl⟩⟩⟩
theorem G4:(H0 P).get? 165=some (z0 P):=aP (by kernel_rfl!) (by decide)
theorem Bw:(H0 P).get? 164=some (z5 P):=aP (by kernel_rfl!) (by decide)
theorem Bb:CodeHd (H0 P) 164 160:=⟨_,_,ofString "/claim/cut.py",2377,3,0,true,181,0,Bw P,rfl,rfl,rfl,rfl,rfl,rfl,rfl,rfl,by decide⟩
theorem Gb:fK P 165 (iK 22 [] []):=⟨_,_,⟨G4 P,rfl,rfl,rfl,rfl,rfl,rfl,rfl,⟨164,_,_,2369,rfl,Bw P,rfl,rfl⟩,rfl,by kernel_rfl!,by kernel_rfl!,by kernel_rfl!,⟨164,160,rfl,Bb P,by rw[bD];decide,bE (by decide)⟩,.inl ⟨rfl,rfl⟩,.inl ⟨rfl,rfl⟩⟩⟩
theorem G2:(H0 P).get? 170=some (zy P):=aP (by kernel_rfl!) (by decide)
theorem Bv:(H0 P).get? 169=some (zz P):=aP (by kernel_rfl!) (by decide)
theorem Ba:CodeHd (H0 P) 169 167:=⟨_,_,ofString "/claim/cut.py",2383,3,0,true,181,0,Bv P,rfl,rfl,rfl,rfl,rfl,rfl,rfl,rfl,by decide⟩
theorem Ga:fK P 170 (iK 23 [] []):=⟨_,_,⟨G2 P,rfl,rfl,rfl,rfl,rfl,rfl,rfl,⟨169,_,_,2380,rfl,Bv P,rfl,rfl⟩,rfl,by kernel_rfl!,by kernel_rfl!,by kernel_rfl!,⟨169,167,rfl,Ba P,by rw[bD];decide,bE (by decide)⟩,.inl ⟨rfl,rfl⟩,.inl ⟨rfl,rfl⟩⟩⟩
theorem G1:(H0 P).get? 177=some (zw P):=aP (by kernel_rfl!) (by decide)
theorem Bu:(H0 P).get? 176=some (zx P):=aP (by kernel_rfl!) (by decide)
theorem BZ:CodeHd (H0 P) 176 172:=⟨_,_,ofString "/claim/cut.py",2410,3,0,true,181,0,Bu P,rfl,rfl,rfl,rfl,rfl,rfl,rfl,rfl,by decide⟩
theorem GZ:fK P 177 (iK 24 [] []):=⟨_,_,⟨G1 P,rfl,rfl,rfl,rfl,rfl,rfl,rfl,⟨176,_,_,2386,rfl,Bu P,rfl,rfl⟩,rfl,by kernel_rfl!,by kernel_rfl!,by kernel_rfl!,⟨176,172,rfl,BZ P,by rw[bD];decide,bE (by decide)⟩,.inl ⟨rfl,rfl⟩,.inl ⟨rfl,rfl⟩⟩⟩
theorem G0:(H0 P).get? 182=some (zu P):=aP (by kernel_rfl!) (by decide)
theorem Bt:(H0 P).get? 181=some (zv P):=aP (by kernel_rfl!) (by decide)
theorem BY:CodeHd (H0 P) 181 179:=⟨_,_,ofString "/claim/cut.py",2416,3,0,true,181,0,Bt P,rfl,rfl,rfl,rfl,rfl,rfl,rfl,rfl,by decide⟩
theorem GY:fK P 182 (iK 25 [] []):=⟨_,_,⟨G0 P,rfl,rfl,rfl,rfl,rfl,rfl,rfl,⟨181,_,_,2413,rfl,Bt P,rfl,rfl⟩,rfl,by kernel_rfl!,by kernel_rfl!,by kernel_rfl!,⟨181,179,rfl,BY P,by rw[bD];decide,bE (by decide)⟩,.inl ⟨rfl,rfl⟩,.inl ⟨rfl,rfl⟩⟩⟩
theorem Ij:uA (fun p:Addr×CH=>fK P p.1 p.2) G3.fns:=⟨Ii P,Ih P,Ig P,Ie P,Id P,Ic P,Ib P,Ia P,Gh P,Gg P,Gf P,Ge P,Gc P,Gb P,Ga P,GZ P,GY P,trivial⟩
theorem IR(a:Addr)(fi:CH)(h:G3.fns.lookup a=some fi):fK P a fi:=uA.mem (R:=fun p:Addr×CH=>fK P p.1 p.2) (x:=(a,fi)) (Ij P) (e8 h)
theorem Mb{w:World}{a:Addr}{fi:CH}(h:fK w.params a fi):∃o fd,HJ w a fi o fd:=by
 unfold HJ
 rw[kZ w];exact h
theorem Gn(p:Addr)(hp:p∈dT):∃c,CodeHd (H0 P) c p:=uA.mem (R:=fun p=>∃c,CodeHd (H0 P) c p) (l:=dT) ⟨⟨_,E5 P⟩,⟨_,E4 P⟩,⟨_,E3 P⟩,⟨_,E2 P⟩,⟨_,E1 P⟩,⟨_,E0 P⟩,⟨_,Ez P⟩,⟨_,Ey P⟩,⟨_,Bh P⟩,⟨_,Bg P⟩,⟨_,Bf P⟩,⟨_,Be P⟩,⟨_,Bc P⟩,⟨_,Bb P⟩,⟨_,Ba P⟩,⟨_,BZ P⟩,⟨_,BY P⟩,trivial⟩ hp
theorem k7(p:Addr)(hp:p∈dT):(HE P).get? p=some (tabObj #[]):=List.map_inj_left.mp (show dT.map (fun p=>(HE P).get? p)=dT.map fun _=>some (tabObj #[])by kernel_rfl!) p hp
theorem LH:∃o,(H0 P).get? 4=some o∧o.cls=.type "module"∧o.dict=some builtinsNs∧o.data=.plain:=⟨_,aP (a:=4) (o:=boot_o_4 P) (by kernel_rfl!) (by decide),rfl,rfl,rfl⟩
theorem E7(w:World):bI w where
 nolimit:=by rw[kZ];exact⟨_,kL (a:=cStatics) (by kernel_rfl!) (by decide),by kernel_rfl!⟩
 bmain:=by
  rw[kZ]
  exact⟨_,kL (a:=mainGlobals) (by kernel_rfl!) (by decide),fun p hp=>by
   obtain⟨o,h1,h2,h3,h4⟩:=LH w.params
   exact⟨4,o,by kernel_rfl!,by decide,by decide,(by rintro rfl;rw[h1]at hp;exact nN hp.symm),h1,h2,h3,h4⟩⟩
 sysm:=by rw[kZ];exact⟨_,aP (a:=sysModules) (o:=boot_o_1 w.params) (by kernel_rfl!) (by decide)⟩
 globals:=by
  rw[kZ,t6]
  exact⟨_,_,kL (a:=mainGlobals) (by kernel_rfl!) (by decide),kL (a:=builtinsNs) (by kernel_rfl!) (by decide),Dj w.params⟩
 fns:=by
  refine Eq.symm (t6)▸?_
  exact fun a fi h=>Mb (IR w.params a fi h)
end
section
variable {prog:Program} {w:World}
theorem lq(i:Int)(t:Tok):(intKind prog w).is i (.int i t)=true:=decide_eq_true rfl
noncomputable def ll:List (Int×Nat):=[(65024,329),(65025,330),(65026,331),(65027,332),(65028,333),(65029,334),(6150,315),(65030,335),(65031,336),(65032,337),(65033,338),(6155,316),(6156,317),(6157,318),(8203,319),(8204,320),(8205,321),(65034,339),(65035,340),(65036,341),(65037,342),(65038,343),(65039,344),(173,313),(847,314),(8288,322),(65279,323)]
noncomputable def qt:List Int:=[173,847,6150,6155,6156,6157,8203,8204,8205,8288,65279]++(List.range 16).map fun(k:Nat)=>(65024:Int)+k
theorem JF(P:Params):∃o n t,(H0 P).get? 80=some o∧o.ExactSet∧o.data=.set (ll.map fun p=>(p.1,Value.int p.1 p.2)).toArray n t∧t.fits 27=true:=⟨_,_,_,aP (a:=80) (o:=wL P) (by kernel_rfl!) (by decide),⟨rfl,rfl,rfl⟩,rfl,rfl⟩
theorem Hk(w:World):j9 w:=by
 unfold j9
 rw[kZ,t6]
 intro a l h
 ·have hm:=e8 h
  have e:G3.sets=[(80,qt)]:=rfl
  rw[e]at hm
  simp only[mem_singleton,Prod.mk.injEq]at hm
  clear h
  obtain⟨rfl,rfl⟩:=hm
  obtain⟨o,n,t,h1,h2,h3,h4⟩:=JF w.params
  refine⟨27,o,_,n,t,h1,h2,h3,fun e he=>?_,fun k=>?_,by decide,by simpa[ll]using h4,rfl⟩
  ·simp only[mem_map]at he
   obtain⟨p,hp,rfl⟩:=he
   refine⟨⟨p.1,?_,?_⟩,rfl⟩
   ·exact lq p.1 _
   ·have:ll.all (fun p=>p.1==hashInt p.1)=true:=by decide +kernel
    exact eq_of_beq (all_eq_true.mp this p hp)
  ·have e1:∀x,x∈qt→x∈ll.map (·.1):=fun x hx=>by
    have:qt.all (fun x=>(ll.map (·.1)).contains x)=true:=by decide +kernel
    exact contains_iff_mem.mp (all_eq_true.mp this x hx)
   have e2:∀x,x∈ll.map (·.1)→x∈qt:=fun x hx=>by
    have:(ll.map (·.1)).all (fun x=>qt.contains x)=true:=by decide +kernel
    exact contains_iff_mem.mp (all_eq_true.mp this x hx)
   constructor
   ·intro hk
    obtain⟨p,hp,hq⟩:=mem_map.mp (e1 k (contains_iff_mem.mp hk))
    exact⟨(p.1,.int p.1 p.2),by simp only[mem_map];exact⟨p,hp,rfl⟩,by subst hq;exact lq p.1 _⟩
   ·rintro⟨e,he,hk⟩
    simp only[mem_map]at he
    obtain⟨p,hp,rfl⟩:=he
    have hk':p.1=k:=by
     have:decide (p.1=k)=true:=hk
     simpa using this
    clear hk
    subst hk'
    exact contains_iff_mem.mpr (e2 _ (mem_map_of_mem hp))
noncomputable def oy(es:List DictEntry)(i:Int):Option Value:=(es.find? fun e=>Value.isInt i e.key).map (·.val)
noncomputable def vh(es:List DictEntry)(l:List (Int×List Nat)):Prop:=∀i,y8 (l.lookup i) (oy es i)
theorem vh.app{e1 e2:List DictEntry}{l1 l2:List (Int×List Nat)}(h1:vh e1 l1)(h2:vh e2 l2):vh (e1++e2) (l1++l2):=fun i=>by
 have a:=h1 i
 have c:=h2 i
 unfold oy at *
 rw[List.find?_append,List.lookup_append]
 cases hl:l1.lookup i with
 |none=>
  rw[hl]at a
  cases hf:e1.find? fun e=>Value.isInt i e.key with
  |none=>exact c
  |some e=>rw[hf]at a;cases a
 |some x=>
  rw[hl]at a
  cases hf:e1.find? fun e=>Value.isInt i e.key with
  |none=>rw[hf]at a;cases a
  |some e=>rw[hf]at a;exact a
theorem iB(k:Nat):∀(l:List (Int×Str)) (tk:Nat),vh (bH k l tk) (l.map fun p=>(p.1,p.2.cps.toList))
 |[],_,i=>trivial
 |(j,x)::r,tk,i=>by
  have ih:=iB k r (tk+k) i
  show y8 (List.lookup i ((j,x.cps.toList)::r.map fun p=>(p.1,p.2.cps.toList))) (oy (⟨j,.int j tk,.str x (tk+1)⟩::bH k r (tk+k)) i)
  unfold oy at *
  rw[lookup_cons,find?_cons]
  by_cases h:j=i
  ·subst h
   have e1:Value.isInt j (.int j tk)=true:=by simp[Value.isInt]
   rw[e1,beq_self_eq_true]
   exact⟨_,by rw[eY]⟩
  ·have e1:Value.isInt i (.int j tk)=false:=by simp[Value.isInt,h]
   have e2:(i==j)=false:=by rw[beq_eq_false_iff_ne];exact fun q=>h q.symm
   rw[e1,e2]
   exact ih
theorem iH{prog:Program}{w:World}(k:Nat):∀(l:List (Int×Str)) (tk:Nat),(∀p∈l,hashInt p.1=p.1)→∀e∈bH k l tk,∃i,(intKind prog w).is i e.key=true∧e.hash=(intKind prog w).hash i
 |[],_,_,e,he=>by cases he
 |(j,x)::r,tk,h,e,he=>by
  rcases mem_cons.mp (show e∈⟨j,.int j tk,.str x (tk+1)⟩::bH k r (tk+k)from he)with rfl|he
  ·exact⟨j,lq j _,(h (j,x) (mem_cons_self ..)).symm⟩
  ·exact iH k r (tk+k) (fun p hp=>h p (mem_cons_of_mem _ hp)) e he
noncomputable def m0:List (Int×Str):=[(1,u "OPTIMIZED"),(2,u "NEWLOCALS"),(4,u "VARARGS"),(8,u "VARKEYWORDS"),(16,u "NESTED"),(32,u "GENERATOR"),(64,u "NOFREE"),(128,u "COROUTINE"),(256,u "ITERABLE_COROUTINE"),(512,u "ASYNC_GENERATOR")]
theorem JI(P:Params):∃o n,(H0 P).get? 58=some o∧o.ExactDict∧o.data=.dict (bH 2 m0 261).toArray n:=⟨_,_,aP (a:=58) (o:=wQ P) (by kernel_rfl!) (by decide),⟨rfl,rfl,rfl⟩,rfl⟩
noncomputable def Il:List DictEntry:=bH 3 (gT (tO++qT.flatten)) 380++bH 2 (gT eU) (380+3*(tO++qT.flatten).length)
theorem JD(P:Params):∃o n,(H0 P).get? 91=some o∧o.ExactDict∧o.data=.dict Il.toArray n:=⟨_,_,aP (a:=91) (o:=sG) (by kernel_rfl!) (by decide),⟨rfl,rfl,rfl⟩,rfl⟩
theorem kO:gT (tO++qT.flatten)++gT eU=gT gC:=by kernel_rfl!
theorem sZ:(gT gC).all (fun p=>hashInt p.1==p.1)=true:=by decide +kernel
theorem Da(l:List (bc×Pos)):(gT l).map (fun p=>(p.1,p.2.cps.toList))=l.map fun p=>(p.1.1,p.1.2.cps.toList):=by
 unfold gT
 rw[map_map];rfl
theorem H5{h:Heap}{a:Addr}{o:Obj}{n:Nat}{es:List DictEntry}{l:List (Int×List Nat)}(h1:h.get? a=some o)(h2:o.ExactDict)(h3:o.data=.dict es.toArray n)(hk:∀e∈es,∃i,(intKind prog w).is i e.key=true∧e.hash=(intKind prog w).hash i)(ht:vh es l):
 ∃f,h.MapOf (intKind prog w) a f∧∀i:Int,0≤i→i<2^60→y8 (l.lookup i) (f i):=by
 refine⟨oy es,⟨o,_,n,h1,h2,h3,fun e he=>hk e (by simpa using he),fun k=>?_⟩,fun i _ _=>ht i⟩
 unfold findBy oy
 rw[List.find?_toArray]
 rfl
theorem Hh(w:World):nS w:=by
 unfold nS
 rw[kZ,t6]
 intro a l h
 ·have hm:=e8 h
  have e:G3.tabs=[(58,m0.map fun p=>(p.1,p.2.cps.toList)),(91,gC.map fun p=>(p.1.1,p.1.2.cps.toList))]:=rfl
  rw[e]at hm
  simp only[mem_cons,not_mem_nil,or_false,Prod.mk.injEq]at hm
  rcases hm with⟨rfl,rfl⟩|⟨rfl,rfl⟩
  ·obtain⟨o,n,h1,h2,h3⟩:=JI w.params
   exact⟨by decide,H5 h1 h2 h3 (iH 2 m0 _ (fun p hp=>by
    have:m0.all (fun p=>hashInt p.1==p.1)=true:=by decide +kernel
    exact eq_of_beq (all_eq_true.mp this p hp))) (iB 2 m0 _)⟩
  ·obtain⟨o,n,h1,h2,h3⟩:=JD w.params
   have hh:∀p∈gT (tO++qT.flatten)++gT eU,hashInt p.1=p.1:=fun p hp=>by
    rw[kO]at hp
    exact eq_of_beq (all_eq_true.mp sZ p hp)
   refine⟨by decide,H5 h1 h2 h3 (fun e he=>?_) ?_⟩
   ·rcases mem_append.mp he with q|q
    ·exact iH 3 _ _ (fun p hp=>hh p (mem_append_left _ hp)) e q
    ·exact iH 2 _ _ (fun p hp=>hh p (mem_append_right _ hp)) e q
   ·rw[←Da, ←kO,map_append]
    exact vh.app (iB 3 _ _) (iB 2 _ _)
end
section
variable {w:World} {h:Heap} {s:Shared}
noncomputable def mn(w:World)(h:Heap):Prop:=∀b o,(HE w.params).get? b=some o→h.get? b=some o
theorem Ay(w:World)(s:Shared)(e:s.heap=HE w.params):mn w s.heap:=fun b o h=>by rw[e];exact h
theorem so(w:World)(h h':Heap)(x:mn w h)(k:∀b o,h.get? b=some o→h'.get? b=some o):mn w h':=fun b o e=>k b o (x b o e)
noncomputable def Dd:Pl:=⟨[],dT.map C.tab,[]⟩
noncomputable def HO:Oj:=dT.map fun _=>aT.tab
theorem jp:Dd.mt=dT:=by rfl
theorem xv(Y:mn w h):aH w Dd [] HO h:=by
 unfold aH
 rw[kZ]
 exact {
  len:=by rw[Dd,HO,length_map,length_map]
  flen:=rfl
  base:=fun a o e=>Y a o (FL e)
  off:=fun a ha=>bE (jp▸ha)
  nd:=by rw[jp];decide
  ex:=fun a ha=>⟨_,Y a _ (k7 w.params a (jp▸ha))⟩
  objs:=fun i o c ho hc=>by
   unfold HO at ho
   unfold Dd at hc
   rw[getElem?_map]at ho hc
   cases ht:dT[i]? with
   |none=>rw[ht]at ho;exact nN ho
   |some p=>
    rw[ht]at ho hc
    obtain rfl:=sI ho
    obtain rfl:=sI hc
    exact⟨#[],Y p _ (k7 w.params p (mem_of_getElem? ht)),(by exact trivial),fun pos cv hcv=>by exact nN hcv⟩
  frs:=fun i f p hf _=>by exact nN hf
  tab:=fun p hp hn=>by
   obtain⟨k,hk⟩:=List.getElem?_of_mem (HI hp hn)
   exact⟨k,by unfold Dd;rw[getElem?_map,hk];rfl⟩ }
theorem zG{P:Params}{κ:Pl}:∀{xs:List Int} {vs:List Value} {ds:List WData},WellAll P h vs ds→ds=xs.map .int→ag h κ (xs.map .int) vs:=by
 intro xs
 induction xs with
 |nil=>
  intro _ _ w e
  cases w with
  |nil=>rfl
  |cons _ _=>cases e
 |cons x xs ih=>
  intro _ _ w e
  cases w with
  |nil=>cases e
  |cons a b=>
   injection e with h9 h8;subst h9 h8
   cases a with
   |int i t=>exact⟨_,_,rfl,⟨t,rfl⟩,ih b rfl⟩
theorem yC(xs:List Int):ofPy (.list (xs.map .int))=.list (xs.map .int):=by
 show WData.list (ofPys (xs.map PyData.int))=_
 rw[ofPys_eq,map_map]
 rfl
theorem Ar(hP:∀C:List Nat,C.length=6→∃f R,HN C f R)(Y:mn w s.heap){E:Value→Shared→Prop}{a:Addr}{xs:List Int}{vs:List Value}(hx:xs.length<64)(hget:s.heap.get? a=some { cls:=.type "list",data:=.seq vs.toArray })(hw:WellAll w.params s.heap vs (xs.map .int)):
 wpAny (MW w) callerA (call (.ref 182) [.ref a] []) (aG w HO.length Dd [] HO s RV (fun v O=>v=V.bool true)) ba s:=by
 have hc:=DU (n:=0) (O:=HO) (script:=xs) (Q:=fun v O=>v=V.bool true) hx hP rfl
 rw[←t6]at hc
 refine kW (up:=1) (fun _=>rfl) (E7 w) (yz (E7 w) (Hk w) (Hh w) 160) hc ⟨by decide,by decide,rfl,[],rfl⟩ (xv Y) (le_refl _) ?_ rfl
 refine⟨_,_,rfl,⟨a,vs.toArray,rfl,⟨_,hget⟩,fun hm=>?_,zG hw rfl⟩,rfl⟩
 rw[jp]at hm
 have:=Y a _ (k7 w.params a hm)
 have this:=(hget)▸this
 cases this
theorem zq{s':Shared}{κ':Pl}{O':Oj}(Y:mn w s.heap)(R:aH w κ' [] O' s'.heap)(X:bj s.heap Dd s'.heap κ'):OldK s.heap s'.heap:=by
 have ht:∀b∈dT,∃ps,s'.heap.get? b=some (tabObj ps):=fun b hb=>by
  obtain⟨k,hk⟩:=List.getElem?_of_mem hb
  have h1:Dd.ob[k]? =some (.tab b):=by unfold Dd;rw[getElem?_map,hk];rfl
  have h2:=cR X.pre h1
  have hlt:k<O'.length:=by rw[←R.len];exact(List.getElem?_eq_some_iff.mp h2).1
  have h3:=R.objs k O'[k] (.tab b) (List.getElem?_eq_some_iff.mpr ⟨hlt,rfl⟩) h2
  cases ho:O'[k]with
  |tab=>rw[ho]at h3;obtain⟨ps,hp,_⟩:=h3;exact⟨ps,hp⟩
  |_=>rw[ho]at h3;exact absurd h3 id
 constructor
 ·intro b o e
  by_cases hb:b∈dT
  ·have e0:=Y b _ (k7 w.params b hb)
   rw[e]at e0
   refine hG fun _ kk=>?_
   obtain rfl:=sI e0
   obtain⟨ps,hp⟩:=ht b hb
   obtain⟨c,o,vs,file,tf,flags,tg,inF,text,tt,h1,h2,h3,h4,_⟩:=Gn w.params b hb
   refine kk ?_
   exact .inr (.inl ⟨⟨c,o,vs,Y c o (FL h1),h2,h3,h4⟩,rfl, #[],ps,rfl,by rw[hp];simp⟩)
  ·exact .inl (X.keep b o e (by rw[jp];exact hb))
 ·intro b o e
  by_cases hb:b∈dT
  ·obtain⟨ps,hp⟩:=ht b hb
   exact⟨_,hp⟩
  ·exact⟨o,X.keep b o e (by rw[jp];exact hb)⟩
set_option tactic.hygienic true in
set_option maxHeartbeats 8000000 in
theorem holds_row(said:PySem.Challenge.rw_ta0099_01.row.wellSaid=true)(hP:∀C:List Nat,C.length=6→∃f R,HN C f R):PySem.Challenge.rw_ta0099_01.row.Holds:=by
 refine holds_open (q:=qv) (loose:=pd) (Xt:=fun _=>true) (XP:=fun _ _=>True) (Yf:=fun s=>s.heap) (Ya:=fun w=>HE w.params) (YP:=mn) (N:=100000) ID Ay so
  (fun _ _=>trivial) (fun _ _ _ _ _=>trivial) (by rfl) (by rfl) (by rfl) (fun _ _=>recFacts_nil rfl) (by rfl) (by assumption) (by decide +kernel) ⟨rfl,rfl,rfl,rfl,rfl,by decide +kernel⟩ ?hw ?hc
 case hw=>w_witness2
 case hc=>
  intro w s₀ s₁ mg mb G Y fa o pm cd doc dV kV ho hd hcd hD hmg hg args aA as hpre hlay hrd hwl hlo
  have hT:=G.T.g
  clear hd hcd hD ho
  have hfa:fa=182:=by
   obtain⟨o,es,ep,h1,h2,h3,h4⟩:=hT
   obtain⟨o',es',ep',k1,k2,k3,k4⟩:=Ns.of_isNs (h:=HE w.params) (a:=mainGlobals) (by kernel_rfl!)
   have k5:=Y _ _ k1
   have k5:=(h1)▸k5
   cases k5
   have k2:=(h2)▸k2
   cases k2
   have e1:=k4 (ofString "law")
   have e2:=h4 (ofString "law")
   have e3:(HE w.params).nsMap mainGlobals (ofString "law")=some (.ref 182):=by kernel_rfl!
   have e1:=(e3)▸e1
   have hmg':mg (ofString "law")=some (.ref fa):=hmg
   have e2:=(hmg')▸(e1)▸e2
   cases e2
   rfl
  subst hfa
  clear hmg hT
  wrow_args hpre hlay hrd hwl hlo
  rename_i xs _ _ _ _ _ _ _ a vs0 _ _ _ hwel _ _ _ hlen _
  rw[yC]at hwel ⊢
  cases hwel with
  |list hget hwa=>
   have hcall:=Ar hP Y (E:=fun e s'=>GoodWG PySem.Challenge.rw_ta0099_01.row.claim (classAt s₀.heap) (ExcName.means s₀.heap) [WData.list (xs.map .int)] s₁ (Except.error e) s') (lt_succ_of_le (ofNat_le.mp (not_lt.mp hlen))) hget hwa
   rw[MW,JX]at hcall
   refine wpAny_mono hcall (fun v s' he=>?_) fun _ _ x=>x.elim
   obtain⟨hv',g,hv⟩:=he
   subst hv'
   have hv':v=.bool true:=hv
   subst hv'
   refine⟨.inl ⟨.bool true,.bool true,[],rfl,fun cls=>rfl,.bool true,by wrow_post,fun _=>⟨nodup_nil,fun a ha=>by cases ha⟩⟩,zq Y g.rel g.ext,g.rest.2.1,?_⟩
   intro y hy
   rw[g.rest.1,hg]at hy
   simp at hy
end
end Mine
set_option maxRecDepth 100000 in
set_option maxHeartbeats 8000000 in
theorem PySem.Challenge.cw_ta0099_01_holds : PySem.Challenge.rw_ta0099_01.Holds := by
  exact holds_law Mine.said_law fun said => Mine.holds_row said Mine.plain_all
