import PyProof.Rows.All
import PyProof.AttrMissHeap
import PyProof.AutoSeq1
import PyProof.CallFns
import PyProof.PlainList
import PyProof.SumWalk
import PyProof.StrWalks
import PyProof.CollectIter
import PyProof.MeetsSeq
import PyProof.MeetsDict
import PyProof.DictRoads
import PyProof.DictTruth
import PyProof.DictIter
import PyProof.DictWalks
import PyProof.EqAt
import PyProof.StrOps
import PyProof.WalksMore
import PyProof.ListNew
import PyProof.ListCopy
import PyProof.ListMulRoad
import PyProof.ListRange
import PyProof.WalkInts
import PyProof.StrLawsRepr
import PyProof.StrBlockH
import PyProof.Rows.StrNews2
import PyProof.Rows.StrBin
import PyProof.Rows.BitMore
import PyProof.Rows.RuleB_lshift
import PyProof.Rows.RuleB_pow
import PyProof.WalksEnum
import PyProof.Rows.RuleB_floordiv
import PyProof.Rows.RuleB_mod
import PyProof.Rows.RuleB_and
import PyProof.Rows.RuleB_or
import PyProof.Rows.RuleB_xor
import PyProof.Rows.RuleIs
import PyProof.Rows.RuleN_abs
import PyProof.StrLawsFrom
import PyProof.StrLawsTight
import PyProof.StrLawsLast
import PyProof.Rows.SortShellK
import PyProof.SetRoads
import KE.KLam
import KE.KDictIter
import KE.KDictOf
import KE.KRevSl
import KE.KSortAsk
import KE.KSortTup
import KE.KTupTruth
import Wide.FinOn
import OpenK.AllK
import Wide.All
import Lean
import PySem.Challenge.RW_ta0099_02
open PySem PySem.W PyProof.Rows
set_option Elab.async false
set_option maxRecDepth 100000
set_option linter.unusedVariables false
set_option linter.unusedSimpArgs false
set_option exponentiation.threshold 10000
set_option maxHeartbeats 1000000
set_option genSizeOf false
set_option genInjectivity false
set_option tactic.hygienic false
set_option bootstrap.genMatcherCode false
namespace Mine
open Str (ofString)
open Nat (le_trans lt_trans le_refl lt_of_le_of_lt le_of_eq le_add_right zero_add not_lt_zero lt_of_lt_of_le zero_le le_of_lt mod_lt ble succ_le_succ ne_of_gt add_le_add_left ne_of_lt not_lt add_assoc le_succ succ_add sub_le le_of_lt_succ lt_of_succ_lt_succ add_comm add_right_comm add_le_add le_add_left sub_self add_le_add_right pow_pos succ_mul pow_lt_pow_of_lt lt_succ_self succ_pos min_eq_left toDigits sub_zero min_le_right lt_or_ge mul_add add_zero lt_of_succ_lt)
open List (mem_cons_self length_map mem_cons_of_mem length_append mem_map all_eq_true map_append append_assoc mem_singleton map_map getElem?_map mem_append length_cons mem_cons map_cons getElem?_eq_getElem nodup_append mem_append_right lookup_cons mem_range append_nil length replicate mem_append_left nodup_cons length_range nodup_nil mem_of_getElem? nil_append contains_iff_mem length_nil mem_map_of_mem range' getD_eq_getElem?_getD getElem?_append_left length_take length_drop cons_append prefix_rfl forIn_cons take_length getElem?_append_right set_set sum_cons isEmpty_iff getElem_mem flatten_cons Sublist take_append_of_le_length filterMap_cons mem_filter mem_flatMap replicate_succ length_set not_mem_nil any_eq_true take_of_length_le map_nil flatMap_cons take_left drop_drop find?_cons toArray map_eq_nil_iff forIn_nil drop_zero getElem?_set_ne drop_eq_nil_iff length_singleton getElem?_drop any_cons take_zero map_congr_left getElem?_range mem_of_mem_take foldl_cons)
open Bool (and_eq_true_iff or_eq_true_iff false_eq_true and_eq_true)
open Array (getElem?_toList toList_inj getElem?_eq_none toList_append length_toList)
open Int (ofNat_lt ofNat natCast_nonneg ofNat_le ofNat_sub lt_irrefl)
open Heap (get?_push_size lt_size SameBut get?_push_of_some get?_update_self Ns)
open Option (map map_eq_some_iff getD_some)
theorem said_a1 : (sreFenced PySem.Challenge.rw_ta0099_02.row.prog.main) = true := by kernel_rfl!
theorem said_a2 : (((moduleNames PySem.Challenge.rw_ta0099_02.row.prog.main.body).isEmpty || lookedIntoSs (moduleNames PySem.Challenge.rw_ta0099_02.row.prog.main.body) PySem.Challenge.rw_ta0099_02.row.prog.main.body)) = true := by kernel_rfl!
theorem said_a3 : (namesResolve PySem.Challenge.rw_ta0099_02.row.prog) = true := by kernel_rfl!
theorem said_a4 : (PySem.Challenge.rw_ta0099_02.row.prog.boundNames.all (fun n => !worldNames.contains n)) = true := by kernel_rfl!
theorem said_a5 : (noRoadLSs { strict := !(importedModules PySem.Challenge.rw_ta0099_02.row.prog.main.body).all cThrough.contains, foot := none, bare := (["vars", "dir", "locals"] : List Str).filter (readsOut PySem.Challenge.rw_ta0099_02.row.prog PySem.Challenge.rw_ta0099_02.row.prog.main.body) } PySem.Challenge.rw_ta0099_02.row.prog.main.body) = true := by kernel_rfl!
theorem said_a6 : (namesMeet PySem.Challenge.rw_ta0099_02.row.prog PySem.Challenge.rw_ta0099_02.row.prog.main.body fun _ n => attrL n) = true := by kernel_rfl!
theorem said_looks : looksOpen PySem.Challenge.rw_ta0099_02.row.prog = true := look_both (look_both (look_both (look_both (look_both said_a1 said_a2) said_a3) said_a4) said_a5) said_a6
theorem said_part : PySem.Challenge.rw_ta0099_02.row.partSaid = true := look_both (look_both (look_both (look_both (look_both (look_both (look_both (look_both (look_both (look_both (look_both (look_both (look_both (said_looks) (by kernel_rfl!)) (by kernel_rfl!)) (by kernel_rfl!)) (by kernel_rfl!)) (by kernel_rfl!)) (by kernel_rfl!)) (by kernel_rfl!)) (by kernel_rfl!)) (by kernel_rfl!)) (by kernel_rfl!)) (by kernel_rfl!)) (by kernel_rfl!)) (by kernel_rfl!)
theorem said_row : PySem.Challenge.rw_ta0099_02.row.wellSaid = true := look_both (look_both (said_part) (by kernel_rfl!)) (by kernel_rfl!)
theorem said_l1 : (noRoadLSs { strict := true, foot := some PySem.Challenge.rw_ta0099_02.bound', writes := PySem.Challenge.rw_ta0099_02.writes, may := PySem.Challenge.rw_ta0099_02.may } PySem.Challenge.rw_ta0099_02.footing) = true := by kernel_rfl!
theorem said_l2 : (namesMeet PySem.Challenge.rw_ta0099_02.prog PySem.Challenge.rw_ta0099_02.above (fun _ n => !PySem.Challenge.rw_ta0099_02.own.contains n)) = true := by kernel_rfl!
theorem said_m1 : (namesMeet PySem.Challenge.rw_ta0099_02.prog PySem.Challenge.rw_ta0099_02.footing (fun sc n => (!(["type", "isinstance", "issubclass", "getattr", "hasattr"] : List Str).contains n || sc.names.lookup n == some .globalImplicit) &&
 (PySem.Challenge.rw_ta0099_02.may != some n || sc.kind == .module || sc.names.lookup n == some .globalImplicit))) = true := by kernel_rfl!
theorem said_m2 : (namesMeet PySem.Challenge.rw_ta0099_02.prog PySem.Challenge.rw_ta0099_02.footing fun sc n => sc.kind == .module || sc.names.lookup n != some .globalExplicit) = true := by kernel_rfl!
theorem said_law : PySem.Challenge.rw_ta0099_02.wellSaid = true := look_both (look_both (look_both (look_both (look_both (look_both (look_both (look_both (look_both (look_both (look_both (look_both (look_both (look_both (look_both (look_both (look_both (look_both (said_row) (by kernel_rfl!)) (by kernel_rfl!)) (by kernel_rfl!)) (by kernel_rfl!)) (by kernel_rfl!)) said_l1) (by kernel_rfl!)) (by kernel_rfl!)) (by kernel_rfl!)) (by kernel_rfl!)) (by kernel_rfl!)) (by kernel_rfl!)) said_m1) (by kernel_rfl!)) (by kernel_rfl!)) (by kernel_rfl!)) said_l2) said_m2
section
variable {N N' : Nat} {vs : List Value} {o : Obj} {ad : Addr} {part : Option Value}
noncomputable def HL (L : List Obj) (life : Life) : Heap := ⟨L.toArray, life⟩
theorem HL_push (L : List Obj) (life : Life) (o : Obj) : (HL L life).push o = HL (L ++ [o]) life := by
 simp [HL, Heap.push]
theorem HL_size (L : List Obj) (life : Life) : (HL L life).objs.size = L.length := by simp [HL]
theorem HL_upd (L R : List Obj) (o : Obj) (f : Obj → Obj) (life : Life) :
 (HL (L ++ o :: R) life).update L.length f = HL (L ++ f o :: R) life := by
 simp only [HL, Heap.update]
 have e : ∀ L : List Obj, (L ++ o :: R).modify L.length f = L ++ f o :: R := by
  intro L
  induction L with
  | nil => rfl
  | cons a L ih => rw [cons_append, length_cons, List.modify_succ_cons, ih]; rfl
 rw [List.modify_toArray, e]
theorem HL_get (L R : List Obj) (o : Obj) (life : Life) : (HL (L ++ o :: R) life).get? L.length = alive o := by
 unfold Heap.get? HL
 simp only [List.getElem?_toArray, getElem?_append_right (le_refl _), sub_self, List.getElem?_cons_zero]
 obtain ⟨c, d, dt, sl⟩ := o
 cases dt <;> rfl
section
variable (p : Program) (w : World) (n₀ : Nat) (ann : Option Value)
noncomputable abbrev TR := topRun treeTable p w n₀ ann
noncomputable def Runs {α : Type} (x : Sem α) (s : Shared) (N : Nat) (a : α) (s' : Shared) : Prop :=
 ∀ (K : α → Sem Fin) (H : Value → Sem Fin) (gd : Bool → Bool) (lv : List Value → List Value) (c : Code) (q : Pos) (f : Frame) (B : List Frame),
  ∃ q' n, n ≤ N ∧ ∀ M r, TR p w n₀ ann M s' ⟨K a, c, q', f :: B⟩ = some r → TR p w n₀ ann (M + n) s ⟨x.wrap K H gd lv, c, q, f :: B⟩ = some r
variable {p w n₀ ann}
theorem TR_step {s s' r : Shared} {t t' : Thread} {M : Nat} (ht : through t = false) (hk : stepOk n₀ ann t = true) (hs : step (denote treeTable) p w s t = .go s' t')
 (h : TR p w n₀ ann M s' t' = some r) : TR p w n₀ ann (M + 1) s t = some r := by
 show topRun treeTable p w n₀ ann (M + 1) s t = some r
 unfold topRun
 rw [ht, hk, hs]
 exact h
variable {α β : Type} {s s' s'' : Shared} {a : α} {b : β}
theorem Runs.pure : Runs p w n₀ ann (pure a : Sem α) s 0 a s := fun K H gd lv c q f B => ⟨q, 0, le_refl _, fun M r h => h⟩
theorem Runs.bind {x : Sem α} {g : α → Sem β} (h : Runs p w n₀ ann x s N a s') (h' : Runs p w n₀ ann (g a) s' N' b s'') : Runs p w n₀ ann (x >>= g) s (N' + N) b s'' := by
 intro K H gd lv c q f B
 obtain ⟨q1, n1, l1, k1⟩ := h (fun a => (g a).wrap K H gd lv) (fun e => (Sem.raise e : Sem β).wrap K H gd lv) gd lv c q f B
 obtain ⟨q2, n2, l2, k2⟩ := h' K H gd lv c q1 f B
 refine ⟨q2, n2 + n1, add_le_add l2 l1, fun M r hM => ?_⟩
 rw [Sem.bind_eq_wrap', Sem.wrap_wrap, ← add_assoc]
 exact k1 _ _ (k2 _ _ hM)
theorem Runs.mono {x : Sem α} (h : Runs p w n₀ ann x s N a s') (l : N ≤ N') : Runs p w n₀ ann x s N' a s' := fun K H gd lv c q f B => by
 obtain ⟨q', n, l', k⟩ := h K H gd lv c q f B
 exact ⟨q', n, le_trans l' l, k⟩
theorem Runs.keep {x : Sem α} (h : Runs p w n₀ ann x s N a s') : Runs p w n₀ ann (x.keep vs) s N a s' := by
 intro K H gd lv c q f B
 obtain ⟨q1, n1, l1, k1⟩ := h K H gd (fun l => lv (vs ++ l)) c q f B
 refine ⟨q1, n1, l1, fun M r hM => ?_⟩
 rw [Sem.keep_eq_wrap, Sem.wrap_wrap]
 exact k1 _ _ hM
theorem Runs.holding {x : Sem α} (h : Runs p w n₀ ann x s N a s') : Runs p w n₀ ann (holding vs x) s N a s' := by
 delta PySem.holding
 generalize List.filter _ vs = refs
 cases refs with
 | nil => exact h
 | cons v l => exact h.keep
theorem Runs.onRaise {x : Sem α} {k : Value → Sem Unit} (h : Runs p w n₀ ann x s N a s') : Runs p w n₀ ann (x.onRaise k) s N a s' := by
 intro K H gd lv c q f B
 obtain ⟨q1, n1, l1, k1⟩ := h K (fun e => ((k e).bind fun _ => (Sem.raise e : Sem α)).wrap K H gd lv) gd lv c q f B
 refine ⟨q1, n1, l1, fun M r hM => ?_⟩
 rw [Sem.onRaise_eq_wrap, Sem.wrap_wrap]
 exact k1 _ _ hM
theorem Runs.rule {t : String} : Runs p w n₀ ann (rule t) s 1 () s := fun K H gd lv c q f B => ⟨q, 1, le_refl _, fun M r h => TR_step rfl rfl rfl h⟩
theorem Runs.standAt {q' : Pos} : Runs p w n₀ ann (standAt q') s 1 () s := fun K H gd lv c q f B => ⟨q', 1, le_refl _, fun M r h => TR_step rfl rfl rfl h⟩
theorem Runs.fresh : Runs p w n₀ ann fresh s 1 s.toks { s with toks := s.toks + 1 } := fun K H gd lv c q f B => ⟨q, 1, le_refl _, fun M r h => TR_step rfl rfl rfl h⟩
theorem Runs.alloc : Runs p w n₀ ann (alloc o) s 1 s.heap.objs.size { s with heap := s.heap.push o } := fun K H gd lv c q f B => ⟨q, 1, le_refl _, fun M r h => TR_step rfl rfl rfl h⟩
theorem Runs.loadPart (ho : s.heap.get? ad = some o) : Runs p w n₀ ann (loadPart ad part) s 1 o s := fun K H gd lv c q f B => ⟨q, 1, le_refl _, fun M r h => TR_step rfl rfl (by
 obtain ⟨heap, gens, drawn, toks, os⟩ := s
 show step (denote treeTable) p w ⟨heap, gens, drawn, toks, os⟩ ⟨.load ad part _, c, q, f :: B⟩ = _
 simp only [step, ho]; rfl) h⟩
theorem Runs.updatePart {g : Obj → Obj} (ho : s.heap.get? ad = some o) (hn : ble n₀ ad = true) :
 Runs p w n₀ ann (updatePart ad part g) s 1 () { s with heap := s.heap.update ad g } := fun K H gd lv c q f B => ⟨q, 1, le_refl _, fun M r h => TR_step rfl (by
 show (_ && (ble n₀ ad || _ || _ || _)) = true
 rw [hn]; rfl) (by
 obtain ⟨heap, gens, drawn, toks, os⟩ := s
 show step (denote treeTable) p w ⟨heap, gens, drawn, toks, os⟩ ⟨.update ad part g _, c, q, f :: B⟩ = _
 have ho' : heap.get? ad = some o := ho
 simp only [step, ho', Option.isSome_some, if_true]; rfl) h⟩
end
end
section
variable {i : Int} {t : Tok}
noncomputable def hv (i : Int) : Int := if ((if i < 0 then -((i.natAbs % (2 ^ 61 - 1 : Nat) : Nat) : Int) else ((i.natAbs % (2 ^ 61 - 1 : Nat) : Nat) : Int)) == -1) then -2 else (if i < 0 then -((i.natAbs % (2 ^ 61 - 1 : Nat) : Nat) : Int) else ((i.natAbs % (2 ^ 61 - 1 : Nat) : Nat) : Int))
section
variable {p : Program} {n₀ : Nat} {ann : Option Value}
theorem hash_row (b : Bool) (w : World) (i : Int) (t : Tok) (heap : Heap) (gens : Array GenState) (drawn : Drawn) (toks : Nat) (os : OsState)
 (K : Int → Sem Fin) (H : Value → Sem Fin) (gd : Bool → Bool) (lv : List Value → List Value) (c : Code) (q : Pos) (f : Frame) (B : List Frame) (M : Nat) :
  topRun treeTable p (w.withFollow "special-get-raises" b) n₀ ann (M + 5) ⟨heap, gens, drawn, toks, os⟩ ⟨(pyHash (.int i t)).wrap K H gd lv, c, q, f :: B⟩ =
  topRun treeTable p (w.withFollow "special-get-raises" b) n₀ ann M ⟨heap, gens, drawn, toks + 1, os⟩ ⟨(pyHashByItsType.reduced (hv i)).wrap K H gd lv, c, q, f :: B⟩ := by
 cases b
 ·kernel_rfl!
 ·kernel_rfl!
theorem hv_small (h0 : 0 ≤ i) (h1 : i < 2 ^ 60) : pyHashByItsType.reduced (hv i) = pure i := by
 have e : hv i = i := by
  unfold hv
  have h2 : ¬ i < 0 := by omega
  have h3 : ((i.natAbs % (2 ^ 61 - 1 : Nat) : Nat) : Int) = i := by omega
  simp only [h2, if_false, h3]
  have h4 : (i == -1) = false := by simp; omega
  simp [h4]
 rw [e]
 unfold pyHashByItsType.reduced
 have h5 : (decide (-(2 ^ 63 : Int) ≤ i) && decide (i < 2 ^ 63)) = true := by simp; omega
 have h6 : (i == -1) = false := by simp; omega
 simp [h5, h6]
 omega
variable {w : World} {s : Shared}
theorem runs_hash (h0 : 0 ≤ i) (h1 : i < 2 ^ 60) : Runs p w n₀ ann (pyHash (.int i t)) s 5 i { s with toks := s.toks + 1 } := by
 refine byRow2 "special-get-raises" (P := fun w => Runs p w n₀ ann (pyHash (.int i t)) s 5 i { s with toks := s.toks + 1 }) (fun w => ?_) (fun w => ?_) w
 all_goals
  intro K H gd lv c q f B
  refine ⟨q, 5, le_refl _, fun M r h => ?_⟩
  obtain ⟨heap, gens, drawn, toks, os⟩ := s
  refine (hash_row _ w i t heap gens drawn toks os K H gd lv c q f B M).trans ?_
  rw [hv_small h0 h1]
  exact h
theorem runs_find {d : Addr} {o : Obj} {es : Array DictEntry} {ep : Nat} (ho : s.heap.get? d = some o) (hd : o.data = .dict es ep)
 (hno : ∀ e ∈ es.toList, e.hash ≠ i) : Runs p w n₀ ann (dictFind d (.int i t) i) s 1 none s := by
 have hp : placesWithHash es.size (fun k => es[k]?.map (·.hash)) i = [] := by
  unfold placesWithHash
  rw [List.filter_eq_nil_iff]
  intro k hk
  have hk' : k < es.size := mem_range.mp hk
  simp only [beq_iff_eq, Array.getElem?_eq_getElem hk', Option.map_some, Option.some.injEq]
  exact fun e => hno _ (by simp) e
 unfold dictFind
 refine Runs.holding ?_
 refine (Runs.bind (N := 1) (N' := 0) (a := es) (s' := s) ?_ ?_)
 ·unfold dictEntries
  refine (Runs.bind (N := 1) (N' := 0) (Runs.loadPart ho) ?_)
  rw [hd]; exact Runs.pure
 ·dsimp only
  rw [hp]
  exact Runs.pure
end
end
section
variable {d : Addr} {L R : List Obj} {es : List DictEntry} {n : Nat} {i : Int} {t : Tok} {v : Value} {l : List (Item × Pos)}
noncomputable def dO (es : List DictEntry) (n : Nat) : Obj := { cls := .type "dict", data := .dict es.toArray n }
theorem dO_push (es : List DictEntry) (n : Nat) (e : DictEntry) : Obj.mapDictKeys (·.push e) (dO es n) = dO (es ++ [e]) (n + 1) := by
 exact congrArg (fun a => ({ cls := .type "dict", data := .dict a (n + 1) } : Obj)) (List.push_toArray es e)
section
variable {p : Program} {n₀ : Nat} {ann : Option Value} {w : World} (life : Life) (gens : Array GenState) (drawn : Drawn) (os : OsState)
noncomputable def st (L : List Obj) (toks : Nat) : Shared := ⟨HL L life, gens, drawn, toks, os⟩
variable {life gens drawn os}
theorem st_get (L R : List Obj) (o : Obj) (tk : Nat) : (st life gens drawn os (L ++ o :: R) tk).heap.get? L.length = alive o := HL_get L R o life
theorem runs_forIn {γ β : Type} (f : γ → β → Sem (ForInStep β)) (S : List γ → Shared) (bt : List γ → β) (N : Nat) :
 ∀ (post pre : List γ), (∀ a x b, pre ++ post = a ++ x :: b → Runs p w n₀ ann (f x (bt a)) (S a) N (.yield (bt (a ++ [x]))) (S (a ++ [x]))) →
  Runs p w n₀ ann (forIn post (bt pre) f) (S pre) (post.length * N) (bt (pre ++ post)) (S (pre ++ post))
 | [], pre, _ => by
  rw [append_nil]
  exact (Runs.pure (a := bt pre)).mono (zero_le _)
 | x :: post, pre, h => by
  rw [forIn_cons]
  refine (Runs.bind (h pre x post rfl) (N' := post.length * N) ?_).mono (by rw [length_cons, succ_mul]; exact le_refl _)
  have := runs_forIn f S bt N post (pre ++ [x]) (fun a y b e => h a y b (by rw [← e, append_assoc]; rfl))
  rw [append_assoc] at this
  exact this
theorem runs_updateKeys {tk : Nat} {e : DictEntry} {part : Option Value} (hd : d = L.length) (hn : ble n₀ d = true) (hz : es.length ≤ 1000000) :
 Runs p w n₀ ann (updateDictKeys d (·.push e) part) (st life gens drawn os (L ++ dO es n :: R) tk) 3 () (st life gens drawn os (L ++ dO (es ++ [e]) (n + 1) :: R) tk) := by
 subst hd
 have g1 := st_get (life := life) (gens := gens) (drawn := drawn) (os := os) L R (dO es n) tk
 have g2 := st_get (life := life) (gens := gens) (drawn := drawn) (os := os) L R (dO (es ++ [e]) (n + 1)) tk
 unfold updateDictKeys
 refine Runs.bind (N := 1) (N' := 2) (Runs.loadPart g1) ?_
 show Runs p w n₀ ann (updatePart L.length part (Obj.mapDictKeys (·.push e)) >>= fun _ => lookBehind L.length part) _ _ _ _
 refine Runs.bind (N := 1) (N' := 1) (Runs.updatePart g1 hn) ?_
 have hu : ({ st life gens drawn os (L ++ dO es n :: R) tk with heap := (st life gens drawn os (L ++ dO es n :: R) tk).heap.update L.length (Obj.mapDictKeys (·.push e)) } : Shared) = st life gens drawn os (L ++ dO (es ++ [e]) (n + 1) :: R) tk := by
  show Shared.mk ((HL (L ++ dO es n :: R) life).update L.length _) gens drawn tk os = _
  rw [HL_upd, dO_push]; rfl
 rw [hu]
 unfold lookBehind
 refine Runs.bind (N := 1) (N' := 0) (Runs.loadPart g2) ?_
 have : (dO (es ++ [e]) (n + 1)).data.pastItsLine = none := pastItsLine_dict (by
  have : sizeLine = 16777216 := rfl
  simp; exact le_trans (by with_reducible assumption) (by decide))
 rw [show ({ cls := .type "dict", data := .dict (es ++ [e]).toArray (n + 1) } : Obj).data.pastItsLine = none from this]
 exact Runs.pure
theorem runs_dictPut {tk : Nat} (hd : d = L.length) (hn : ble n₀ d = true) (hz : es.length ≤ 1000000)
 (hno : ∀ e ∈ es, e.hash ≠ i) :
 Runs p w n₀ ann (dictPut d i (.int i t) v) (st life gens drawn os (L ++ dO es n :: R) tk) 4 () (st life gens drawn os (L ++ dO (es ++ [⟨i, .int i t, v⟩]) (n + 1) :: R) tk) := by
 have g1 := st_get (life := life) (gens := gens) (drawn := drawn) (os := os) L R (dO es n) tk
 unfold dictPut
 refine Runs.bind (N := 1) (N' := 3) (runs_find (o := dO es n) (es := es.toArray) (ep := n) (by rw [hd]; exact g1) rfl (by simpa using hno)) ?_
 exact runs_updateKeys hd hn hz
theorem runs_dictSet {tk : Nat} (hd : d = L.length) (hn : ble n₀ d = true) (hz : es.length ≤ 1000000)
 (hno : ∀ e ∈ es, e.hash ≠ i) (h0 : 0 ≤ i) (h1 : i < 2 ^ 60) :
 Runs p w n₀ ann (dictSet d (.int i t) v) (st life gens drawn os (L ++ dO es n :: R) tk) 10 () (st life gens drawn os (L ++ dO (es ++ [⟨i, .int i t, v⟩]) (n + 1) :: R) (tk + 1)) := by
 have g1 := st_get (life := life) (gens := gens) (drawn := drawn) (os := os) L R (dO es n) (tk + 1)
 unfold dictSet
 refine Runs.holding (Runs.bind (N := 5) (N' := 5) (runs_hash h0 h1) ?_)
 show Runs p w n₀ ann _ (st life gens drawn os (L ++ dO es n :: R) (tk + 1)) _ _ _
 unfold dictSetHashed
 refine Runs.holding (Runs.bind (N := 1) (N' := 4) (runs_find (o := dO es n) (es := es.toArray) (ep := n) (by rw [hd]; exact g1) rfl (by simpa using hno)) ?_)
 exact Runs.bind (N := 1) (N' := 3) Runs.rule (runs_updateKeys hd hn hz)
noncomputable abbrev Item := Int × Str
noncomputable def ents (k : Nat) : List Item → Nat → List DictEntry
 | [], _ => []
 | (i, x) :: r, tk => ⟨i, .int i tk, .str x (tk + 1)⟩ :: ents k r (tk + k)
theorem ents_snoc (k : Nat) : ∀ (l : List Item) (tk : Nat) (i : Int) (x : Str), ents k (l ++ [(i, x)]) tk = ents k l tk ++ [⟨i, .int i (tk + k * l.length), .str x (tk + k * l.length + 1)⟩]
 | [], tk, i, x => by simp [ents]
 | (j, y) :: r, tk, i, x => by
  rw [cons_append, ents, ents_snoc k r, ents, cons_append, length_cons]
  have : tk + k + k * r.length = tk + k * (r.length + 1) := by rw [Nat.mul_succ]; exact (add_right_comm _ _ _).trans (add_assoc _ _ _)
  rw [this]
theorem ents_length (k : Nat) : ∀ (l : List Item) (tk : Nat), (ents k l tk).length = l.length
 | [], _ => rfl
 | (_, _) :: r, tk => by rw [ents, length_cons, ents_length k r, length_cons]
theorem ents_hash (k : Nat) : ∀ (l : List Item) (tk : Nat), (ents k l tk).map (·.hash) = l.map (·.1)
 | [], _ => rfl
 | (_, _) :: r, tk => by rw [ents, map_cons, ents_hash k r, map_cons]
noncomputable def okKeysH (ks : List Int) : Prop := ks.Nodup ∧ ∀ k ∈ ks, 0 ≤ k ∧ k < 2 ^ 60
noncomputable def key (i : Int) : Sem Value := mkInt i
noncomputable def val (x : Str) (q : Pos) : Sem Value := do let v ← mkText x; standAt q; pure v
noncomputable def trees (l : List (Item × Pos)) : List (Sem Value × Sem Value) := l.map fun it => (key it.1.1, val it.1.2 it.2)
theorem not_mem_ents {k : Nat} {l : List Item} {tk : Nat} (h : i ∉ l.map (·.1)) : ∀ e ∈ ents k l tk, e.hash ≠ i := by
 intro e he q
 exact h (by rw [← ents_hash k l tk]; exact mem_map.mpr ⟨e, he, q⟩)
theorem runs_subDict {tk : Nat} (hk : okKeysH (l.map (·.1.1))) (hl : 15 < l.length) (hz : l.length ≤ 1000000) (hn : ble n₀ L.length = true) :
 Runs p w n₀ ann (subDict (trees l)) (st life gens drawn os L tk) (l.length * 13 + 2) L.length
  (st life gens drawn os (L ++ [dO (ents 3 (l.map (·.1)) tk) l.length]) (tk + 3 * l.length)) := by
 unfold subDict
 have ha : Runs p w n₀ ann (alloc { cls := Value.type "dict", data := Data.dict #[] }) (st life gens drawn os L tk) 1 L.length (st life gens drawn os (L ++ [dO [] 0]) tk) := by
  have := Runs.alloc (p := p) (w := w) (n₀ := n₀) (ann := ann) (s := st life gens drawn os L tk) (o := dO [] 0)
  have e : (st life gens drawn os L tk).heap.objs.size = L.length := HL_size L life
  rw [e] at this
  have e2 : ({ st life gens drawn os L tk with heap := (st life gens drawn os L tk).heap.push (dO [] 0) } : Shared) = st life gens drawn os (L ++ [dO [] 0]) tk := by
   show Shared.mk ((HL L life).push _) gens drawn tk os = _
   rw [HL_push]; rfl
  rw [e2] at this
  exact this
 refine Runs.bind (N := 1) (N' := l.length * 13 + 1) ha ?_
 refine Runs.mono (N := 0 + (l.length * 13 + 1)) (Runs.bind (N := l.length * 13 + 1) (N' := 0) (a := ()) (Runs.holding ?_) Runs.pure) (le_of_eq (zero_add _))
 have hlen : ¬ (trees l).length ≤ 15 := by simp [trees]; with_reducible assumption
 rw [if_neg hlen]
 refine Runs.bind (N := 1) (N' := l.length * 13) Runs.rule ?_
 have key := runs_forIn (p := p) (w := w) (n₀ := n₀) (ann := ann) (β := PUnit)
  (fun (x : Sem Value × Sem Value) (__s : PUnit) => match x with
          | (k, v) => do
           let kv ← k
           let vv ← holding [kv] v
           holding [kv, vv] (dictSet L.length kv vv)
           pure (ForInStep.yield PUnit.unit))
  (fun done => st life gens drawn os (L ++ [dO (ents 3 ((l.take done.length).map (·.1)) tk) done.length]) (tk + 3 * done.length)) (fun _ => PUnit.unit) 13 (trees l) [] ?_
 ·have e1 : ([] ++ trees l).length = l.length := by simp [trees]
  have e2 : (trees l).length = l.length := by simp [trees]
  simp only [length_nil, take_zero, map_nil, e1, e2, take_length] at key
  exact Runs.mono (N := 0 + l.length * 13) (Runs.bind (N := l.length * 13) (N' := 0) key Runs.pure) (le_of_eq (zero_add _))
 ·intro a x b hab
  rw [nil_append] at hab
  have hlt : a.length < l.length := by
   have := congrArg length hab
   simp [trees] at this; omega
  have hx : x = (Mine.key l[a.length].1.1, val l[a.length].1.2 l[a.length].2) := by
   have h1 : (trees l)[a.length]? = some x := by rw [hab]; simp
   simp [trees, getElem?_map, getElem?_eq_getElem hlt] at h1
   exact h1.symm
  have htake : l.take (a.length + 1) = l.take a.length ++ [l[a.length]] := List.take_succ_eq_append_getElem hlt
  subst hx
  dsimp only
  have hmem : l[a.length].1.1 ∉ (l.take a.length).map (·.1.1) := by
   have hnd := hk.1
   have : l.map (·.1.1) = (l.take a.length).map (·.1.1) ++ l[a.length].1.1 :: (l.drop (a.length + 1)).map (·.1.1) := by
    rw [← map_cons (f := fun x : Item × Pos => x.1.1), ← map_append, ← List.drop_eq_getElem_cons hlt, List.take_append_drop]
   rw [this] at hnd
   exact fun hm => (nodup_append.mp hnd).2.2 _ hm _ mem_cons_self rfl
  have hrange := hk.2 l[a.length].1.1 (mem_map.mpr ⟨l[a.length], getElem_mem hlt, rfl⟩)
  refine (Runs.bind (N := 1) (N' := 12) (a := Value.int l[a.length].1.1 (tk + 3 * a.length)) (s' := st life gens drawn os (L ++ [dO (ents 3 ((l.take a.length).map (·.1)) tk) a.length]) (tk + 3 * a.length + 1)) ?_ ?_)
  ·exact (Runs.bind (N := 1) (N' := 0) Runs.fresh Runs.pure)
  refine (Runs.bind (N := 2) (N' := 10) (a := Value.str l[a.length].1.2 (tk + 3 * a.length + 1)) (s' := st life gens drawn os (L ++ [dO (ents 3 ((l.take a.length).map (·.1)) tk) a.length]) (tk + 3 * a.length + 2)) (Runs.holding ?_) ?_)
  ·refine (Runs.bind (N := 1) (N' := 1) (s' := st life gens drawn os (L ++ [dO (ents 3 ((l.take a.length).map (·.1)) tk) a.length]) (tk + 3 * a.length + 2)) (a := Value.str l[a.length].1.2 (tk + 3 * a.length + 1)) ?_ ?_)
   ·exact (Runs.bind (N := 1) (N' := 0) Runs.fresh Runs.pure)
   ·exact (Runs.bind (N := 1) (N' := 0) Runs.standAt Runs.pure)
  refine (Runs.bind (N := 10) (N' := 0) (a := ()) (Runs.holding ?_) Runs.pure)
  have := runs_dictSet (p := p) (w := w) (n₀ := n₀) (ann := ann) (life := life) (gens := gens) (drawn := drawn) (os := os) (d := L.length) (L := L) (R := [])
   (es := ents 3 ((l.take a.length).map (·.1)) tk) (n := a.length) (tk := tk + 3 * a.length + 2) (i := l[a.length].1.1) (t := tk + 3 * a.length) (v := .str l[a.length].1.2 (tk + 3 * a.length + 1)) rfl hn
   (by rw [ents_length, length_map, length_take]; exact le_trans (min_le_right _ _) hz) (not_mem_ents (by rw [map_map]; exact hmem)) hrange.1 hrange.2
  simp only [length_append, length_cons, length_nil, zero_add]
  rw [htake, map_append, map_cons, map_nil]
  have hs := ents_snoc 3 ((l.take a.length).map (·.1)) tk l[a.length].1.1 l[a.length].1.2
  have hlen2 : ((l.take a.length).map (·.1)).length = a.length := by rw [length_map, length_take]; exact min_eq_left (le_of_lt hlt)
  rw [hlen2] at hs
  rw [show l[a.length].1 = (l[a.length].1.1, l[a.length].1.2) from rfl, hs]
  rw [show tk + 3 * (a.length + 1) = tk + 3 * a.length + 2 + 1 by rfl]
  exact this
theorem runs_allocD {L : List Obj} {tk : Nat} : Runs p w n₀ ann (alloc { cls := Value.type "dict", data := Data.dict #[] }) (st life gens drawn os L tk) 1 L.length (st life gens drawn os (L ++ [dO [] 0]) tk) := by
 have := Runs.alloc (p := p) (w := w) (n₀ := n₀) (ann := ann) (s := st life gens drawn os L tk) (o := dO [] 0)
 have e : (st life gens drawn os L tk).heap.objs.size = L.length := HL_size L life
 rw [e] at this
 have e2 : ({ st life gens drawn os L tk with heap := (st life gens drawn os L tk).heap.push (dO [] 0) } : Shared) = st life gens drawn os (L ++ [dO [] 0]) tk := by
  show Shared.mk ((HL L life).push _) gens drawn tk os = _
  rw [HL_push]; rfl
 rw [e2] at this
 exact this
noncomputable def vals : List (Item × Pos) → Nat → List (Value × Value)
 | [], _ => []
 | it :: r, tk => (.int it.1.1 tk, .str it.1.2 (tk + 1)) :: vals r (tk + 2)
theorem vals_at : ∀ (l : List (Item × Pos)) (tk k : Nat) (h : k < l.length), (vals l tk)[k]? = some (.int l[k].1.1 (tk + 2 * k), .str l[k].1.2 (tk + 2 * k + 1))
 | it :: r, tk, 0, h => rfl
 | it :: r, tk, k + 1, h => by
  rw [vals, List.getElem?_cons_succ, vals_at r (tk + 2) k (by simpa using h)]
  simp only [List.getElem_cons_succ]
  rw [show tk + 2 + 2 * k = tk + 2 * (k + 1) by exact add_right_comm _ 2 _]
theorem vals_length : ∀ (l : List (Item × Pos)) (tk : Nat), (vals l tk).length = l.length
 | [], _ => rfl
 | _ :: r, tk => by rw [vals, length_cons, vals_length r, length_cons]
theorem runs_evalPairs : ∀ (l : List (Item × Pos)) {L : List Obj} {tk : Nat},
 Runs p w n₀ ann (evalPairs (trees l)) (st life gens drawn os L tk) (l.length * 3) (vals l tk) (st life gens drawn os L (tk + 2 * l.length))
 | [], L, tk => Runs.pure
 | it :: r, L, tk => by
  refine Runs.mono (N := (r.length * 3 + 2) + 1) (Runs.bind (N := 1) (N' := r.length * 3 + 2) (a := Value.int it.1.1 tk) (s' := st life gens drawn os L (tk + 1)) ?_ ?_) (by simp; exact le_of_eq (succ_mul _ 3).symm)
  ·exact (Runs.bind (N := 1) (N' := 0) Runs.fresh Runs.pure)
  refine Runs.bind (N := 2) (N' := r.length * 3) (a := Value.str it.1.2 (tk + 1)) (s' := st life gens drawn os L (tk + 2)) (Runs.holding ?_) ?_
  ·refine (Runs.bind (N := 1) (N' := 1) (s' := st life gens drawn os L (tk + 2)) (a := Value.str it.1.2 (tk + 1)) ?_ ?_)
   ·exact (Runs.bind (N := 1) (N' := 0) Runs.fresh Runs.pure)
   ·exact (Runs.bind (N := 1) (N' := 0) Runs.standAt Runs.pure)
  refine Runs.mono (N := 0 + r.length * 3) (Runs.bind (N := r.length * 3) (N' := 0) (a := vals r (tk + 2)) (Runs.holding (runs_evalPairs r)) ?_) (le_of_eq (zero_add _))
  rw [length_cons, show tk + 2 + 2 * r.length = tk + 2 * (r.length + 1) by exact add_right_comm _ 2 _]
  exact Runs.pure
theorem take_facts (hk : okKeysH (l.map (·.1.1))) (hlt : n < l.length) :
 l.take (n + 1) = l.take n ++ [l[n]] ∧ l[n].1.1 ∉ (l.take n).map (·.1.1) ∧ 0 ≤ l[n].1.1 ∧ l[n].1.1 < 2 ^ 60 := by
 refine ⟨List.take_succ_eq_append_getElem hlt, ?_, hk.2 l[n].1.1 (mem_map.mpr ⟨l[n], getElem_mem hlt, rfl⟩)⟩
 have hnd := hk.1
 have : l.map (·.1.1) = (l.take n).map (·.1.1) ++ l[n].1.1 :: (l.drop (n + 1)).map (·.1.1) := by
  rw [← map_cons (f := fun x : Item × Pos => x.1.1), ← map_append, ← List.drop_eq_getElem_cons hlt, List.take_append_drop]
 rw [this] at hnd
 exact fun hm => (nodup_append.mp hnd).2.2 _ hm _ mem_cons_self rfl
theorem runs_subDictS {tk : Nat} (hk : okKeysH (l.map (·.1.1))) (hl : l.length ≤ 15) (hn : ble n₀ L.length = true) :
 Runs p w n₀ ann (subDict (trees l)) (st life gens drawn os L tk) (l.length * 13 + 1) L.length
  (st life gens drawn os (L ++ [dO (ents 2 (l.map (·.1)) tk) l.length]) (tk + 3 * l.length)) := by
 unfold subDict
 refine Runs.bind (N := 1) (N' := l.length * 13) runs_allocD ?_
 refine Runs.mono (N := 0 + (l.length * 10 + l.length * 3)) (Runs.bind (N := l.length * 10 + l.length * 3) (N' := 0) (a := ()) (Runs.holding ?_) Runs.pure) (le_of_eq ((zero_add _).trans (mul_add _ 10 3).symm))
 have hlen : (trees l).length ≤ 15 := by simp [trees]; with_reducible assumption
 rw [if_pos hlen]
 refine Runs.bind (N := l.length * 3) (N' := l.length * 10) (runs_evalPairs l) (Runs.holding ?_)
 have key := runs_forIn (p := p) (w := w) (n₀ := n₀) (ann := ann) (β := PUnit)
  (fun (x : Value × Value) (__s : PUnit) => match x with
          | (k, v) => do
           dictSet L.length k v
           pure (ForInStep.yield PUnit.unit))
  (fun done => st life gens drawn os (L ++ [dO (ents 2 ((l.take done.length).map (·.1)) tk) done.length]) (tk + 2 * l.length + done.length)) (fun _ => PUnit.unit) 10 (vals l tk) [] ?_
 ·have e1 : ([] ++ vals l tk).length = l.length := by rw [nil_append, vals_length]
  have e2 : (vals l tk).length = l.length := vals_length l tk
  simp only [length_nil, take_zero, map_nil, e1, e2, take_length] at key
  rw [show tk + 3 * l.length = tk + 2 * l.length + l.length by exact (congrArg (tk + ·) (succ_mul 2 _)).trans (add_assoc _ _ _).symm]
  exact Runs.mono (N := 0 + l.length * 10) (Runs.bind (N := l.length * 10) (N' := 0) key Runs.pure) (le_of_eq (zero_add _))
 ·intro a x b hab
  rw [nil_append] at hab
  have hlt : a.length < l.length := by
   have := congrArg length hab
   rw [vals_length] at this
   simp at this; omega
  have hx : x = (.int l[a.length].1.1 (tk + 2 * a.length), .str l[a.length].1.2 (tk + 2 * a.length + 1)) := by
   have h1 : (vals l tk)[a.length]? = some x := by rw [hab]; simp
   rw [vals_at l tk _ hlt] at h1
   exact (Option.some.inj h1).symm
  obtain ⟨htake, hmem, hrange⟩ := take_facts hk hlt
  subst hx
  dsimp only
  refine (Runs.bind (N := 10) (N' := 0) (a := ()) ?_ Runs.pure)
  have := runs_dictSet (p := p) (w := w) (n₀ := n₀) (ann := ann) (life := life) (gens := gens) (drawn := drawn) (os := os) (d := L.length) (L := L) (R := [])
   (es := ents 2 ((l.take a.length).map (·.1)) tk) (n := a.length) (tk := tk + 2 * l.length + a.length) (i := l[a.length].1.1) (t := tk + 2 * a.length) (v := .str l[a.length].1.2 (tk + 2 * a.length + 1)) rfl hn
   (by rw [ents_length, length_map, length_take]; exact le_trans (min_le_right _ _) (le_trans hl (by decide))) (not_mem_ents (by rw [map_map]; exact hmem)) hrange.1 hrange.2
  simp only [length_append, length_cons, length_nil, zero_add]
  rw [htake, map_append, map_cons, map_nil]
  have hs := ents_snoc 2 ((l.take a.length).map (·.1)) tk l[a.length].1.1 l[a.length].1.2
  have hlen2 : ((l.take a.length).map (·.1)).length = a.length := by rw [length_map, length_take]; exact min_eq_left (le_of_lt hlt)
  rw [hlen2] at hs
  rw [show l[a.length].1 = (l[a.length].1.1, l[a.length].1.2) from rfl, hs]
  exact this
end
end
section
variable {s : Shared} {a : Addr} {es : List DictEntry} {n : Nat} {part : Option Value}
theorem sub_dict : isSubtype (.type "dict") (.type "dict") = pure true := by rw [isSubtype_type]; kernel_rfl
theorem iter_dict : typeLookup (.type "dict") "__iter__" = pure (some (.builtin "dict.__iter__")) := by kernel_rfl!
section
variable {p : Program} {n₀ : Nat} {ann : Option Value} {w : World} {life : Life} {gens : Array GenState} {drawn : Drawn} {os : OsState}
theorem runs_typeOf {o : Obj} (h : s.heap.get? a = some o) : Runs p w n₀ ann (typeOf (.ref a)) s 1 o.cls s := by
 show Runs p w n₀ ann (loadPart a (some headPart) >>= fun o => pure o.cls) s 1 o.cls s
 exact Runs.bind (N := 1) (N' := 0) (Runs.loadPart h) Runs.pure
theorem runs_entries (h : s.heap.get? a = some (dO es n)) : Runs p w n₀ ann (dictEntries a part) s 1 es.toArray s := by
 unfold dictEntries
 exact Runs.bind (N := 1) (N' := 0) (Runs.loadPart h) Runs.pure
theorem runs_epoch (h : s.heap.get? a = some (dO es n)) : Runs p w n₀ ann (dictEpoch a part) s 1 n s := by
 unfold dictEpoch
 exact Runs.bind (N := 1) (N' := 0) (Runs.loadPart h) Runs.pure
theorem st_get2 (L R : List Obj) (o x : Obj) (tk : Nat) : (st life gens drawn os (L ++ o :: (R ++ [x])) tk).heap.get? (L.length + 1 + R.length) = alive x := by
 have := st_get (life := life) (gens := gens) (drawn := drawn) (os := os) (L ++ o :: R) [] x tk
 rw [length_append, length_cons] at this
 rw [show L ++ o :: (R ++ [x]) = L ++ o :: R ++ x :: [] by simp, show L.length + 1 + R.length = L.length + (R.length + 1) by exact succ_add _ _]
 exact this
noncomputable def isKeyed (e : DictEntry) : Prop := ∃ t, e.key = .int e.hash t
theorem runs_merge {L R : List Obj} {sub : List DictEntry} {m tk : Nat} (hne : es ≠ []) (hk : ∀ e ∈ sub, isKeyed e) (hnd : ((es ++ sub).map (·.hash)).Nodup)
 (hz : es.length + sub.length ≤ 1000000) (hn : ble n₀ L.length = true) (hs : (L.length + 1 + R.length == sysModules) = false) :
 Runs p w n₀ ann (mergeMapping L.length (.ref (L.length + 1 + R.length)) false) (st life gens drawn os (L ++ dO es n :: (R ++ [dO sub m])) tk) (sub.length * 6 + 5) ()
  (st life gens drawn os (L ++ dO (es ++ sub) (n + sub.length) :: (R ++ [dO sub m])) tk) := by
 have g1 : ∀ es n, (st life gens drawn os (L ++ dO es n :: (R ++ [dO sub m])) tk).heap.get? L.length = some (dO es n) := fun es n => st_get L _ (dO es n) tk
 have g2 : ∀ es n, (st life gens drawn os (L ++ dO es n :: (R ++ [dO sub m])) tk).heap.get? (L.length + 1 + R.length) = some (dO sub m) := fun es n => st_get2 L R (dO es n) (dO sub m) tk
 unfold mergeMapping
 refine Runs.bind (N := 1) (N' := sub.length * 6 + 4) (a := true) (s' := st life gens drawn os (L ++ dO es n :: (R ++ [dO sub m])) tk) ?_ ?_
 ·unfold isInstance
  refine Runs.bind (N := 1) (N' := 0) (runs_typeOf (g2 es n)) ?_
  show Runs p w n₀ ann (isSubtype (.type "dict") (.type "dict")) _ _ _ _
  rw [sub_dict]; exact Runs.pure
 dsimp only
 rw [if_pos rfl]
 refine Runs.bind (N := 1) (N' := sub.length * 6 + 3) (a := some (Value.builtin "dict.__iter__")) (s' := st life gens drawn os (L ++ dO es n :: (R ++ [dO sub m])) tk) ?_ ?_
 ·unfold specialOf
  refine Runs.bind (N := 1) (N' := 0) (runs_typeOf (g2 es n)) ?_
  show Runs p w n₀ ann (typeLookup (.type "dict") _) _ _ _ _
  rw [iter_dict]; exact Runs.pure
 refine Runs.bind (N := 0) (N' := sub.length * 6 + 3) (a := true) (s' := st life gens drawn os (L ++ dO es n :: (R ++ [dO sub m])) tk) ?_ ?_
 ·exact Runs.pure
 dsimp only
 rw [if_neg (by rw [hs]; exact Bool.false_ne_true)]
 refine Runs.bind (N := 1) (N' := sub.length * 6 + 2) (runs_entries (g1 es n)) ?_
 have hemp : es.toArray.isEmpty = false := by cases es with | nil => exact absurd rfl hne | cons a b => rfl
 rw [hemp, if_neg Bool.false_ne_true]
 refine Runs.bind (N := 1) (N' := sub.length * 6 + 1) (runs_entries (g2 es n)) ?_
 refine Runs.bind (N := 1) (N' := sub.length * 6) (runs_epoch (g2 es n)) ?_
 have key := runs_forIn (p := p) (w := w) (n₀ := n₀) (ann := ann) (β := PUnit)
  (fun (i : Nat) (__s : PUnit) => (do
            let __do_lift ← dictEntries (L.length + 1 + R.length)
            match __do_lift[i]? with
             | some e => do
              holding [e.key, e.val] (dictPut L.length e.hash e.key e.val)
              let __do_lift ← dictEpoch (L.length + 1 + R.length)
              if (__do_lift != m) = true then do
               unsupported "dict.changed-during-merge"
               pure (ForInStep.yield PUnit.unit)
               else pure (ForInStep.yield PUnit.unit)
             | x => do
              unsupported "dict.changed-during-merge"
              pure (ForInStep.yield PUnit.unit) : Sem (ForInStep PUnit)))
  (fun done => st life gens drawn os (L ++ dO (es ++ sub.take done.length) (n + done.length) :: (R ++ [dO sub m])) tk) (fun _ => PUnit.unit) 6 (List.range sub.length) [] ?_
 ·simp only [length_nil, take_zero, append_nil, nil_append, length_range, take_length, add_zero] at key
  have e : es.toArray.size = es.length := by simp
  have e' : sub.toArray.size = sub.length := by simp
  rw [e']
  exact Runs.mono (N := 0 + sub.length * 6) (Runs.bind (N := sub.length * 6) (N' := 0) key Runs.pure) (le_of_eq (zero_add _))
 ·intro a x b hab
  rw [nil_append] at hab
  have hlt : a.length < sub.length := by
   have := congrArg length hab
   simp at this; omega
  have hx : x = a.length := by
   have h1 : (List.range sub.length)[a.length]? = some x := by rw [hab]; simp
   rw [getElem?_range hlt] at h1
   exact (Option.some.inj h1).symm
  subst hx
  refine Runs.bind (N := 1) (N' := 5) (runs_entries (g2 _ _)) ?_
  have hget : sub.toArray[a.length]? = some sub[a.length] := by simp [hlt]
  rw [hget]
  dsimp only
  obtain ⟨t, ht⟩ := hk sub[a.length] (getElem_mem hlt)
  refine Runs.bind (N := 4) (N' := 1) (a := ()) (s' := st life gens drawn os (L ++ dO (es ++ sub.take (a.length + 1)) (n + (a.length + 1)) :: (R ++ [dO sub m])) tk) (Runs.holding ?_) ?_
  ·have htake : sub.take (a.length + 1) = sub.take a.length ++ [sub[a.length]] := List.take_succ_eq_append_getElem hlt
   have hno : ∀ e ∈ es ++ sub.take a.length, e.hash ≠ sub[a.length].hash := by
    intro e he q
    have hsplit : (es ++ sub) = (es ++ sub.take a.length) ++ sub[a.length] :: sub.drop (a.length + 1) := by
     rw [append_assoc, ← List.drop_eq_getElem_cons hlt, List.take_append_drop]
    rw [hsplit, map_append, map_cons] at hnd
    exact (nodup_append.mp hnd).2.2 _ (mem_map.mpr ⟨e, he, rfl⟩) _ mem_cons_self q
   have := runs_dictPut (p := p) (w := w) (n₀ := n₀) (ann := ann) (life := life) (gens := gens) (drawn := drawn) (os := os) (d := L.length) (L := L) (R := R ++ [dO sub m])
    (es := es ++ sub.take a.length) (n := n + a.length) (tk := tk) (i := sub[a.length].hash) (t := t) (v := sub[a.length].val) rfl hn (by rw [length_append, length_take]; exact le_trans (add_le_add_left (min_le_right _ _) _) hz) hno
   rw [htake, ← append_assoc]
   have hent : sub[a.length] = ⟨sub[a.length].hash, .int sub[a.length].hash t, sub[a.length].val⟩ := by
    rw [← ht]
   rw [ht]
   have e3 : [sub[a.length]] = [(⟨sub[a.length].hash, .int sub[a.length].hash t, sub[a.length].val⟩ : DictEntry)] := by rw [← hent]
   rw [e3]
   exact this
  ·refine Runs.bind (N := 1) (N' := 0) (runs_epoch (g2 _ _)) ?_
   have : (m != m) = false := by simp
   rw [this, if_neg Bool.false_ne_true]
   simp only [length_append, length_cons, length_nil, zero_add]
   exact Runs.pure
end
end
section
variable {c : List (Item × Pos)} {L : List Obj}
noncomputable def flushD (run : List (Sem Value × Sem Value)) (main : Option Addr) : Sem (Option Addr) :=
 if run.isEmpty = true then pure main
 else match main with
  | none => do
   let d ← subDict run
   pure (some d)
  | some d => do
   let sub ← holding [Value.ref d] (subDict run)
   (holding [Value.ref d, Value.ref sub] (mergeMapping d (Value.ref sub) false)).onRaise fun x => do
         let _ ← holding [Value.ref d, x] (runValue (Code.builtin "proto.let_go" { }))
         pure ()
   pure (some d)
noncomputable def dl (l : List (Item × Pos)) : List (Option (Sem Value) × Sem Value) := (trees l).map fun kv => (some kv.1, kv.2)
theorem dl_append (a b : List (Item × Pos)) : dl (a ++ b) = dl a ++ dl b := by simp [dl, trees]
noncomputable abbrev StD := Option Addr × List (Sem Value × Sem Value)
noncomputable def BodyD (body : Option (Sem Value) × Sem Value → StD → Sem (ForInStep StD)) : Prop :=
 ∀ k v main run, body (some k, v) (main, run) = if ((run ++ [(k, v)]).length == 17) = true then (flushD (run ++ [(k, v)]) main >>= fun main => pure (.yield (main, []))) else pure (.yield (main, run ++ [(k, v)]))
theorem display_eq (items : List (Option (Sem Value) × Sem Value)) : ∃ body, BodyD body ∧
 dictDisplay items = (forIn items ((none, []) : StD) body >>= fun s => flushD s.2 s.1 >>= fun r => match r with | some d => pure (Value.ref d) | none => newDict) :=
 ⟨_, fun _ _ _ _ => rfl, rfl⟩
section
variable {p : Program} {n₀ : Nat} {ann : Option Value} {w : World} {life : Life} {gens : Array GenState} {drawn : Drawn} {os : OsState}
variable {body : Option (Sem Value) × Sem Value → StD → Sem (ForInStep StD)}
theorem loop_short (hb : BodyD body) : ∀ (a : List (Item × Pos)) (rest) (main : Option Addr) (run : List (Sem Value × Sem Value)), run.length + a.length < 17 →
 forIn (dl a ++ rest) ((main, run) : StD) body = forIn rest ((main, run ++ trees a) : StD) body
 | [], rest, main, run, _ => by simp [dl, trees]
 | x :: a, rest, main, run, h => by
  rw [length_cons] at h
  show forIn ((some (key x.1.1), val x.1.2 x.2) :: (dl a ++ rest)) ((main, run) : StD) body = _
  rw [forIn_cons, hb]
  have hl : ((run ++ [(key x.1.1, val x.1.2 x.2)]).length == 17) = false := by simp; omega
  rw [hl, if_neg Bool.false_ne_true]
  show forIn (dl a ++ rest) ((main, run ++ [(key x.1.1, val x.1.2 x.2)]) : StD) body = _
  rw [loop_short hb a rest main _ (by simp; exact lt_of_le_of_lt (le_of_eq (succ_add _ _)) h)]
  simp [trees]
theorem runs_chunk (hb : BodyD body) {rest} {main m' : Option Addr} {s s' s'' : Shared} {N N' : Nat} {r : StD} (hc : c.length = 17)
 (h : Runs p w n₀ ann (flushD (trees c) main) s N m' s') (h' : Runs p w n₀ ann (forIn rest ((m', []) : StD) body) s' N' r s'') :
 Runs p w n₀ ann (forIn (dl c ++ rest) ((main, []) : StD) body) s (N' + N) r s'' := by
 obtain ⟨a, x, rfl⟩ : ∃ a x, c = a ++ [x] := ⟨c.dropLast, c.getLast (by intro e; rw [e] at hc; simp at hc), (List.dropLast_concat_getLast _).symm⟩
 have ha : a.length = 16 := by simpa using hc
 rw [dl_append, append_assoc, loop_short hb a _ main [] (by simp; exact lt_of_le_of_lt (le_of_eq (by with_reducible assumption)) (by decide)), nil_append]
 show Runs p w n₀ ann (forIn ((some (key x.1.1), val x.1.2 x.2) :: rest) ((main, trees a) : StD) body) _ _ _ _
 rw [forIn_cons, hb]
 have hl : ((trees a ++ [(key x.1.1, val x.1.2 x.2)]).length == 17) = true := by simp [trees, ha]
 rw [if_pos hl]
 have ht : trees a ++ [(key x.1.1, val x.1.2 x.2)] = trees (a ++ [x]) := by simp [trees]
 rw [ht]
 exact Runs.bind (N := N) (N' := N') (a := .yield (m', [])) (s' := s') (Runs.mono (N := 0 + N) (Runs.bind (N := N) (N' := 0) h Runs.pure) (le_of_eq (zero_add _))) h'
theorem ents_app (k : Nat) : ∀ (a b : List Item) (tk : Nat), ents k (a ++ b) tk = ents k a tk ++ ents k b (tk + k * a.length)
 | [], b, tk => by simp [ents]
 | (i, x) :: a, b, tk => by
  rw [cons_append, ents, ents_app k a b, ents, cons_append, length_cons, show tk + k + k * a.length = tk + k * (a.length + 1) by rw [Nat.mul_succ]; exact (add_right_comm _ _ _).trans (add_assoc _ _ _)]
theorem ents_keyed (k : Nat) : ∀ (l : List Item) (tk : Nat), ∀ e ∈ ents k l tk, isKeyed e
 | [], _, e, h => (nomatch h)
 | (i, x) :: r, tk, e, h => by
  rw [ents] at h
  rcases mem_cons.mp h with rfl | h
  ·exact ⟨tk, rfl⟩
  ·exact ents_keyed k r _ e h
noncomputable def its (l : List (Item × Pos)) : List Item := l.map (·.1)
theorem its_app (a b : List (Item × Pos)) : its (a ++ b) = its a ++ its b := by simp [its]
theorem its_len (a : List (Item × Pos)) : (its a).length = a.length := by simp [its]
theorem its_keys (a : List (Item × Pos)) : (its a).map (·.1) = a.map (·.1.1) := by simp [its]
theorem runs_flush {k : Nat} {R : List Obj} {es : List DictEntry} {n tk : Nat} (hc : c ≠ []) (hsub : ∀ L' tk', ble n₀ L'.length = true →
      Runs p w n₀ ann (subDict (trees c)) (st life gens drawn os L' tk') (c.length * 13 + 2) L'.length (st life gens drawn os (L' ++ [dO (ents k (its c) tk') c.length]) (tk' + 3 * c.length)))
 (hne : es ≠ []) (hnd : (es.map (·.hash) ++ c.map (·.1.1)).Nodup) (hz : es.length + c.length ≤ 1000000) (hn : ble n₀ L.length = true) (hL : 1 ≤ L.length) :
 Runs p w n₀ ann (flushD (trees c) (some L.length)) (st life gens drawn os (L ++ dO es n :: R) tk) (c.length * 19 + 7) (some L.length)
  (st life gens drawn os (L ++ dO (es ++ ents k (its c) tk) (n + c.length) :: (R ++ [dO (ents k (its c) tk) c.length])) (tk + 3 * c.length)) := by
 unfold flushD
 have hemp : (trees c).isEmpty = false := by cases c with | nil => exact absurd rfl hc | cons a b => rfl
 rw [hemp, if_neg Bool.false_ne_true]
 have hlen : (L ++ dO es n :: R).length = L.length + 1 + R.length := by simp; exact (succ_add _ _).symm
 have hn' : ble n₀ (L ++ dO es n :: R).length = true := Nat.ble_eq_true_of_le (le_trans (Nat.le_of_ble_eq_true hn) (by rw [hlen]; exact le_trans (le_succ _) (le_add_right _ _)))
 have h1 := hsub (L ++ dO es n :: R) tk hn'
 rw [hlen] at h1
 dsimp only
 refine Runs.mono (N := (c.length * 6 + 5) + (c.length * 13 + 2)) (Runs.bind (N := c.length * 13 + 2) (N' := c.length * 6 + 5) (Runs.holding h1) ?_) (le_of_eq ((Nat.add_add_add_comm _ 5 _ 2).trans (congrArg (· + 7) (mul_add _ 6 13).symm)))
 have h2 := runs_merge (p := p) (w := w) (n₀ := n₀) (ann := ann) (life := life) (gens := gens) (drawn := drawn) (os := os) (L := L) (R := R) (es := es) (sub := ents k (its c) tk) (n := n) (m := c.length) (tk := tk + 3 * c.length)
  hne (ents_keyed k _ _) (by rw [map_append, ents_hash, its_keys]; exact hnd) (by rw [ents_length, its_len]; exact hz) hn (by simp [sysModules]; exact ne_of_gt (lt_of_lt_of_le (Nat.succ_lt_succ hL) (le_add_right _ _)))
 rw [ents_length, its_len] at h2
 refine Runs.mono (N := 0 + (c.length * 6 + 5)) (Runs.bind (N := c.length * 6 + 5) (N' := 0) (a := ()) (Runs.onRaise (Runs.holding ?_)) Runs.pure) (le_of_eq (zero_add _))
 rw [append_assoc, cons_append]
 exact h2
noncomputable def subsOf : List (List (Item × Pos)) → Nat → List Obj
 | [], _ => []
 | c :: r, tk => dO (ents 3 (its c) tk) c.length :: subsOf r (tk + 3 * c.length)
theorem runs_loop (hb : BodyD body) {last : List (Item × Pos)} (hlast : last.length < 17) {L : List Obj} (hn : ble n₀ L.length = true) (hL : 1 ≤ L.length) :
 ∀ (cs : List (List (Item × Pos))) (es : List DictEntry) (n tk : Nat) (R : List Obj), (∀ c ∈ cs, c.length = 17) → es ≠ [] → (es.map (·.hash) ++ cs.flatten.map (·.1.1)).Nodup → (∀ k ∈ cs.flatten.map (·.1.1), 0 ≤ k ∧ k < 2 ^ 60) →
  es.length + cs.flatten.length ≤ 1000000 →
  Runs p w n₀ ann (forIn (dl (cs.flatten ++ last)) ((some L.length, []) : StD) body) (st life gens drawn os (L ++ dO es n :: R) tk) (cs.length * 330) (some L.length, trees last)
   (st life gens drawn os (L ++ dO (es ++ ents 3 (its cs.flatten) tk) (n + cs.flatten.length) :: (R ++ subsOf cs tk)) (tk + 3 * cs.flatten.length))
 | [], es, n, tk, R, _, _, _, _, _ => by
  have := loop_short hb last [] (some L.length) [] (by simpa using hlast)
  rw [append_nil, nil_append] at this
  rw [List.flatten_nil, nil_append, this]
  simp only [forIn_nil, its, map_nil, ents, append_nil, subsOf, length_nil]
  exact Runs.mono (N := 0) Runs.pure (zero_le _)
 | c :: cs, es, n, tk, R, h17, hne, hnd, hr, hz => by
  rw [flatten_cons] at hnd hr hz
  have hc : c.length = 17 := h17 c mem_cons_self
  have hok : okKeysH (c.map (·.1.1)) := by
   constructor
   ·rw [map_append] at hnd
    exact (nodup_append.mp (nodup_append.mp hnd).2.1).1
   ·intro k hk
    exact hr k (by rw [map_append]; exact mem_append_left _ hk)
  rw [flatten_cons, append_assoc, dl_append]
  refine Runs.mono (N := cs.length * 330 + (c.length * 19 + 7)) (runs_chunk hb hc (N := c.length * 19 + 7) (N' := cs.length * 330)
   (runs_flush (k := 3) (by intro e; rw [e] at hc; simp at hc) (fun L' tk' hn' => runs_subDict hok (by rw [(by with_reducible assumption : length _ = _)]; decide) (le_trans (le_of_eq (by with_reducible assumption)) (by decide)) hn') hne ?_ ?_ hn hL) ?_) ?_
  ·rw [map_append, ← append_assoc] at hnd
   exact (nodup_append.mp hnd).1
  ·rw [length_append] at hz; exact le_trans (add_le_add_left (le_add_right _ _) _) hz
  ·have ih := runs_loop hb hlast hn hL cs (es ++ ents 3 (its c) tk) (n + c.length) (tk + 3 * c.length) (R ++ [dO (ents 3 (its c) tk) c.length]) (fun c hc => h17 c (mem_cons_of_mem _ hc))
    (by intro e; exact hne (List.append_eq_nil_iff.mp e).1)
    (by rw [map_append, ents_hash, its_keys, append_assoc, ← map_append]; exact hnd)
    (fun k hk => hr k (by rw [map_append]; exact mem_append_right _ hk))
    (by rw [length_append, ents_length, its_len]; rw [length_append] at hz; exact le_trans (le_of_eq (add_assoc _ _ _)) hz)
   rw [its_app, ents_app, its_len, length_append]
   simp only [append_assoc, cons_append, nil_append] at ih
   rw [show n + (c.length + cs.flatten.length) = n + c.length + cs.flatten.length by exact (add_assoc _ _ _).symm, show tk + 3 * (c.length + cs.flatten.length) = tk + 3 * c.length + 3 * cs.flatten.length by exact (congrArg (tk + ·) (mul_add 3 _ _)).trans (add_assoc _ _ _).symm, subsOf]
   exact ih
  ·rw [length_cons, hc]; exact le_of_eq (succ_mul _ 330).symm
theorem runs_display {c0 last : List (Item × Pos)} {cs : List (List (Item × Pos))} {tk : Nat} (h0 : c0.length = 17) (h17 : ∀ c ∈ cs, c.length = 17) (hl1 : last ≠ []) (hl2 : last.length ≤ 15)
 (hok : okKeysH ((c0 ++ cs.flatten ++ last).map (·.1.1))) (hz : (c0 ++ cs.flatten ++ last).length ≤ 1000000) (hn : ble n₀ L.length = true) (hL : 1 ≤ L.length) :
 Runs p w n₀ ann (dictDisplay (dl (c0 ++ cs.flatten ++ last))) (st life gens drawn os L tk) (cs.length * 330 + 1000) (.ref L.length)
  (st life gens drawn os (L ++ dO (ents 3 (its (c0 ++ cs.flatten)) tk ++ ents 2 (its last) (tk + 3 * (c0 ++ cs.flatten).length)) (c0 ++ cs.flatten ++ last).length ::
   (subsOf cs (tk + 3 * c0.length) ++ [dO (ents 2 (its last) (tk + 3 * (c0 ++ cs.flatten).length)) last.length])) (tk + 3 * (c0 ++ cs.flatten ++ last).length)) := by
 obtain ⟨body, hb, e⟩ := display_eq (dl (c0 ++ cs.flatten ++ last))
 rw [e]
 have hnd := hok.1
 rw [map_append, map_append] at hnd
 have hin : ∀ (x : List (Item × Pos)), (∀ y ∈ x, y ∈ c0 ++ cs.flatten ++ last) → ∀ k ∈ x.map (·.1.1), 0 ≤ k ∧ k < 2 ^ 60 := fun x hx k hk => by
  obtain ⟨y, hy, rfl⟩ := mem_map.mp hk
  exact hok.2 _ (mem_map.mpr ⟨y, hx y hy, rfl⟩)
 have ok0 : okKeysH (c0.map (·.1.1)) := ⟨(nodup_append.mp (nodup_append.mp hnd).1).1, hin c0 (fun y hy => by simp [hy])⟩
 have okl : okKeysH (last.map (·.1.1)) := ⟨(nodup_append.mp hnd).2.1, hin last (fun y hy => by simp [hy])⟩
 have hzz := hz
 rw [length_append, length_append] at hzz
 refine Runs.mono (N := (last.length * 19 + 7) + (cs.length * 330 + (c0.length * 13 + 2))) (Runs.bind (N := cs.length * 330 + (c0.length * 13 + 2)) (N' := last.length * 19 + 7) (a := (some L.length, trees last))
  (s' := st life gens drawn os (L ++ dO (ents 3 (its (c0 ++ cs.flatten)) tk) (c0 ++ cs.flatten).length :: subsOf cs (tk + 3 * c0.length)) (tk + 3 * (c0 ++ cs.flatten).length)) ?_ ?_) (by rw [h0, Nat.add_left_comm]; exact add_le_add_left (le_trans (add_le_add_right (add_le_add_right (Nat.mul_le_mul_right 19 hl2) 7) _) (by decide)) _)
 ·rw [append_assoc, dl_append]
  refine runs_chunk hb h0 (N := c0.length * 13 + 2) (N' := cs.length * 330) (m' := some L.length) (s' := st life gens drawn os (L ++ [dO (ents 3 (its c0) tk) c0.length]) (tk + 3 * c0.length)) ?_ ?_
  ·unfold flushD
   have hemp : (trees c0).isEmpty = false := by cases c0 with | nil => simp at h0 | cons a b => rfl
   rw [hemp, if_neg Bool.false_ne_true]
   exact Runs.mono (N := 0 + (c0.length * 13 + 2)) (Runs.bind (N := c0.length * 13 + 2) (N' := 0) (runs_subDict ok0 (by rw [(by with_reducible assumption : length _ = _)]; decide) (le_trans (le_of_eq (by with_reducible assumption)) (by decide)) hn) Runs.pure) (by rw [(by with_reducible assumption : length _ = _)]; decide)
  ·have := runs_loop (p := p) (w := w) (ann := ann) (life := life) (gens := gens) (drawn := drawn) (os := os) hb (last := last) (lt_of_le_of_lt (by with_reducible assumption) (by decide)) hn hL cs (ents 3 (its c0) tk) c0.length (tk + 3 * c0.length) [] h17
    (by intro e; have := congrArg length e; rw [ents_length, its_len, length_nil] at this; omega)
    (by rw [ents_hash, its_keys]; exact (nodup_append.mp hnd).1)
    (hin _ (fun y hy => by simp only [mem_append]; exact .inl (.inr hy))) (by rw [ents_length, its_len]; exact le_trans (le_add_right _ _) hzz)
   rw [its_app, ents_app, its_len, length_append, show tk + 3 * (c0.length + cs.flatten.length) = tk + 3 * c0.length + 3 * cs.flatten.length by exact (congrArg (tk + ·) (mul_add 3 _ _)).trans (add_assoc _ _ _).symm]
   exact this
 ·dsimp only
  have hf := runs_flush (p := p) (w := w) (ann := ann) (life := life) (gens := gens) (drawn := drawn) (os := os) (k := 2) (c := last) (L := L) (R := subsOf cs (tk + 3 * c0.length)) (es := ents 3 (its (c0 ++ cs.flatten)) tk)
   (n := (c0 ++ cs.flatten).length) (tk := tk + 3 * (c0 ++ cs.flatten).length) hl1 (fun L' tk' hn' => Runs.mono (runs_subDictS okl hl2 hn') (le_succ _))
   (by intro e; have := congrArg length e; rw [ents_length, its_len, length_nil, length_append] at this; omega)
   (by rw [ents_hash, its_keys, map_append]; exact hnd) (by rw [ents_length, its_len, length_append]; with_reducible assumption) hn hL
  refine Runs.mono (N := 0 + (last.length * 19 + 7)) (Runs.bind (N := last.length * 19 + 7) (N' := 0) hf ?_) (le_of_eq (zero_add _))
  have hle : (c0 ++ cs.flatten ++ last).length = (c0 ++ cs.flatten).length + last.length := length_append
  rw [hle, show tk + 3 * ((c0 ++ cs.flatten).length + last.length) = tk + 3 * (c0 ++ cs.flatten).length + 3 * last.length by exact (congrArg (tk + ·) (mul_add 3 _ _)).trans (add_assoc _ _ _).symm]
  exact Runs.pure
end
end
noncomputable section
noncomputable abbrev pw : Program := PySem.Challenge.pw_ta0099_02
noncomputable def bd : List Stmt := behindTheImports pw
noncomputable def stm (k : Nat) : Stmt := bd.getD k (.Pass default)
noncomputable def fArgs : Stmt → Arguments
 | .FunctionDef _ a _ _ _ _ _ _ _ _ => a
 | _ => default
noncomputable def fBody : Stmt → List Stmt
 | .FunctionDef _ _ b _ _ _ _ _ _ _ => b
 | _ => []
noncomputable def fScope : Stmt → Scope
 | .FunctionDef _ _ _ _ _ _ s _ _ _ => s
 | _ => default
noncomputable def zipItems (q : Pos) : List (Option Expr) → List Expr → List (Item × Pos)
 | some (.Constant (.int i) _ _) :: ks, .Constant (.str x) _ _ :: vs => ((i, x), q) :: zipItems q ks vs
 | _, _ => []
noncomputable def dispItems : Stmt → List (Item × Pos)
 | .Assign _ (.Dict ks vs q) _ => zipItems q ks vs
 | _ => []
noncomputable def chunks17 : Nat → List (Item × Pos) → List (List (Item × Pos))
 | 0, _ => []
 | n + 1, l => l.take 17 :: chunks17 n (l.drop 17)
noncomputable def itemsB : List (Item × Pos) := dispItems (stm 15)
noncomputable def c0B : List (Item × Pos) := itemsB.take 17
noncomputable def csB : List (List (Item × Pos)) := chunks17 37 (itemsB.drop 17)
noncomputable def lastB : List (Item × Pos) := itemsB.drop 646
noncomputable def mainO : Obj := dO (ents 3 (its (c0B ++ csB.flatten)) 380 ++ ents 2 (its lastB) (380 + 3 * (c0B ++ csB.flatten).length)) (c0B ++ csB.flatten ++ lastB).length
noncomputable def subsO : List Obj := subsOf csB (380 + 3 * c0B.length) ++ [dO (ents 2 (its lastB) (380 + 3 * (c0B ++ csB.flatten).length)) lastB.length]
noncomputable def mainD (_ : Params) : Obj := mainO
noncomputable def subD (k : Nat) (_ : Params) : Obj := subsO.getD k default
noncomputable def life0 : Life := {}
noncomputable def drawn0 : Drawn := {}
noncomputable abbrev AN : Option Value := some (.ref 6)
noncomputable def benv : Env := { scope := pw.main.scope, locals := mainNs, globals := mainNs, cells := [], code := (.ref 13), frame := some 14 }
noncomputable def fq : Pos := ⟨0, 0, 0, 0⟩
noncomputable def ppos : Pos := ⟨0, 0, 0, 0⟩
noncomputable def bpos : Pos := ⟨0, 0, 0, 0⟩
noncomputable def oA_11 (P : Params) : Obj := ⟨(.type "tuple"), none, (.seq #[] 0), #[]⟩
noncomputable def oA_12 (P : Params) : Obj := ⟨.none, none, (.fields #[]), #[]⟩
noncomputable def oA_13 (P : Params) : Obj := ⟨(.type "code"), none, (.fields #[(.str (ofString "<module>") 182), (.str (ofString "<module>") 183), (.str (ofString "/claim/cut.py") 184), (.int (1) 0), (.int (0) 0), (.int (0) 0), (.int (0) 0), (.int (0) 0), (.ref 11), (.bool false), (.int (181) 0), (.ref 12), .none, .none, .none, .none, (.int (185) 0), (.int (1) 0), (.str (ofString "/claim/cut.py") 186)]), #[]⟩
noncomputable def oA_14 (P : Params) : Obj := ⟨(.type "frame"), none, .plain, #[some (.ref 13), some (.ref 3), some (.ref 3), none, some (.str (ofString "__main__") 164), none, some (.ref 0)]⟩
noncomputable def TA (P : Params) : BT := (.node (boot_o_0 P) (.node (boot_o_1 P) (.node (boot_o_3 P) (.node (boot_o_7 P) .nil .nil) (.node (oA_11 P) .nil .nil)) (.node (boot_o_5 P) (.node (boot_o_9 P) .nil .nil) (.node (oA_13 P) .nil .nil))) (.node (boot_o_2 P) (.node (boot_o_4 P) (.node (boot_o_8 P) .nil .nil) (.node (oA_12 P) .nil .nil)) (.node (boot_o_6 P) (.node (boot_o_10 P) .nil .nil) (.node (oA_14 P) .nil .nil))))
noncomputable def SA (w : World) (os : OsState) : SharedT := ⟨TA w.params, 15, life0, #[], drawn0, 187, os⟩
noncomputable def oB_3 (P : Params) : Obj := ⟨(.type "dict"), none, (.dict #[⟨PyData.keyHash P (ofString "__name__"), (.str (ofString "__name__") 165), (.str (ofString "cpy313.dis") 243)⟩, ⟨PyData.keyHash P (ofString "__doc__"), (.str (ofString "__doc__") 166), .none⟩, ⟨PyData.keyHash P (ofString "__package__"), (.str (ofString "__package__") 167), .none⟩, ⟨PyData.keyHash P (ofString "__loader__"), (.str (ofString "__loader__") 168), (.builtin "__main__.__loader__#opaque")⟩, ⟨PyData.keyHash P (ofString "__spec__"), (.str (ofString "__spec__") 169), .none⟩, ⟨PyData.keyHash P (ofString "__annotations__"), (.str (ofString "__annotations__") 170), (.ref 6)⟩, ⟨PyData.keyHash P (ofString "__builtins__"), (.str (ofString "__builtins__") 171), (.ref 4)⟩, ⟨PyData.keyHash P (ofString "__file__"), (.str (ofString "__file__") 173), (.str (ofString "/claim/cut.py") 172)⟩, ⟨PyData.keyHash P (ofString "__cached__"), (.str (ofString "__cached__") 174), .none⟩, ⟨PyData.keyHash P (ofString "insort_right"), (.str (ofString "insort_right") 201), (.ref 23)⟩, ⟨PyData.keyHash P (ofString "bisect_right"), (.str (ofString "bisect_right") 215), (.ref 32)⟩, ⟨PyData.keyHash P (ofString "insort_left"), (.str (ofString "insort_left") 228), (.ref 41)⟩, ⟨PyData.keyHash P (ofString "bisect_left"), (.str (ofString "bisect_left") 242), (.ref 50)⟩] 13), #[]⟩
noncomputable def oB_12 (P : Params) : Obj := ⟨.none, none, (.fields #[(.int (2) 0), (.int (0) 0), (.ref 22), (.int (8) 0), (.int (0) 0), (.ref 31), (.int (28) 0), (.int (0) 0), (.ref 40), (.int (34) 0), (.int (0) 0), (.ref 49)]), #[]⟩
noncomputable def oB_15 (P : Params) : Obj := ⟨(.type "tuple"), none, (.seq #[(.int (0) 189), .none] 0), #[]⟩
noncomputable def oB_16 (P : Params) : Obj := ⟨(.type "dict"), none, (.dict #[⟨PyData.keyHash P (ofString "key"), (.str (ofString "key") 190), .none⟩] 1), #[]⟩
noncomputable def oB_17 (P : Params) : Obj := ⟨(.type "tuple"), none, (.seq #[] 0), #[]⟩
noncomputable def oB_18 (P : Params) : Obj := ⟨.none, none, (.fields #[]), #[]⟩
noncomputable def oB_19 (P : Params) : Obj := ⟨(.type "tuple"), none, (.seq #[(.str (ofString "a") 194), (.str (ofString "x") 195), (.str (ofString "lo") 196), (.str (ofString "hi") 197), (.str (ofString "key") 198)] 0), #[]⟩
noncomputable def oB_20 (P : Params) : Obj := ⟨(.type "tuple"), none, (.seq #[] 0), #[]⟩
noncomputable def oB_21 (P : Params) : Obj := ⟨.none, none, (.func ⟨ofString "insort_right", ofString "insort_right", fArgs (stm 1), .stmts (fBody (stm 1)), fScope (stm 1), 0, [], .none, .none, .none, .none, none, .none, .none, 0⟩), #[]⟩
noncomputable def oB_22 (P : Params) : Obj := ⟨(.type "code"), none, (.fields #[(.str (ofString "insort_right") 191), (.str (ofString "insort_right") 192), (.str (ofString "/claim/cut.py") 193), (.int (2) 0), (.int (4) 0), (.int (0) 0), (.int (1) 0), (.int (3) 0), (.ref 17), (.bool true), (.int (181) 0), (.ref 18), .none, (.ref 19), (.ref 20), (.ref 21), (.int (199) 0), (.int (2) 0), (.str (ofString "/claim/cut.py") 200)]), #[]⟩
noncomputable def oB_23 (P : Params) : Obj := ⟨(.type "function"), none, (.func ⟨ofString "insort_right", ofString "insort_right", fArgs (stm 1), .stmts (fBody (stm 1)), fScope (stm 1), 3, [], (.ref 15), (.ref 16), .none, (.str (ofString "cpy313.bisect") 187), none, (.ref 22), .none, 0⟩), #[]⟩
noncomputable def oB_24 (P : Params) : Obj := ⟨(.type "tuple"), none, (.seq #[(.int (0) 202), .none] 0), #[]⟩
noncomputable def oB_25 (P : Params) : Obj := ⟨(.type "dict"), none, (.dict #[⟨PyData.keyHash P (ofString "key"), (.str (ofString "key") 203), .none⟩] 1), #[]⟩
noncomputable def oB_26 (P : Params) : Obj := ⟨(.type "tuple"), none, (.seq #[] 0), #[]⟩
noncomputable def oB_27 (P : Params) : Obj := ⟨.none, none, (.fields #[]), #[]⟩
noncomputable def oB_28 (P : Params) : Obj := ⟨(.type "tuple"), none, (.seq #[(.str (ofString "a") 207), (.str (ofString "x") 208), (.str (ofString "lo") 209), (.str (ofString "hi") 210), (.str (ofString "key") 211), (.str (ofString "mid") 212)] 0), #[]⟩
noncomputable def oB_29 (P : Params) : Obj := ⟨(.type "tuple"), none, (.seq #[] 0), #[]⟩
noncomputable def oB_30 (P : Params) : Obj := ⟨.none, none, (.func ⟨ofString "bisect_right", ofString "bisect_right", fArgs (stm 2), .stmts (fBody (stm 2)), fScope (stm 2), 0, [], .none, .none, .none, .none, none, .none, .none, 0⟩), #[]⟩
noncomputable def oB_31 (P : Params) : Obj := ⟨(.type "code"), none, (.fields #[(.str (ofString "bisect_right") 204), (.str (ofString "bisect_right") 205), (.str (ofString "/claim/cut.py") 206), (.int (8) 0), (.int (4) 0), (.int (0) 0), (.int (1) 0), (.int (3) 0), (.ref 26), (.bool true), (.int (181) 0), (.ref 27), .none, (.ref 28), (.ref 29), (.ref 30), (.int (213) 0), (.int (8) 0), (.str (ofString "/claim/cut.py") 214)]), #[]⟩
noncomputable def oB_32 (P : Params) : Obj := ⟨(.type "function"), none, (.func ⟨ofString "bisect_right", ofString "bisect_right", fArgs (stm 2), .stmts (fBody (stm 2)), fScope (stm 2), 3, [], (.ref 24), (.ref 25), .none, (.str (ofString "cpy313.bisect") 187), none, (.ref 31), .none, 0⟩), #[]⟩
noncomputable def oB_33 (P : Params) : Obj := ⟨(.type "tuple"), none, (.seq #[(.int (0) 216), .none] 0), #[]⟩
noncomputable def oB_34 (P : Params) : Obj := ⟨(.type "dict"), none, (.dict #[⟨PyData.keyHash P (ofString "key"), (.str (ofString "key") 217), .none⟩] 1), #[]⟩
noncomputable def oB_35 (P : Params) : Obj := ⟨(.type "tuple"), none, (.seq #[] 0), #[]⟩
noncomputable def oB_36 (P : Params) : Obj := ⟨.none, none, (.fields #[]), #[]⟩
noncomputable def oB_37 (P : Params) : Obj := ⟨(.type "tuple"), none, (.seq #[(.str (ofString "a") 221), (.str (ofString "x") 222), (.str (ofString "lo") 223), (.str (ofString "hi") 224), (.str (ofString "key") 225)] 0), #[]⟩
noncomputable def oB_38 (P : Params) : Obj := ⟨(.type "tuple"), none, (.seq #[] 0), #[]⟩
noncomputable def oB_39 (P : Params) : Obj := ⟨.none, none, (.func ⟨ofString "insort_left", ofString "insort_left", fArgs (stm 3), .stmts (fBody (stm 3)), fScope (stm 3), 0, [], .none, .none, .none, .none, none, .none, .none, 0⟩), #[]⟩
noncomputable def oB_40 (P : Params) : Obj := ⟨(.type "code"), none, (.fields #[(.str (ofString "insort_left") 218), (.str (ofString "insort_left") 219), (.str (ofString "/claim/cut.py") 220), (.int (28) 0), (.int (4) 0), (.int (0) 0), (.int (1) 0), (.int (3) 0), (.ref 35), (.bool true), (.int (181) 0), (.ref 36), .none, (.ref 37), (.ref 38), (.ref 39), (.int (226) 0), (.int (28) 0), (.str (ofString "/claim/cut.py") 227)]), #[]⟩
noncomputable def oB_41 (P : Params) : Obj := ⟨(.type "function"), none, (.func ⟨ofString "insort_left", ofString "insort_left", fArgs (stm 3), .stmts (fBody (stm 3)), fScope (stm 3), 3, [], (.ref 33), (.ref 34), .none, (.str (ofString "cpy313.bisect") 187), none, (.ref 40), .none, 0⟩), #[]⟩
noncomputable def oB_42 (P : Params) : Obj := ⟨(.type "tuple"), none, (.seq #[(.int (0) 229), .none] 0), #[]⟩
noncomputable def oB_43 (P : Params) : Obj := ⟨(.type "dict"), none, (.dict #[⟨PyData.keyHash P (ofString "key"), (.str (ofString "key") 230), .none⟩] 1), #[]⟩
noncomputable def oB_44 (P : Params) : Obj := ⟨(.type "tuple"), none, (.seq #[] 0), #[]⟩
noncomputable def oB_45 (P : Params) : Obj := ⟨.none, none, (.fields #[]), #[]⟩
noncomputable def oB_46 (P : Params) : Obj := ⟨(.type "tuple"), none, (.seq #[(.str (ofString "a") 234), (.str (ofString "x") 235), (.str (ofString "lo") 236), (.str (ofString "hi") 237), (.str (ofString "key") 238), (.str (ofString "mid") 239)] 0), #[]⟩
noncomputable def oB_47 (P : Params) : Obj := ⟨(.type "tuple"), none, (.seq #[] 0), #[]⟩
noncomputable def oB_48 (P : Params) : Obj := ⟨.none, none, (.func ⟨ofString "bisect_left", ofString "bisect_left", fArgs (stm 4), .stmts (fBody (stm 4)), fScope (stm 4), 0, [], .none, .none, .none, .none, none, .none, .none, 0⟩), #[]⟩
noncomputable def oB_49 (P : Params) : Obj := ⟨(.type "code"), none, (.fields #[(.str (ofString "bisect_left") 231), (.str (ofString "bisect_left") 232), (.str (ofString "/claim/cut.py") 233), (.int (34) 0), (.int (4) 0), (.int (0) 0), (.int (1) 0), (.int (3) 0), (.ref 44), (.bool true), (.int (181) 0), (.ref 45), .none, (.ref 46), (.ref 47), (.ref 48), (.int (240) 0), (.int (34) 0), (.str (ofString "/claim/cut.py") 241)]), #[]⟩
noncomputable def oB_50 (P : Params) : Obj := ⟨(.type "function"), none, (.func ⟨ofString "bisect_left", ofString "bisect_left", fArgs (stm 4), .stmts (fBody (stm 4)), fScope (stm 4), 3, [], (.ref 42), (.ref 43), .none, (.str (ofString "cpy313.bisect") 187), none, (.ref 49), .none, 0⟩), #[]⟩
noncomputable def TB (P : Params) : BT := (.node (boot_o_0 P) (.node (boot_o_1 P) (.node (oB_3 P) (.node (boot_o_7 P) (.node (oB_15 P) (.node (oB_31 P) .nil .nil) (.node (oB_47 P) .nil .nil)) (.node (oB_23 P) (.node (oB_39 P) .nil .nil) .nil)) (.node (oA_11 P) (.node (oB_19 P) (.node (oB_35 P) .nil .nil) .nil) (.node (oB_27 P) (.node (oB_43 P) .nil .nil) .nil))) (.node (boot_o_5 P) (.node (boot_o_9 P) (.node (oB_17 P) (.node (oB_33 P) .nil .nil) (.node (oB_49 P) .nil .nil)) (.node (oB_25 P) (.node (oB_41 P) .nil .nil) .nil)) (.node (oA_13 P) (.node (oB_21 P) (.node (oB_37 P) .nil .nil) .nil) (.node (oB_29 P) (.node (oB_45 P) .nil .nil) .nil)))) (.node (boot_o_2 P) (.node (boot_o_4 P) (.node (boot_o_8 P) (.node (oB_16 P) (.node (oB_32 P) .nil .nil) (.node (oB_48 P) .nil .nil)) (.node (oB_24 P) (.node (oB_40 P) .nil .nil) .nil)) (.node (oB_12 P) (.node (oB_20 P) (.node (oB_36 P) .nil .nil) .nil) (.node (oB_28 P) (.node (oB_44 P) .nil .nil) .nil))) (.node (boot_o_6 P) (.node (boot_o_10 P) (.node (oB_18 P) (.node (oB_34 P) .nil .nil) (.node (oB_50 P) .nil .nil)) (.node (oB_26 P) (.node (oB_42 P) .nil .nil) .nil)) (.node (oA_14 P) (.node (oB_22 P) (.node (oB_38 P) .nil .nil) .nil) (.node (oB_30 P) (.node (oB_46 P) .nil .nil) .nil)))))
noncomputable def SB (w : World) (os : OsState) : SharedT := ⟨TB w.params, 51, life0, #[], drawn0, 245, os⟩
noncomputable def qB : Pos := ⟨54, 0, 54, 8⟩
noncomputable def oC_3 (P : Params) : Obj := ⟨(.type "dict"), none, (.dict #[⟨PyData.keyHash P (ofString "__name__"), (.str (ofString "__name__") 165), (.str (ofString "cpy313.stringprep") 311)⟩, ⟨PyData.keyHash P (ofString "__doc__"), (.str (ofString "__doc__") 166), .none⟩, ⟨PyData.keyHash P (ofString "__package__"), (.str (ofString "__package__") 167), .none⟩, ⟨PyData.keyHash P (ofString "__loader__"), (.str (ofString "__loader__") 168), (.builtin "__main__.__loader__#opaque")⟩, ⟨PyData.keyHash P (ofString "__spec__"), (.str (ofString "__spec__") 169), .none⟩, ⟨PyData.keyHash P (ofString "__annotations__"), (.str (ofString "__annotations__") 170), (.ref 6)⟩, ⟨PyData.keyHash P (ofString "__builtins__"), (.str (ofString "__builtins__") 171), (.ref 4)⟩, ⟨PyData.keyHash P (ofString "__file__"), (.str (ofString "__file__") 173), (.str (ofString "/claim/cut.py") 172)⟩, ⟨PyData.keyHash P (ofString "__cached__"), (.str (ofString "__cached__") 174), .none⟩, ⟨PyData.keyHash P (ofString "insort_right"), (.str (ofString "insort_right") 201), (.ref 23)⟩, ⟨PyData.keyHash P (ofString "bisect_right"), (.str (ofString "bisect_right") 215), (.ref 32)⟩, ⟨PyData.keyHash P (ofString "insort_left"), (.str (ofString "insort_left") 228), (.ref 41)⟩, ⟨PyData.keyHash P (ofString "bisect_left"), (.str (ofString "bisect_left") 242), (.ref 50)⟩, ⟨PyData.keyHash P (ofString "COMPILER_FLAG_NAMES"), (.str (ofString "COMPILER_FLAG_NAMES") 275), (.ref 51)⟩, ⟨PyData.keyHash P (ofString "pretty_flags"), (.str (ofString "pretty_flags") 285), (.ref 58)⟩, ⟨PyData.keyHash P (ofString "_parse_varint"), (.str (ofString "_parse_varint") 294), (.ref 65)⟩, ⟨PyData.keyHash P (ofString "ELLIPSIS_MARKER"), (.str (ofString "ELLIPSIS_MARKER") 298), (.str (ofString "...") 297)⟩, ⟨PyData.keyHash P (ofString "_ellipsis_match"), (.str (ofString "_ellipsis_match") 310), (.ref 72)⟩, ⟨PyData.keyHash P (ofString "b1_set"), (.str (ofString "b1_set") 372), (.ref 80)⟩, ⟨PyData.keyHash P (ofString "in_table_b1"), (.str (ofString "in_table_b1") 379), (.ref 90)⟩] 20), #[]⟩
noncomputable def oC_12 (P : Params) : Obj := ⟨.none, none, (.fields #[(.int (2) 0), (.int (0) 0), (.ref 22), (.int (8) 0), (.int (0) 0), (.ref 31), (.int (28) 0), (.int (0) 0), (.ref 40), (.int (34) 0), (.int (0) 0), (.ref 49), (.int (56) 0), (.int (0) 0), (.ref 57), (.int (68) 0), (.int (0) 0), (.ref 64), (.int (78) 0), (.int (0) 0), (.ref 71), (.int (108) 0), (.int (0) 0), (.ref 89)]), #[]⟩
noncomputable def oC_51 (P : Params) : Obj := ⟨(.type "dict"), none, (.dict #[⟨(1), (.int (1) 245), (.str (ofString "OPTIMIZED") 246)⟩, ⟨(2), (.int (2) 247), (.str (ofString "NEWLOCALS") 248)⟩, ⟨(4), (.int (4) 249), (.str (ofString "VARARGS") 250)⟩, ⟨(8), (.int (8) 251), (.str (ofString "VARKEYWORDS") 252)⟩, ⟨(16), (.int (16) 253), (.str (ofString "NESTED") 254)⟩, ⟨(32), (.int (32) 255), (.str (ofString "GENERATOR") 256)⟩, ⟨(64), (.int (64) 257), (.str (ofString "NOFREE") 258)⟩, ⟨(128), (.int (128) 259), (.str (ofString "COROUTINE") 260)⟩, ⟨(256), (.int (256) 261), (.str (ofString "ITERABLE_COROUTINE") 262)⟩, ⟨(512), (.int (512) 263), (.str (ofString "ASYNC_GENERATOR") 264)⟩] 10), #[]⟩
noncomputable def oC_52 (P : Params) : Obj := ⟨(.type "tuple"), none, (.seq #[] 0), #[]⟩
noncomputable def oC_53 (P : Params) : Obj := ⟨.none, none, (.fields #[]), #[]⟩
noncomputable def oC_54 (P : Params) : Obj := ⟨(.type "tuple"), none, (.seq #[(.str (ofString "flags") 279), (.str (ofString "names") 280), (.str (ofString "i") 281), (.str (ofString "flag") 282)] 0), #[]⟩
noncomputable def oC_55 (P : Params) : Obj := ⟨(.type "tuple"), none, (.seq #[] 0), #[]⟩
noncomputable def oC_56 (P : Params) : Obj := ⟨.none, none, (.func ⟨ofString "pretty_flags", ofString "pretty_flags", fArgs (stm 7), .stmts (fBody (stm 7)), fScope (stm 7), 0, [], .none, .none, .none, .none, none, .none, .none, 0⟩), #[]⟩
noncomputable def oC_57 (P : Params) : Obj := ⟨(.type "code"), none, (.fields #[(.str (ofString "pretty_flags") 276), (.str (ofString "pretty_flags") 277), (.str (ofString "/claim/cut.py") 278), (.int (56) 0), (.int (1) 0), (.int (0) 0), (.int (0) 0), (.int (3) 0), (.ref 52), (.bool true), (.int (181) 0), (.ref 53), .none, (.ref 54), (.ref 55), (.ref 56), (.int (283) 0), (.int (56) 0), (.str (ofString "/claim/cut.py") 284)]), #[]⟩
noncomputable def oC_58 (P : Params) : Obj := ⟨(.type "function"), none, (.func ⟨ofString "pretty_flags", ofString "pretty_flags", fArgs (stm 7), .stmts (fBody (stm 7)), fScope (stm 7), 3, [], .none, .none, .none, (.str (ofString "cpy313.dis") 243), none, (.ref 57), .none, 0⟩), #[]⟩
noncomputable def oC_59 (P : Params) : Obj := ⟨(.type "tuple"), none, (.seq #[] 0), #[]⟩
noncomputable def oC_60 (P : Params) : Obj := ⟨.none, none, (.fields #[]), #[]⟩
noncomputable def oC_61 (P : Params) : Obj := ⟨(.type "tuple"), none, (.seq #[(.str (ofString "iterator") 289), (.str (ofString "b") 290), (.str (ofString "val") 291)] 0), #[]⟩
noncomputable def oC_62 (P : Params) : Obj := ⟨(.type "tuple"), none, (.seq #[] 0), #[]⟩
noncomputable def oC_63 (P : Params) : Obj := ⟨.none, none, (.func ⟨ofString "_parse_varint", ofString "_parse_varint", fArgs (stm 8), .stmts (fBody (stm 8)), fScope (stm 8), 0, [], .none, .none, .none, .none, none, .none, .none, 0⟩), #[]⟩
noncomputable def oC_64 (P : Params) : Obj := ⟨(.type "code"), none, (.fields #[(.str (ofString "_parse_varint") 286), (.str (ofString "_parse_varint") 287), (.str (ofString "/claim/cut.py") 288), (.int (68) 0), (.int (1) 0), (.int (0) 0), (.int (0) 0), (.int (3) 0), (.ref 59), (.bool true), (.int (181) 0), (.ref 60), .none, (.ref 61), (.ref 62), (.ref 63), (.int (292) 0), (.int (68) 0), (.str (ofString "/claim/cut.py") 293)]), #[]⟩
noncomputable def oC_65 (P : Params) : Obj := ⟨(.type "function"), none, (.func ⟨ofString "_parse_varint", ofString "_parse_varint", fArgs (stm 8), .stmts (fBody (stm 8)), fScope (stm 8), 3, [], .none, .none, .none, (.str (ofString "cpy313.dis") 243), none, (.ref 64), .none, 0⟩), #[]⟩
noncomputable def oC_66 (P : Params) : Obj := ⟨(.type "tuple"), none, (.seq #[] 0), #[]⟩
noncomputable def oC_67 (P : Params) : Obj := ⟨.none, none, (.fields #[]), #[]⟩
noncomputable def oC_68 (P : Params) : Obj := ⟨(.type "tuple"), none, (.seq #[(.str (ofString "want") 302), (.str (ofString "got") 303), (.str (ofString "ws") 304), (.str (ofString "startpos") 305), (.str (ofString "endpos") 306), (.str (ofString "w") 307)] 0), #[]⟩
noncomputable def oC_69 (P : Params) : Obj := ⟨(.type "tuple"), none, (.seq #[] 0), #[]⟩
noncomputable def oC_70 (P : Params) : Obj := ⟨.none, none, (.func ⟨ofString "_ellipsis_match", ofString "_ellipsis_match", fArgs (stm 11), .stmts (fBody (stm 11)), fScope (stm 11), 0, [], .none, .none, .none, .none, none, .none, .none, 0⟩), #[]⟩
noncomputable def oC_71 (P : Params) : Obj := ⟨(.type "code"), none, (.fields #[(.str (ofString "_ellipsis_match") 299), (.str (ofString "_ellipsis_match") 300), (.str (ofString "/claim/cut.py") 301), (.int (78) 0), (.int (2) 0), (.int (0) 0), (.int (0) 0), (.int (3) 0), (.ref 66), (.bool true), (.int (181) 0), (.ref 67), .none, (.ref 68), (.ref 69), (.ref 70), (.int (308) 0), (.int (78) 0), (.str (ofString "/claim/cut.py") 309)]), #[]⟩
noncomputable def oC_72 (P : Params) : Obj := ⟨(.type "function"), none, (.func ⟨ofString "_ellipsis_match", ofString "_ellipsis_match", fArgs (stm 11), .stmts (fBody (stm 11)), fScope (stm 11), 3, [], .none, .none, .none, (.str (ofString "cpy313.doctest") 295), none, (.ref 71), .none, 0⟩), #[]⟩
noncomputable def oC_73 (P : Params) : Obj := ⟨(.type "list"), none, (.seq #[(.int (173) 313), (.int (847) 314), (.int (6150) 315), (.int (6155) 316), (.int (6156) 317), (.int (6157) 318), (.int (8203) 319), (.int (8204) 320), (.int (8205) 321), (.int (8288) 322), (.int (65279) 323)] 0), #[]⟩
noncomputable def oC_74 (P : Params) : Obj := ⟨(.type "range"), none, (.fields #[(.int (65024) 324), (.int (65040) 325), (.int (1) 326)]), #[]⟩
noncomputable def oC_75 (P : Params) : Obj := ⟨(.type "list"), none, (.seq #[(.int (65024) 329), (.int (65025) 330), (.int (65026) 331), (.int (65027) 332), (.int (65028) 333), (.int (65029) 334), (.int (65030) 335), (.int (65031) 336), (.int (65032) 337), (.int (65033) 338), (.int (65034) 339), (.int (65035) 340), (.int (65036) 341), (.int (65037) 342), (.int (65038) 343), (.int (65039) 344)] 18), #[]⟩
noncomputable def oC_76 (P : Params) : Obj := ⟨(.type "range_iterator"), none, (.fields #[(.int (65040) 0), (.int (0) 0), (.int (1) 0)]), #[]⟩
noncomputable def oC_77 (P : Params) : Obj := ⟨(.type "tuple"), none, (.seq #[] 0), #[]⟩
noncomputable def oC_78 (P : Params) : Obj := ⟨(.type "StopIteration"), none, (.fields #[(.ref 77), .none, .none, .none, (.bool false), .none]), #[]⟩
noncomputable def oC_79 (P : Params) : Obj := ⟨(.type "list"), none, (.seq #[(.int (173) 313), (.int (847) 314), (.int (6150) 315), (.int (6155) 316), (.int (6156) 317), (.int (6157) 318), (.int (8203) 319), (.int (8204) 320), (.int (8205) 321), (.int (8288) 322), (.int (65279) 323), (.int (65024) 329), (.int (65025) 330), (.int (65026) 331), (.int (65027) 332), (.int (65028) 333), (.int (65029) 334), (.int (65030) 335), (.int (65031) 336), (.int (65032) 337), (.int (65033) 338), (.int (65034) 339), (.int (65035) 340), (.int (65036) 341), (.int (65037) 342), (.int (65038) 343), (.int (65039) 344)] 0), #[]⟩
noncomputable def oC_80 (P : Params) : Obj := ⟨(.type "set"), none, (.set #[((65024), (.int (65024) 329)), ((65025), (.int (65025) 330)), ((65026), (.int (65026) 331)), ((65027), (.int (65027) 332)), ((65028), (.int (65028) 333)), ((65029), (.int (65029) 334)), ((6150), (.int (6150) 315)), ((65030), (.int (65030) 335)), ((65031), (.int (65031) 336)), ((65032), (.int (65032) 337)), ((65033), (.int (65033) 338)), ((6155), (.int (6155) 316)), ((6156), (.int (6156) 317)), ((6157), (.int (6157) 318)), ((8203), (.int (8203) 319)), ((8204), (.int (8204) 320)), ((8205), (.int (8205) 321)), ((65034), (.int (65034) 339)), ((65035), (.int (65035) 340)), ((65036), (.int (65036) 341)), ((65037), (.int (65037) 342)), ((65038), (.int (65038) 343)), ((65039), (.int (65039) 344)), ((173), (.int (173) 313)), ((847), (.int (847) 314)), ((8288), (.int (8288) 322)), ((65279), (.int (65279) 323))] 29 ⟨127, #[0, 1, 2, 3, 4, 5, 6, 7, 8, 9, 10, 11, 12, 13, 14, 15, 16, 17, 18, 19, 20, 21, 22, 45, 79, 96, 127], #[], 0, !P.followText "set-order", 2, true⟩), #[]⟩
noncomputable def oC_81 (P : Params) : Obj := ⟨(.type "list_iterator"), none, (.fields #[.none, (.int (27) 0)]), #[]⟩
noncomputable def oC_82 (P : Params) : Obj := ⟨(.type "tuple"), none, (.seq #[] 0), #[]⟩
noncomputable def oC_83 (P : Params) : Obj := ⟨(.type "StopIteration"), none, (.fields #[(.ref 82), .none, .none, .none, (.bool false), .none]), #[]⟩
noncomputable def oC_84 (P : Params) : Obj := ⟨(.type "tuple"), none, (.seq #[] 0), #[]⟩
noncomputable def oC_85 (P : Params) : Obj := ⟨.none, none, (.fields #[]), #[]⟩
noncomputable def oC_86 (P : Params) : Obj := ⟨(.type "tuple"), none, (.seq #[(.str (ofString "code") 376)] 0), #[]⟩
noncomputable def oC_87 (P : Params) : Obj := ⟨(.type "tuple"), none, (.seq #[] 0), #[]⟩
noncomputable def oC_88 (P : Params) : Obj := ⟨.none, none, (.func ⟨ofString "in_table_b1", ofString "in_table_b1", fArgs (stm 14), .stmts (fBody (stm 14)), fScope (stm 14), 0, [], .none, .none, .none, .none, none, .none, .none, 0⟩), #[]⟩
noncomputable def oC_89 (P : Params) : Obj := ⟨(.type "code"), none, (.fields #[(.str (ofString "in_table_b1") 373), (.str (ofString "in_table_b1") 374), (.str (ofString "/claim/cut.py") 375), (.int (108) 0), (.int (1) 0), (.int (0) 0), (.int (0) 0), (.int (3) 0), (.ref 84), (.bool true), (.int (181) 0), (.ref 85), .none, (.ref 86), (.ref 87), (.ref 88), (.int (377) 0), (.int (108) 0), (.str (ofString "/claim/cut.py") 378)]), #[]⟩
noncomputable def oC_90 (P : Params) : Obj := ⟨(.type "function"), none, (.func ⟨ofString "in_table_b1", ofString "in_table_b1", fArgs (stm 14), .stmts (fBody (stm 14)), fScope (stm 14), 3, [], .none, .none, .none, (.str (ofString "cpy313.stringprep") 311), none, (.ref 89), .none, 0⟩), #[]⟩
noncomputable def TC (P : Params) : BT := (.node (boot_o_0 P) (.node (boot_o_1 P) (.node (oC_3 P) (.node (boot_o_7 P) (.node (oB_15 P) (.node (oB_31 P) (.node (oC_63 P) .nil .nil) .nil) (.node (oB_47 P) (.node (oC_79 P) .nil .nil) .nil)) (.node (oB_23 P) (.node (oB_39 P) (.node (oC_71 P) .nil .nil) .nil) (.node (oC_55 P) (.node (oC_87 P) .nil .nil) .nil))) (.node (oA_11 P) (.node (oB_19 P) (.node (oB_35 P) (.node (oC_67 P) .nil .nil) .nil) (.node (oC_51 P) (.node (oC_83 P) .nil .nil) .nil)) (.node (oB_27 P) (.node (oB_43 P) (.node (oC_75 P) .nil .nil) .nil) (.node (oC_59 P) .nil .nil)))) (.node (boot_o_5 P) (.node (boot_o_9 P) (.node (oB_17 P) (.node (oB_33 P) (.node (oC_65 P) .nil .nil) .nil) (.node (oB_49 P) (.node (oC_81 P) .nil .nil) .nil)) (.node (oB_25 P) (.node (oB_41 P) (.node (oC_73 P) .nil .nil) .nil) (.node (oC_57 P) (.node (oC_89 P) .nil .nil) .nil))) (.node (oA_13 P) (.node (oB_21 P) (.node (oB_37 P) (.node (oC_69 P) .nil .nil) .nil) (.node (oC_53 P) (.node (oC_85 P) .nil .nil) .nil)) (.node (oB_29 P) (.node (oB_45 P) (.node (oC_77 P) .nil .nil) .nil) (.node (oC_61 P) .nil .nil))))) (.node (boot_o_2 P) (.node (boot_o_4 P) (.node (boot_o_8 P) (.node (oB_16 P) (.node (oB_32 P) (.node (oC_64 P) .nil .nil) .nil) (.node (oB_48 P) (.node (oC_80 P) .nil .nil) .nil)) (.node (oB_24 P) (.node (oB_40 P) (.node (oC_72 P) .nil .nil) .nil) (.node (oC_56 P) (.node (oC_88 P) .nil .nil) .nil))) (.node (oC_12 P) (.node (oB_20 P) (.node (oB_36 P) (.node (oC_68 P) .nil .nil) .nil) (.node (oC_52 P) (.node (oC_84 P) .nil .nil) .nil)) (.node (oB_28 P) (.node (oB_44 P) (.node (oC_76 P) .nil .nil) .nil) (.node (oC_60 P) .nil .nil)))) (.node (boot_o_6 P) (.node (boot_o_10 P) (.node (oB_18 P) (.node (oB_34 P) (.node (oC_66 P) .nil .nil) .nil) (.node (oB_50 P) (.node (oC_82 P) .nil .nil) .nil)) (.node (oB_26 P) (.node (oB_42 P) (.node (oC_74 P) .nil .nil) .nil) (.node (oC_58 P) (.node (oC_90 P) .nil .nil) .nil))) (.node (oA_14 P) (.node (oB_22 P) (.node (oB_38 P) (.node (oC_70 P) .nil .nil) .nil) (.node (oC_54 P) (.node (oC_86 P) .nil .nil) .nil)) (.node (oB_30 P) (.node (oB_46 P) (.node (oC_78 P) .nil .nil) .nil) (.node (oC_62 P) .nil .nil))))))
noncomputable def SC (w : World) (os : OsState) : SharedT := ⟨TC w.params, 91, life0, #[], drawn0, 380, os⟩
noncomputable def qC : Pos := ⟨108, 0, 109, 30⟩
noncomputable def TD (P : Params) : BT := (.node (boot_o_0 P) (.node (boot_o_1 P) (.node (oC_3 P) (.node (boot_o_7 P) (.node (oB_15 P) (.node (oB_31 P) (.node (oC_63 P) (.node (subD 35 P) .nil .nil) .nil) (.node (subD 3 P) .nil .nil)) (.node (oB_47 P) (.node (oC_79 P) .nil .nil) (.node (subD 19 P) .nil .nil))) (.node (oB_23 P) (.node (oB_39 P) (.node (oC_71 P) .nil .nil) (.node (subD 11 P) .nil .nil)) (.node (oC_55 P) (.node (oC_87 P) .nil .nil) (.node (subD 27 P) .nil .nil)))) (.node (oA_11 P) (.node (oB_19 P) (.node (oB_35 P) (.node (oC_67 P) .nil .nil) (.node (subD 7 P) .nil .nil)) (.node (oC_51 P) (.node (oC_83 P) .nil .nil) (.node (subD 23 P) .nil .nil))) (.node (oB_27 P) (.node (oB_43 P) (.node (oC_75 P) .nil .nil) (.node (subD 15 P) .nil .nil)) (.node (oC_59 P) (.node (mainD P) .nil .nil) (.node (subD 31 P) .nil .nil))))) (.node (boot_o_5 P) (.node (boot_o_9 P) (.node (oB_17 P) (.node (oB_33 P) (.node (oC_65 P) (.node (subD 37 P) .nil .nil) .nil) (.node (subD 5 P) .nil .nil)) (.node (oB_49 P) (.node (oC_81 P) .nil .nil) (.node (subD 21 P) .nil .nil))) (.node (oB_25 P) (.node (oB_41 P) (.node (oC_73 P) .nil .nil) (.node (subD 13 P) .nil .nil)) (.node (oC_57 P) (.node (oC_89 P) .nil .nil) (.node (subD 29 P) .nil .nil)))) (.node (oA_13 P) (.node (oB_21 P) (.node (oB_37 P) (.node (oC_69 P) .nil .nil) (.node (subD 9 P) .nil .nil)) (.node (oC_53 P) (.node (oC_85 P) .nil .nil) (.node (subD 25 P) .nil .nil))) (.node (oB_29 P) (.node (oB_45 P) (.node (oC_77 P) .nil .nil) (.node (subD 17 P) .nil .nil)) (.node (oC_61 P) (.node (subD 1 P) .nil .nil) (.node (subD 33 P) .nil .nil)))))) (.node (boot_o_2 P) (.node (boot_o_4 P) (.node (boot_o_8 P) (.node (oB_16 P) (.node (oB_32 P) (.node (oC_64 P) (.node (subD 36 P) .nil .nil) .nil) (.node (subD 4 P) .nil .nil)) (.node (oB_48 P) (.node (oC_80 P) .nil .nil) (.node (subD 20 P) .nil .nil))) (.node (oB_24 P) (.node (oB_40 P) (.node (oC_72 P) .nil .nil) (.node (subD 12 P) .nil .nil)) (.node (oC_56 P) (.node (oC_88 P) .nil .nil) (.node (subD 28 P) .nil .nil)))) (.node (oC_12 P) (.node (oB_20 P) (.node (oB_36 P) (.node (oC_68 P) .nil .nil) (.node (subD 8 P) .nil .nil)) (.node (oC_52 P) (.node (oC_84 P) .nil .nil) (.node (subD 24 P) .nil .nil))) (.node (oB_28 P) (.node (oB_44 P) (.node (oC_76 P) .nil .nil) (.node (subD 16 P) .nil .nil)) (.node (oC_60 P) (.node (subD 0 P) .nil .nil) (.node (subD 32 P) .nil .nil))))) (.node (boot_o_6 P) (.node (boot_o_10 P) (.node (oB_18 P) (.node (oB_34 P) (.node (oC_66 P) .nil .nil) (.node (subD 6 P) .nil .nil)) (.node (oB_50 P) (.node (oC_82 P) .nil .nil) (.node (subD 22 P) .nil .nil))) (.node (oB_26 P) (.node (oB_42 P) (.node (oC_74 P) .nil .nil) (.node (subD 14 P) .nil .nil)) (.node (oC_58 P) (.node (oC_90 P) .nil .nil) (.node (subD 30 P) .nil .nil)))) (.node (oA_14 P) (.node (oB_22 P) (.node (oB_38 P) (.node (oC_70 P) .nil .nil) (.node (subD 10 P) .nil .nil)) (.node (oC_54 P) (.node (oC_86 P) .nil .nil) (.node (subD 26 P) .nil .nil))) (.node (oB_30 P) (.node (oB_46 P) (.node (oC_78 P) .nil .nil) (.node (subD 18 P) .nil .nil)) (.node (oC_62 P) (.node (subD 2 P) .nil .nil) (.node (subD 34 P) .nil .nil)))))))
noncomputable def oE_3 (P : Params) : Obj := ⟨(.type "dict"), none, (.dict #[⟨PyData.keyHash P (ofString "__name__"), (.str (ofString "__name__") 165), (.str (ofString "law_ta0099_02") 2339)⟩, ⟨PyData.keyHash P (ofString "__doc__"), (.str (ofString "__doc__") 166), .none⟩, ⟨PyData.keyHash P (ofString "__package__"), (.str (ofString "__package__") 167), .none⟩, ⟨PyData.keyHash P (ofString "__loader__"), (.str (ofString "__loader__") 168), (.builtin "__main__.__loader__#opaque")⟩, ⟨PyData.keyHash P (ofString "__spec__"), (.str (ofString "__spec__") 169), .none⟩, ⟨PyData.keyHash P (ofString "__annotations__"), (.str (ofString "__annotations__") 170), (.ref 6)⟩, ⟨PyData.keyHash P (ofString "__builtins__"), (.str (ofString "__builtins__") 171), (.ref 4)⟩, ⟨PyData.keyHash P (ofString "__file__"), (.str (ofString "__file__") 173), (.str (ofString "/claim/cut.py") 172)⟩, ⟨PyData.keyHash P (ofString "__cached__"), (.str (ofString "__cached__") 174), .none⟩, ⟨PyData.keyHash P (ofString "insort_right"), (.str (ofString "insort_right") 201), (.ref 23)⟩, ⟨PyData.keyHash P (ofString "bisect_right"), (.str (ofString "bisect_right") 215), (.ref 32)⟩, ⟨PyData.keyHash P (ofString "insort_left"), (.str (ofString "insort_left") 228), (.ref 41)⟩, ⟨PyData.keyHash P (ofString "bisect_left"), (.str (ofString "bisect_left") 242), (.ref 50)⟩, ⟨PyData.keyHash P (ofString "COMPILER_FLAG_NAMES"), (.str (ofString "COMPILER_FLAG_NAMES") 275), (.ref 51)⟩, ⟨PyData.keyHash P (ofString "pretty_flags"), (.str (ofString "pretty_flags") 285), (.ref 58)⟩, ⟨PyData.keyHash P (ofString "_parse_varint"), (.str (ofString "_parse_varint") 294), (.ref 65)⟩, ⟨PyData.keyHash P (ofString "ELLIPSIS_MARKER"), (.str (ofString "ELLIPSIS_MARKER") 298), (.str (ofString "...") 297)⟩, ⟨PyData.keyHash P (ofString "_ellipsis_match"), (.str (ofString "_ellipsis_match") 310), (.ref 72)⟩, ⟨PyData.keyHash P (ofString "b1_set"), (.str (ofString "b1_set") 372), (.ref 80)⟩, ⟨PyData.keyHash P (ofString "in_table_b1"), (.str (ofString "in_table_b1") 379), (.ref 90)⟩, ⟨PyData.keyHash P (ofString "b3_exceptions"), (.str (ofString "b3_exceptions") 2330), (.ref 91)⟩, ⟨PyData.keyHash P (ofString "map_table_b3"), (.str (ofString "map_table_b3") 2338), (.ref 136)⟩, ⟨PyData.keyHash P (ofString "_law_typed"), (.str (ofString "_law_typed") 2346), (.ref 141)⟩, ⟨PyData.keyHash P (ofString "_law_prepared"), (.str (ofString "_law_prepared") 2352), (.ref 146)⟩, ⟨PyData.keyHash P (ofString "_law_chains"), (.str (ofString "_law_chains") 2358), (.ref 151)⟩, ⟨PyData.keyHash P (ofString "_law_known"), (.str (ofString "_law_known") 2367), (.ref 158)⟩, ⟨PyData.keyHash P (ofString "_law_judge"), (.str (ofString "_law_judge") 2373), (.ref 163)⟩, ⟨PyData.keyHash P (ofString "_law_taken"), (.str (ofString "_law_taken") 2385), (.ref 170)⟩, ⟨PyData.keyHash P (ofString "law"), (.str (ofString "law") 2391), (.ref 175)⟩] 29), #[]⟩
noncomputable def oE_12 (P : Params) : Obj := ⟨.none, none, (.fields #[(.int (2) 0), (.int (0) 0), (.ref 22), (.int (8) 0), (.int (0) 0), (.ref 31), (.int (28) 0), (.int (0) 0), (.ref 40), (.int (34) 0), (.int (0) 0), (.ref 49), (.int (56) 0), (.int (0) 0), (.ref 57), (.int (68) 0), (.int (0) 0), (.ref 64), (.int (78) 0), (.int (0) 0), (.ref 71), (.int (108) 0), (.int (0) 0), (.ref 89), (.int (111) 0), (.int (0) 0), (.ref 135), (.int (117) 0), (.int (0) 0), (.ref 140), (.int (124) 0), (.int (0) 0), (.ref 145), (.int (126) 0), (.int (0) 0), (.ref 150), (.int (144) 0), (.int (0) 0), (.ref 157), (.int (151) 0), (.int (0) 0), (.ref 162), (.int (161) 0), (.int (0) 0), (.ref 169), (.int (170) 0), (.int (0) 0), (.ref 174)]), #[]⟩
noncomputable def oE_130 (P : Params) : Obj := ⟨(.type "tuple"), none, (.seq #[] 0), #[]⟩
noncomputable def oE_131 (P : Params) : Obj := ⟨.none, none, (.fields #[]), #[]⟩
noncomputable def oE_132 (P : Params) : Obj := ⟨(.type "tuple"), none, (.seq #[(.str (ofString "code") 2334), (.str (ofString "r") 2335)] 0), #[]⟩
noncomputable def oE_133 (P : Params) : Obj := ⟨(.type "tuple"), none, (.seq #[] 0), #[]⟩
noncomputable def oE_134 (P : Params) : Obj := ⟨.none, none, (.func ⟨ofString "map_table_b3", ofString "map_table_b3", fArgs (stm 16), .stmts (fBody (stm 16)), fScope (stm 16), 0, [], .none, .none, .none, .none, none, .none, .none, 0⟩), #[]⟩
noncomputable def oE_135 (P : Params) : Obj := ⟨(.type "code"), none, (.fields #[(.str (ofString "map_table_b3") 2331), (.str (ofString "map_table_b3") 2332), (.str (ofString "/claim/cut.py") 2333), (.int (111) 0), (.int (1) 0), (.int (0) 0), (.int (0) 0), (.int (3) 0), (.ref 130), (.bool true), (.int (181) 0), (.ref 131), .none, (.ref 132), (.ref 133), (.ref 134), (.int (2336) 0), (.int (111) 0), (.str (ofString "/claim/cut.py") 2337)]), #[]⟩
noncomputable def oE_136 (P : Params) : Obj := ⟨(.type "function"), none, (.func ⟨ofString "map_table_b3", ofString "map_table_b3", fArgs (stm 16), .stmts (fBody (stm 16)), fScope (stm 16), 3, [], .none, .none, .none, (.str (ofString "cpy313.stringprep") 311), none, (.ref 135), .none, 0⟩), #[]⟩
noncomputable def oE_137 (P : Params) : Obj := ⟨(.type "tuple"), none, (.seq #[] 0), #[]⟩
noncomputable def oE_138 (P : Params) : Obj := ⟨.none, none, (.fields #[]), #[]⟩
noncomputable def oE_139 (P : Params) : Obj := ⟨.none, none, (.func ⟨ofString "_law_typed", ofString "_law_typed", fArgs (stm 18), .stmts (fBody (stm 18)), fScope (stm 18), 0, [], .none, .none, .none, .none, none, .none, .none, 0⟩), #[]⟩
noncomputable def oE_140 (P : Params) : Obj := ⟨(.type "code"), none, (.fields #[(.str (ofString "_law_typed") 2341), (.str (ofString "_law_typed") 2342), (.str (ofString "/claim/cut.py") 2343), (.int (117) 0), (.int (3) 0), (.int (0) 0), (.int (0) 0), (.int (3) 0), (.ref 137), (.bool true), (.int (181) 0), (.ref 138), .none, .none, .none, (.ref 139), (.int (2344) 0), (.int (117) 0), (.str (ofString "/claim/cut.py") 2345)]), #[]⟩
noncomputable def oE_141 (P : Params) : Obj := ⟨(.type "function"), none, (.func ⟨ofString "_law_typed", ofString "_law_typed", fArgs (stm 18), .stmts (fBody (stm 18)), fScope (stm 18), 3, [], .none, .none, .none, (.str (ofString "law_ta0099_02") 2339), none, (.ref 140), .none, 0⟩), #[]⟩
noncomputable def oE_142 (P : Params) : Obj := ⟨(.type "tuple"), none, (.seq #[] 0), #[]⟩
noncomputable def oE_143 (P : Params) : Obj := ⟨.none, none, (.fields #[]), #[]⟩
noncomputable def oE_144 (P : Params) : Obj := ⟨.none, none, (.func ⟨ofString "_law_prepared", ofString "_law_prepared", fArgs (stm 19), .stmts (fBody (stm 19)), fScope (stm 19), 0, [], .none, .none, .none, .none, none, .none, .none, 0⟩), #[]⟩
noncomputable def oE_145 (P : Params) : Obj := ⟨(.type "code"), none, (.fields #[(.str (ofString "_law_prepared") 2347), (.str (ofString "_law_prepared") 2348), (.str (ofString "/claim/cut.py") 2349), (.int (124) 0), (.int (1) 0), (.int (0) 0), (.int (0) 0), (.int (3) 0), (.ref 142), (.bool true), (.int (181) 0), (.ref 143), .none, .none, .none, (.ref 144), (.int (2350) 0), (.int (124) 0), (.str (ofString "/claim/cut.py") 2351)]), #[]⟩
noncomputable def oE_146 (P : Params) : Obj := ⟨(.type "function"), none, (.func ⟨ofString "_law_prepared", ofString "_law_prepared", fArgs (stm 19), .stmts (fBody (stm 19)), fScope (stm 19), 3, [], .none, .none, .none, (.str (ofString "law_ta0099_02") 2339), none, (.ref 145), .none, 0⟩), #[]⟩
noncomputable def oE_147 (P : Params) : Obj := ⟨(.type "tuple"), none, (.seq #[] 0), #[]⟩
noncomputable def oE_148 (P : Params) : Obj := ⟨.none, none, (.fields #[]), #[]⟩
noncomputable def oE_149 (P : Params) : Obj := ⟨.none, none, (.func ⟨ofString "_law_chains", ofString "_law_chains", fArgs (stm 20), .stmts (fBody (stm 20)), fScope (stm 20), 0, [], .none, .none, .none, .none, none, .none, .none, 0⟩), #[]⟩
noncomputable def oE_150 (P : Params) : Obj := ⟨(.type "code"), none, (.fields #[(.str (ofString "_law_chains") 2353), (.str (ofString "_law_chains") 2354), (.str (ofString "/claim/cut.py") 2355), (.int (126) 0), (.int (0) 0), (.int (0) 0), (.int (0) 0), (.int (3) 0), (.ref 147), (.bool true), (.int (181) 0), (.ref 148), .none, .none, .none, (.ref 149), (.int (2356) 0), (.int (126) 0), (.str (ofString "/claim/cut.py") 2357)]), #[]⟩
noncomputable def oE_151 (P : Params) : Obj := ⟨(.type "function"), none, (.func ⟨ofString "_law_chains", ofString "_law_chains", fArgs (stm 20), .stmts (fBody (stm 20)), fScope (stm 20), 3, [], .none, .none, .none, (.str (ofString "law_ta0099_02") 2339), none, (.ref 150), .none, 0⟩), #[]⟩
noncomputable def oE_152 (P : Params) : Obj := ⟨(.type "tuple"), none, (.seq #[] 0), #[]⟩
noncomputable def oE_153 (P : Params) : Obj := ⟨.none, none, (.fields #[]), #[]⟩
noncomputable def oE_154 (P : Params) : Obj := ⟨(.type "tuple"), none, (.seq #[(.str (ofString "chosen") 2362), (.str (ofString "answers") 2363), (.str (ofString "one") 2364)] 0), #[]⟩
noncomputable def oE_155 (P : Params) : Obj := ⟨(.type "tuple"), none, (.seq #[] 0), #[]⟩
noncomputable def oE_156 (P : Params) : Obj := ⟨.none, none, (.func ⟨ofString "_law_known", ofString "_law_known", fArgs (stm 21), .stmts (fBody (stm 21)), fScope (stm 21), 0, [], .none, .none, .none, .none, none, .none, .none, 0⟩), #[]⟩
noncomputable def oE_157 (P : Params) : Obj := ⟨(.type "code"), none, (.fields #[(.str (ofString "_law_known") 2359), (.str (ofString "_law_known") 2360), (.str (ofString "/claim/cut.py") 2361), (.int (144) 0), (.int (2) 0), (.int (0) 0), (.int (0) 0), (.int (3) 0), (.ref 152), (.bool true), (.int (181) 0), (.ref 153), .none, (.ref 154), (.ref 155), (.ref 156), (.int (2365) 0), (.int (144) 0), (.str (ofString "/claim/cut.py") 2366)]), #[]⟩
noncomputable def oE_158 (P : Params) : Obj := ⟨(.type "function"), none, (.func ⟨ofString "_law_known", ofString "_law_known", fArgs (stm 21), .stmts (fBody (stm 21)), fScope (stm 21), 3, [], .none, .none, .none, (.str (ofString "law_ta0099_02") 2339), none, (.ref 157), .none, 0⟩), #[]⟩
noncomputable def oE_159 (P : Params) : Obj := ⟨(.type "tuple"), none, (.seq #[] 0), #[]⟩
noncomputable def oE_160 (P : Params) : Obj := ⟨.none, none, (.fields #[]), #[]⟩
noncomputable def oE_161 (P : Params) : Obj := ⟨.none, none, (.func ⟨ofString "_law_judge", ofString "_law_judge", fArgs (stm 22), .stmts (fBody (stm 22)), fScope (stm 22), 0, [], .none, .none, .none, .none, none, .none, .none, 0⟩), #[]⟩
noncomputable def oE_162 (P : Params) : Obj := ⟨(.type "code"), none, (.fields #[(.str (ofString "_law_judge") 2368), (.str (ofString "_law_judge") 2369), (.str (ofString "/claim/cut.py") 2370), (.int (151) 0), (.int (3) 0), (.int (0) 0), (.int (0) 0), (.int (3) 0), (.ref 159), (.bool true), (.int (181) 0), (.ref 160), .none, .none, .none, (.ref 161), (.int (2371) 0), (.int (151) 0), (.str (ofString "/claim/cut.py") 2372)]), #[]⟩
noncomputable def oE_163 (P : Params) : Obj := ⟨(.type "function"), none, (.func ⟨ofString "_law_judge", ofString "_law_judge", fArgs (stm 22), .stmts (fBody (stm 22)), fScope (stm 22), 3, [], .none, .none, .none, (.str (ofString "law_ta0099_02") 2339), none, (.ref 162), .none, 0⟩), #[]⟩
noncomputable def oE_164 (P : Params) : Obj := ⟨(.type "tuple"), none, (.seq #[] 0), #[]⟩
noncomputable def oE_165 (P : Params) : Obj := ⟨.none, none, (.fields #[]), #[]⟩
noncomputable def oE_166 (P : Params) : Obj := ⟨(.type "tuple"), none, (.seq #[(.str (ofString "front") 2377), (.str (ofString "inner") 2378), (.str (ofString "end") 2379), (.str (ofString "text") 2380), (.str (ofString "last") 2381), (.str (ofString "piece") 2382)] 0), #[]⟩
noncomputable def oE_167 (P : Params) : Obj := ⟨(.type "tuple"), none, (.seq #[] 0), #[]⟩
noncomputable def oE_168 (P : Params) : Obj := ⟨.none, none, (.func ⟨ofString "_law_taken", ofString "_law_taken", fArgs (stm 23), .stmts (fBody (stm 23)), fScope (stm 23), 0, [], .none, .none, .none, .none, none, .none, .none, 0⟩), #[]⟩
noncomputable def oE_169 (P : Params) : Obj := ⟨(.type "code"), none, (.fields #[(.str (ofString "_law_taken") 2374), (.str (ofString "_law_taken") 2375), (.str (ofString "/claim/cut.py") 2376), (.int (161) 0), (.int (4) 0), (.int (0) 0), (.int (0) 0), (.int (3) 0), (.ref 164), (.bool true), (.int (181) 0), (.ref 165), .none, (.ref 166), (.ref 167), (.ref 168), (.int (2383) 0), (.int (161) 0), (.str (ofString "/claim/cut.py") 2384)]), #[]⟩
noncomputable def oE_170 (P : Params) : Obj := ⟨(.type "function"), none, (.func ⟨ofString "_law_taken", ofString "_law_taken", fArgs (stm 23), .stmts (fBody (stm 23)), fScope (stm 23), 3, [], .none, .none, .none, (.str (ofString "law_ta0099_02") 2339), none, (.ref 169), .none, 0⟩), #[]⟩
noncomputable def oE_171 (P : Params) : Obj := ⟨(.type "tuple"), none, (.seq #[] 0), #[]⟩
noncomputable def oE_172 (P : Params) : Obj := ⟨.none, none, (.fields #[]), #[]⟩
noncomputable def oE_173 (P : Params) : Obj := ⟨.none, none, (.func ⟨ofString "law", ofString "law", fArgs (stm 24), .stmts (fBody (stm 24)), fScope (stm 24), 0, [], .none, .none, .none, .none, none, .none, .none, 0⟩), #[]⟩
noncomputable def oE_174 (P : Params) : Obj := ⟨(.type "code"), none, (.fields #[(.str (ofString "law") 2386), (.str (ofString "law") 2387), (.str (ofString "/claim/cut.py") 2388), (.int (170) 0), (.int (1) 0), (.int (0) 0), (.int (0) 0), (.int (3) 0), (.ref 171), (.bool true), (.int (181) 0), (.ref 172), .none, .none, .none, (.ref 173), (.int (2389) 0), (.int (170) 0), (.str (ofString "/claim/cut.py") 2390)]), #[]⟩
noncomputable def oE_175 (P : Params) : Obj := ⟨(.type "function"), none, (.func ⟨ofString "law", ofString "law", fArgs (stm 24), .stmts (fBody (stm 24)), fScope (stm 24), 3, [], .none, .none, .none, (.str (ofString "law_ta0099_02") 2339), none, (.ref 174), .none, 0⟩), #[]⟩
noncomputable def TE (P : Params) : BT := (.node (boot_o_0 P) (.node (boot_o_1 P) (.node (oE_3 P) (.node (boot_o_7 P) (.node (oB_15 P) (.node (oB_31 P) (.node (oC_63 P) (.node (subD 35 P) .nil .nil) .nil) (.node (subD 3 P) (.node (oE_159 P) .nil .nil) .nil)) (.node (oB_47 P) (.node (oC_79 P) (.node (oE_143 P) .nil .nil) .nil) (.node (subD 19 P) (.node (oE_175 P) .nil .nil) .nil))) (.node (oB_23 P) (.node (oB_39 P) (.node (oC_71 P) (.node (oE_135 P) .nil .nil) .nil) (.node (subD 11 P) (.node (oE_167 P) .nil .nil) .nil)) (.node (oC_55 P) (.node (oC_87 P) (.node (oE_151 P) .nil .nil) .nil) (.node (subD 27 P) .nil .nil)))) (.node (oA_11 P) (.node (oB_19 P) (.node (oB_35 P) (.node (oC_67 P) (.node (oE_131 P) .nil .nil) .nil) (.node (subD 7 P) (.node (oE_163 P) .nil .nil) .nil)) (.node (oC_51 P) (.node (oC_83 P) (.node (oE_147 P) .nil .nil) .nil) (.node (subD 23 P) .nil .nil))) (.node (oB_27 P) (.node (oB_43 P) (.node (oC_75 P) (.node (oE_139 P) .nil .nil) .nil) (.node (subD 15 P) (.node (oE_171 P) .nil .nil) .nil)) (.node (oC_59 P) (.node (mainD P) (.node (oE_155 P) .nil .nil) .nil) (.node (subD 31 P) .nil .nil))))) (.node (boot_o_5 P) (.node (boot_o_9 P) (.node (oB_17 P) (.node (oB_33 P) (.node (oC_65 P) (.node (subD 37 P) .nil .nil) .nil) (.node (subD 5 P) (.node (oE_161 P) .nil .nil) .nil)) (.node (oB_49 P) (.node (oC_81 P) (.node (oE_145 P) .nil .nil) .nil) (.node (subD 21 P) .nil .nil))) (.node (oB_25 P) (.node (oB_41 P) (.node (oC_73 P) (.node (oE_137 P) .nil .nil) .nil) (.node (subD 13 P) (.node (oE_169 P) .nil .nil) .nil)) (.node (oC_57 P) (.node (oC_89 P) (.node (oE_153 P) .nil .nil) .nil) (.node (subD 29 P) .nil .nil)))) (.node (oA_13 P) (.node (oB_21 P) (.node (oB_37 P) (.node (oC_69 P) (.node (oE_133 P) .nil .nil) .nil) (.node (subD 9 P) (.node (oE_165 P) .nil .nil) .nil)) (.node (oC_53 P) (.node (oC_85 P) (.node (oE_149 P) .nil .nil) .nil) (.node (subD 25 P) .nil .nil))) (.node (oB_29 P) (.node (oB_45 P) (.node (oC_77 P) (.node (oE_141 P) .nil .nil) .nil) (.node (subD 17 P) (.node (oE_173 P) .nil .nil) .nil)) (.node (oC_61 P) (.node (subD 1 P) (.node (oE_157 P) .nil .nil) .nil) (.node (subD 33 P) .nil .nil)))))) (.node (boot_o_2 P) (.node (boot_o_4 P) (.node (boot_o_8 P) (.node (oB_16 P) (.node (oB_32 P) (.node (oC_64 P) (.node (subD 36 P) .nil .nil) .nil) (.node (subD 4 P) (.node (oE_160 P) .nil .nil) .nil)) (.node (oB_48 P) (.node (oC_80 P) (.node (oE_144 P) .nil .nil) .nil) (.node (subD 20 P) .nil .nil))) (.node (oB_24 P) (.node (oB_40 P) (.node (oC_72 P) (.node (oE_136 P) .nil .nil) .nil) (.node (subD 12 P) (.node (oE_168 P) .nil .nil) .nil)) (.node (oC_56 P) (.node (oC_88 P) (.node (oE_152 P) .nil .nil) .nil) (.node (subD 28 P) .nil .nil)))) (.node (oE_12 P) (.node (oB_20 P) (.node (oB_36 P) (.node (oC_68 P) (.node (oE_132 P) .nil .nil) .nil) (.node (subD 8 P) (.node (oE_164 P) .nil .nil) .nil)) (.node (oC_52 P) (.node (oC_84 P) (.node (oE_148 P) .nil .nil) .nil) (.node (subD 24 P) .nil .nil))) (.node (oB_28 P) (.node (oB_44 P) (.node (oC_76 P) (.node (oE_140 P) .nil .nil) .nil) (.node (subD 16 P) (.node (oE_172 P) .nil .nil) .nil)) (.node (oC_60 P) (.node (subD 0 P) (.node (oE_156 P) .nil .nil) .nil) (.node (subD 32 P) .nil .nil))))) (.node (boot_o_6 P) (.node (boot_o_10 P) (.node (oB_18 P) (.node (oB_34 P) (.node (oC_66 P) (.node (oE_130 P) .nil .nil) .nil) (.node (subD 6 P) (.node (oE_162 P) .nil .nil) .nil)) (.node (oB_50 P) (.node (oC_82 P) (.node (oE_146 P) .nil .nil) .nil) (.node (subD 22 P) .nil .nil))) (.node (oB_26 P) (.node (oB_42 P) (.node (oC_74 P) (.node (oE_138 P) .nil .nil) .nil) (.node (subD 14 P) (.node (oE_170 P) .nil .nil) .nil)) (.node (oC_58 P) (.node (oC_90 P) (.node (oE_154 P) .nil .nil) .nil) (.node (subD 30 P) .nil .nil)))) (.node (oA_14 P) (.node (oB_22 P) (.node (oB_38 P) (.node (oC_70 P) (.node (oE_134 P) .nil .nil) .nil) (.node (subD 10 P) (.node (oE_166 P) .nil .nil) .nil)) (.node (oC_54 P) (.node (oC_86 P) (.node (oE_150 P) .nil .nil) .nil) (.node (subD 26 P) .nil .nil))) (.node (oB_30 P) (.node (oB_46 P) (.node (oC_78 P) (.node (oE_142 P) .nil .nil) .nil) (.node (subD 18 P) (.node (oE_174 P) .nil .nil) .nil)) (.node (oC_62 P) (.node (subD 2 P) (.node (oE_158 P) .nil .nil) .nil) (.node (subD 34 P) .nil .nil)))))))
noncomputable def SE (w : World) (os : OsState) : SharedT := ⟨TE w.params, 176, life0, #[], drawn0, 2392, os⟩
noncomputable def qE : Pos := ⟨170, 0, 201, 102⟩
noncomputable def cdB : Code := .body bd benv
noncomputable def BB : List Frame := [topFrame fq]
noncomputable def SD (w : World) (os : OsState) : SharedT := ⟨TD w.params, 130, life0, #[], drawn0, 2330, os⟩
theorem preL (w : World) (os : OsState) : topGo treeTable pw w 11 AN 12 ⟨boot_heap w.params, Array.mk [], boot_drawn, boot_toks, os⟩ (topStub pw) = some ((SA w os).abs, ⟨denote treeTable cdB, cdB, ppos, BB⟩) := by kernel_rfl!
theorem blockL (w : World) (os : OsState) : segRun treeTable pw w 11 AN 1 1 (SA w os).abs (blockOf bd benv cdB ppos BB) = some (.next, (SA w os).abs, cdB, bpos) := by kernel_rfl!
theorem g1 (w : World) (os : OsState) : segRunT treeTable pw w 11 AN 1 181 (SA w os) (piecesOf (bd.take 6) benv cdB bpos BB) = some (.next, SB w os, cdB, qB) := by kernel_rfl!
theorem g2 (w : World) : ∀ os : OsState, segRunT treeTable pw w 11 AN 1 1292 (SB w os) (piecesOf ((bd.drop 6).take 9) benv cdB qB BB) = some (.next, SC w os, cdB, qC) := by
 refine byRow2 "special-get-raises" (P := fun w => ∀ os : OsState, segRunT treeTable pw w 11 AN 1 1292 (SB w os) (piecesOf ((bd.drop 6).take 9) benv cdB qB BB) = some (.next, SC w os, cdB, qC)) (fun w os => ?_) (fun w os => ?_) w
 ·rw [PySem.W.Fast.te10110043849684766642, PySem.W.Fast.te14364793385576792824]; kernel_rfl!
 ·rw [PySem.W.Fast.te10110043849684766642, PySem.W.Fast.te14364793385576792824]; kernel_rfl!
noncomputable def rising : List Int → Bool
 | a :: b :: r => decide (a < b) && rising (b :: r)
 | _ => true
theorem rising_lt : ∀ {l : List Int} {a : Int}, rising (a :: l) = true → ∀ b ∈ l, a < b
 | [], _, _, b, h => (nomatch h)
 | c :: r, a, h, b, hb => by
  rw [rising, and_eq_true, decide_eq_true_eq] at h
  rcases mem_cons.mp hb with rfl | hb
  ·exact h.1
  ·exact Int.lt_trans h.1 (rising_lt h.2 b hb)
theorem rising_tail {a : Int} {l : List Int} (h : rising (a :: l) = true) : rising l = true := by
 cases l with
 | nil => rfl
 | cons b r => rw [rising, and_eq_true] at h; exact h.2
theorem rising_nodup : ∀ {l : List Int}, rising l = true → l.Nodup
 | [], _ => nodup_nil
 | a :: l, h => nodup_cons.mpr ⟨fun hm => lt_irrefl a (rising_lt h a hm), rising_nodup (rising_tail h)⟩
noncomputable def keysB : List Int := (c0B ++ csB.flatten ++ lastB).map (·.1.1)
theorem keys_rising : rising keysB = true := by decide +kernel
theorem keys_small : keysB.all (fun k => decide (0 ≤ k) && decide (k < 2 ^ 60)) = true := by decide +kernel
theorem keys_ok : okKeysH ((c0B ++ csB.flatten ++ lastB).map (·.1.1)) :=
 ⟨rising_nodup keys_rising, fun k hk => by
  have := all_eq_true.mp keys_small k hk
  simpa using this⟩
theorem len0 : c0B.length = 17 := by decide +kernel
theorem lens : csB.all (fun c => c.length == 17) = true := by decide +kernel
theorem lenl : lastB.length = 4 := by decide +kernel
theorem lena : (c0B ++ csB.flatten ++ lastB).length = 650 := by decide +kernel
theorem lenc : csB.length = 37 := by decide +kernel
theorem items_eq : itemsB = c0B ++ csB.flatten ++ lastB := by kernel_rfl!
noncomputable def dictE : Stmt → Expr
 | .Assign _ v _ => v
 | _ => default
noncomputable def dictQ : Stmt → Pos
 | .Assign _ (.Dict _ _ q) _ => q
 | _ => default
noncomputable def stQ : Stmt → Pos
 | .Assign _ _ q => q
 | _ => default
noncomputable def stT : Stmt → List Expr
 | .Assign t _ _ => t
 | _ => []
noncomputable def tailB (v : Value) : Sem Flow := do
 match ← assignStores benv v none ((assignEach (stT (stm 15)) benv).map (·.2)) with
 | .next => execs (bd.drop 16) benv
 | f => pure f
noncomputable def frontB : Sem Value := standAt (stQ (stm 15)) >>= fun _ => standAt (dictQ (stm 15)) >>= fun _ => dictDisplay (dl (c0B ++ csB.flatten ++ lastB))
theorem sem_assoc {α β γ : Type} (m : Sem α) (f : α → Sem β) (g : β → Sem γ) : (m >>= f) >>= g = m >>= fun a => f a >>= g := by
 simp only [Sem.bind_eq_wrap', Sem.wrap_wrap]
 rfl
theorem dict_eval : eval (dictE (stm 15)) benv = (standAt (dictQ (stm 15)) >>= fun _ => dictDisplay (dl (c0B ++ csB.flatten ++ lastB))) := by kernel_rfl!
theorem dict_exec : exec (stm 15) benv = (standAt (stQ (stm 15)) >>= fun _ => eval (dictE (stm 15)) benv >>= fun v => assignStores benv v none ((assignEach (stT (stm 15)) benv).map (·.2))) := by kernel_rfl!
theorem dict_execs : execs (bd.drop 15) benv = (frontB >>= tailB) := by
 have e0 : execs (bd.drop 15) benv = (exec (stm 15) benv >>= fun f => match f with | .next => execs (bd.drop 16) benv | f => pure f) := by kernel_rfl!
 rw [e0, dict_exec, dict_eval]
 unfold frontB
 simp only [sem_assoc]
 rfl
noncomputable def LC (P : Params) : List Obj := (TC P).list 91
theorem LC_len (P : Params) : (LC P).length = 91 := by simp [LC, BT.list]
theorem SC_st (w : World) (os : OsState) : (SC w os).abs = st life0 #[] drawn0 os (LC w.params) 380 := rfl
theorem SD_st (w : World) (os : OsState) : (SD w os).abs = st life0 #[] drawn0 os (LC w.params ++ mainO :: subsO) 2330 := by
 have e : (TD w.params).list 130 = LC w.params ++ mainO :: subsO := by kernel_rfl!
 show st life0 #[] drawn0 os ((TD w.params).list 130) 2330 = _
 rw [e]
theorem front_runs (w : World) (os : OsState) : Runs pw w 11 AN frontB (SC w os).abs 20000 (.ref 91) (SD w os).abs := by
 have h := runs_display (p := pw) (w := w) (n₀ := 11) (ann := AN) (life := life0) (gens := #[]) (drawn := drawn0) (os := os) (c0 := c0B) (last := lastB) (cs := csB) (L := LC w.params) (tk := 380) len0
  (fun c hc => by simpa using all_eq_true.mp lens c hc) (by intro e; have := lenl; rw [e] at this; cases this) (by rw [lenl]; decide) keys_ok (by rw [lena]; decide) (by rw [LC_len]; rfl) (by rw [LC_len]; decide)
 rw [SC_st, SD_st]
 rw [LC_len, lenc, lena] at h
 refine Runs.mono (N := ((37 * 330 + 1000) + 1) + 1) (Runs.bind (N := 1) (N' := (37 * 330 + 1000) + 1) Runs.standAt (Runs.bind (N := 1) (N' := 37 * 330 + 1000) Runs.standAt ?_)) (by decide)
 unfold mainO subsO
 rw [lena]
 exact h
theorem tailL (w : World) (os : OsState) (q : Pos) : segRunT treeTable pw w 11 AN 1 294 (SD w os) ⟨(tailB (.ref 91)).wrap doneF deadEnd id id, cdB, q, BB⟩ = some (.next, SE w os, cdB, qE) := by kernel_rfl!
theorem finL (w : World) (os : OsState) : topRun treeTable pw w 11 AN 2 (SE w os).abs ⟨doneF .next, cdB, qE, BB⟩ = some (SE w os).abs := by kernel_rfl!
theorem runL (w : World) (os : OsState) : topRun treeTable pw w 11 AN (12 + (1 + (181 + (1292 + ((294 + 2) + 20000))))) ⟨boot_heap w.params, Array.mk [], boot_drawn, boot_toks, os⟩ (topStub pw) = some (SE w os).abs := by
 refine go_top (preL w os) ?_
 refine piece_block (blockL w os) ?_
 have e1 : bd = bd.take 6 ++ bd.drop 6 := (List.take_append_drop 6 bd).symm
 have e2 : bd.drop 6 = (bd.drop 6).take 9 ++ bd.drop 15 := by
  have := (List.take_append_drop 9 (bd.drop 6)).symm
  rwa [drop_drop] at this
 have k3 : topRun treeTable pw w 11 AN ((294 + 2) + 20000) (SC w os).abs (restOf (bd.drop 15) benv cdB qC BB) = some (SE w os).abs := by
  obtain ⟨q', n, hn, hk⟩ := front_runs w os (fun v => (tailB v).wrap doneF (leaveH benv) id id) (leaveH benv) id id cdB qC (topFrame fq) []
  have ht := segRun_of (tailL w os q')
  obtain ⟨a, ha, hN⟩ := seg_top (res := id) (K' := doneF) (H' := leaveH benv) (B := BB) rfl 294 (SD w os).abs ⟨(tailB (.ref 91)).wrap doneF deadEnd id id, cdB, q', BB⟩
   ⟨(tailB (.ref 91)).wrap doneF (leaveH benv) id id, cdB, q', BB⟩ _ _ _ _ ⟨rfl, rfl, .inl ⟨rfl, rfl, _, rfl, rfl⟩⟩ ht
  have ha' : a = .next := ha
  subst ha'
  have h1 := hk _ _ (hN _ _ (finL w os))
  have h2 := topRun_mono (20000 - n) _ _ _ _ h1
  rw [add_assoc _ n, Nat.add_sub_cancel' hn] at h2
  unfold restOf
  rw [dict_execs, Sem.bind_eq_wrap', Sem.wrap_wrap]
  exact h2
 have k2 : topRun treeTable pw w 11 AN (1292 + ((294 + 2) + 20000)) (SB w os).abs (restOf (bd.drop 6) benv cdB qB BB) = some (SE w os).abs := by
  rw [e2]
  exact piece_app (segRun_of (g2 w os)) k3
 have k1 : topRun treeTable pw w 11 AN (181 + (1292 + ((294 + 2) + 20000))) (SA w os).abs (restOf bd benv cdB bpos BB) = some (SE w os).abs := by
  rw [e1]
  exact piece_app (segRun_of (g1 w os)) k2
 exact k1
noncomputable def HE (P : Params) : Heap := absHeap (TE P) 176 life0
noncomputable def qv : Program := { pw with main := { pw.main with body := [stm 24] } }
noncomputable def looseN : List Str := [ofString "insort_right", ofString "bisect_right", ofString "insort_left", ofString "bisect_left", ofString "COMPILER_FLAG_NAMES", ofString "pretty_flags", ofString "_parse_varint", ofString "ELLIPSIS_MARKER", ofString "_ellipsis_match", ofString "b1_set", ofString "in_table_b1", ofString "b3_exceptions", ofString "map_table_b3", ofString "_law_typed", ofString "_law_prepared", ofString "_law_chains", ofString "_law_known", ofString "_law_judge", ofString "_law_taken"]
theorem sizeL (w : World) : ((boot_heap w.params).isNs mainGlobals && (Array.mk [] : Array GenState).size == 0, (boot_heap w.params).objs.size, (boot_heap w.params).nsMap mainGlobals "__annotations__") = (true, 11, AN) := by kernel_rfl!
theorem looksL (w : World) : (fun os : OsState => ((staticsOk (importedModules pw.main.body) (boot_heap w.params) (HE w.params) && namesBound pw (HE w.params) && gensDone ⟨HE w.params, #[], drawn0, 2392, os⟩ && laidKept (boot_heap w.params) (HE w.params)),
        openSeen qv looseN (importedModules pw.main.body) (fun _ => true) true ⟨HE w.params, #[], drawn0, 2392, os⟩, HE w.params)) = fun _ => (true, openGood qv looseN, HE w.params) := by
 funext os
 refine Prod.ext ?_ (Prod.ext ?_ rfl)
 ·dsimp only; kernel_rfl!
 ·dsimp only; kernel_rfl!
theorem leftL : LeftO pw qv looseN (fun _ => true) (fun s => s.heap) (fun w => HE w.params) 100000 :=
 LeftO.of_pieces (H₀ := boot_heap) (H₁ := HE) (gs₀ := Array.mk []) (gs₁ := #[]) (d₀ := boot_drawn) (d₁ := drawn0) (k₀ := boot_toks) (k₁ := 2392) (m₀ := 11) (ann := AN) (M := (12 + (1 + (181 + (1292 + ((294 + 2) + 20000))))))
  (boot_open (by kernel_rfl!) rfl (fun s => by kernel_rfl!)) sizeL runL (by rfl) looksL
end
set_option backward.match.sparseCases false
theorem nN {α : Type} {v : α} {p : Prop} (h : none = some v) : p := nomatch h
theorem ff_ne {p : Prop} (h : false = true) : p := nomatch h
noncomputable def S (l : List Nat) : Str := ⟨l.toArray⟩
theorem S_toList (x : Str) : S x.cps.toList = x := by cases x; rfl
theorem S_inj {a b : List Nat} (h : S a = S b) : a = b := by
 have := congrArg (fun x : Str => x.cps.toList) h
 simpa [S] using this
theorem sL (l : List Nat) : (S l).length = l.length := by simp [S, Str.length]
inductive V where
 | none
 | bool (b : Bool)
 | int (i : Int)
 | str (l : List Nat)
 | tup (l : List V)
 | lst (l : List V)
 | ref (n : Nat)
 | rng (a b c : Int)
 | lam (args : Arguments) (body : Expr) (scope : Scope)
 | cst (v : Value)
 | opq (a : Addr)
noncomputable abbrev Names := List (Str × NameKind)
noncomputable abbrev Vars := List (Str × Option V)
structure Clo where
 name : Str
 args : Arguments
 body : Expr
 scope : Scope
 up : Nat
structure Fr where
 names : Names
 vars : Vars
 lam : Bool
 up : Nat
 clo : Option Clo
noncomputable def gotv (o : Option (Option V)) : Option V := match o with
 | some v => v
 | none => none
noncomputable def Fr.get (f : Fr) (x : Str) : Option V := gotv (f.vars.lookup x)
inductive AObj where
 | list (l : List V)
 | iter (l : List V)
 | tab
 | dI (l : List (Int × V))
 | dS (l : List (List Nat × V))
 | dead
noncomputable abbrev Oj := List AObj
inductive C where
 | obj (a : Addr)
 | tab (a : Addr)
noncomputable def C.addr : C → Addr
 | .obj a => a
 | .tab a => a
structure FP where
 names : Names
 L : Addr
 cells : List (Str × Addr)
 lam : Bool
 up : Nat
noncomputable def FP.addrs (p : FP) : List Addr := p.L :: p.cells.map (·.2)
structure Pl where
 fr : List FP
 ob : List C
 hid : List Addr
noncomputable def Pl.mt (κ : Pl) : List Addr := κ.fr.flatMap FP.addrs ++ (κ.hid ++ κ.ob.map C.addr)
theorem Pl.mt_ob {κ : Pl} {i : Nat} {c : C} (h : κ.ob[i]? = some c) : c.addr ∈ κ.mt := mem_append_right _ (mem_append_right _ (mem_map_of_mem (mem_of_getElem? h)))
theorem Pl.mt_hid {κ : Pl} {a : Addr} (h : a ∈ κ.hid) : a ∈ κ.mt := mem_append_right _ (mem_append_left _ h)
theorem Pl.mt_fr {κ : Pl} {i : Nat} {p : FP} {b : Addr} (h : κ.fr[i]? = some p) (hb : b ∈ p.addrs) : b ∈ κ.mt := mem_append_left _ (mem_flatMap.mpr ⟨p, mem_of_getElem? h, hb⟩)
noncomputable def cellAt : List FP → Nat → Str → Option Addr
 | [], _, _ => none
 | _ :: r, k + 1, x => cellAt r k x
 | p :: r, 0, x => match p.names.lookup x with
  | some .cell => p.cells.lookup x
  | some .free => cellAt r p.up x
  | _ => none
noncomputable def CodeR (h : Heap) (κ : Pl) (cv : Value) : Prop := ∃ c oc vs q t, cv = .ref c ∧ c ∉ κ.mt ∧ h.get? c = some oc ∧ oc.data = .fields vs ∧ vs[1]? = some (.str q t)
structure IsLam (h : Heap) (κ : Pl) (args : Arguments) (body : Expr) (scope : Scope) (cl : List (Str × Addr)) (o : Obj) (fd : FuncData) : Prop where
 data : o.data = .func fd
 params : fd.params = args
 bd : fd.body = .expr body
 sc : fd.scope = scope
 glob : fd.globals = mainGlobals
 blt : fd.builtins = builtinsNs
 dfl : fd.defaults = .none
 kwd : fd.kwdefaults = .none
 clos : fd.closure = cl
 code : CodeR h κ fd.code
 cls : o.cls = .type "function"
noncomputable def PTup (h : Heap) (a : Addr) (items : Array Value) : Prop := ∃ n, h.get? a = some { cls := .type "tuple", data := .seq items n }
theorem PTup.isTup {h : Heap} {a : Addr} {items : Array Value} (x : PTup h a items) : IsTup h a items := by obtain ⟨n, e⟩ := x; exact ⟨_, e, rfl, n, rfl⟩
theorem PTup.isTuple {h : Heap} {a : Addr} {items : Array Value} (x : PTup h a items) : h.IsTuple a items := by obtain ⟨n, e⟩ := x; exact ⟨_, e, rfl, n, rfl⟩
mutual
noncomputable def RV (h : Heap) (κ : Pl) : V → Value → Prop
 | .none, cv => cv = .none
 | .bool b, cv => cv = .bool b
 | .int i, cv => ∃ t, cv = .int i t
 | .str l, cv => ∃ t, cv = .str (S l) t
 | .tup l, cv => ∃ a vals, cv = .ref a ∧ PTup h a vals ∧ a ∉ κ.mt ∧ RVs h κ l vals.toList
 | .lst l, cv => ∃ a vals, cv = .ref a ∧ h.PlainList a vals ∧ a ∉ κ.mt ∧ RVs h κ l vals.toList
 | .ref n, cv => ∃ a, cv = .ref a ∧ κ.ob[n]? = some (.obj a)
 | .rng x y z, cv => ∃ a t1 t2 t3, cv = .ref a ∧ a ∉ κ.mt ∧ h.get? a = some { cls := .type "range", dict := none, data := .fields #[.int x t1, .int y t2, .int z t3], slots := #[] }
 | .lam args body scope, cv => ∃ a o fd, cv = .ref a ∧ a ∉ κ.mt ∧ h.get? a = some o ∧ IsLam h κ args body scope [] o fd
 | .cst v, cv => cv = v
 | .opq a, cv => cv = .ref a ∧ a ∉ κ.mt ∧ ∃ o fd, h.get? a = some o ∧ o.data = .func fd
noncomputable def RVs (h : Heap) (κ : Pl) : List V → List Value → Prop
 | [], cvs => cvs = []
 | v :: l, cvs => ∃ cv r, cvs = cv :: r ∧ RV h κ v cv ∧ RVs h κ l r
end
section
variable {h : Heap} {κ : Pl}
theorem RVs_nil : RVs h κ [] [] := rfl
theorem RVs_cons {v : V} {l : List V} {cv : Value} {r : List Value} (a : RV h κ v cv) (b : RVs h κ l r) : RVs h κ (v :: l) (cv :: r) := ⟨cv, r, rfl, a, b⟩
theorem RVs_length : ∀ {l : List V} {r : List Value}, RVs h κ l r → l.length = r.length
 | [], _, e => congrArg length e.symm
 | v :: l, _, q2 => by obtain ⟨cv, r, e, _, b⟩ := q2; exact (congrArg (· + 1) (RVs_length b)).trans (congrArg length e.symm)
theorem RVs_app : ∀ {l l' : List V} {r r' : List Value}, RVs h κ l r → RVs h κ l' r' → RVs h κ (l ++ l') (r ++ r')
 | [], l', _, r', rfl, e' => e'
 | v :: l, l', _, r', q4, e' => by obtain ⟨cv, r, rfl, a, b⟩ := q4; exact ⟨cv, r ++ r', rfl, a, RVs_app b e'⟩
theorem RVs_get : ∀ {l : List V} {r : List Value} {k : Nat} {v : V}, RVs h κ l r → l[k]? = some v → ∃ cv, r[k]? = some cv ∧ RV h κ v cv
 | v :: l, _, 0, _, q4, rfl => by obtain ⟨cv, r, rfl, a, b⟩ := q4; exact ⟨cv, rfl, a⟩
 | v :: l, _, k + 1, _, q4, e => by obtain ⟨cv, r, rfl, a, b⟩ := q4; exact RVs_get (k := k) b e
theorem RVs_take : ∀ {l : List V} {r : List Value} (k : Nat), RVs h κ l r → RVs h κ (l.take k) (r.take k)
 | l, r, 0, _ => rfl
 | [], _, _ + 1, rfl => rfl
 | v :: l, _, k + 1, q3 => by obtain ⟨cv, r, rfl, a, b⟩ := q3; exact ⟨cv, r.take k, rfl, a, RVs_take k b⟩
theorem RVs_drop : ∀ {l : List V} {r : List Value} (k : Nat), RVs h κ l r → RVs h κ (l.drop k) (r.drop k)
 | l, r, 0, e => e
 | [], _, _ + 1, rfl => rfl
 | v :: l, _, k + 1, q3 => by obtain ⟨cv, r, rfl, a, b⟩ := q3; exact RVs_drop k b
end
noncomputable def OptR (h : Heap) (κ : Pl) : Option V → Option Value → Prop
 | none, none => True
 | some v, some cv => RV h κ v cv
 | _, _ => False
theorem OptR.some {h : Heap} {κ : Pl} {v : V} {o : Option Value} (r : OptR h κ (some v) o) : ∃ cv, o = some cv ∧ RV h κ v cv := match o, r with
 | .some cv, r => ⟨cv, rfl, r⟩
noncomputable def DA (w : World) {K : Type} [DecidableEq K] (knd : (p : Program) → KeyKind p w K) (h : Heap) (a : Addr) (kvs : List (K × Value)) : Prop := ∀ p, h.DictAt (knd p) a kvs kvs.length
theorem DA.keep {w : World} {K : Type} [DecidableEq K] {knd : (p : Program) → KeyKind p w K} {h h' : Heap} {a : Addr} {kvs : List (K × Value)} (x : DA w knd h a kvs) (own : ∀ o, h.get? a = some o → h'.get? a = some o) : DA w knd h' a kvs :=
 fun p => let ⟨o, es, ho, r⟩ := x p; ⟨o, es, own o ho, r⟩
noncomputable def EntR {K K' : Type} (h : Heap) (κ : Pl) (f : K → K') (l : List (K × V)) (kvs : List (K' × Value)) : Prop := kvs.map (·.1) = l.map (fun x => f x.1) ∧ RVs h κ (l.map (·.2)) (kvs.map (·.2))
noncomputable def ObjR (w : World) (h : Heap) (κ : Pl) : AObj → C → Prop
 | .list l, .obj a => ∃ vals, h.PlainList a vals ∧ RVs h κ l vals.toList
 | .tab, .tab a => ∃ ps : Array Value, h.get? a = some (tabObj ps) ∧ TriplesOk ps.toList ∧ ∀ pos cv, codeAmong pos ps.toList = some cv → CodeR h κ cv
 | .iter l, .obj a => ∃ b k vals, h.IsListIter a b k ∧ h.PlainList b vals ∧ b ∉ κ.mt ∧ RVs h κ l (vals.toList.drop k)
 | .dI l, .obj a => ∃ kvs, DA w (fun p => intKind p w) h a kvs ∧ EntR h κ id l kvs
 | .dS l, .obj a => ∃ kvs, DA w (fun p => strKind p w) h a kvs ∧ EntR h κ S l kvs
 | .dead, .obj _ => True
 | _, _ => False
structure CloR (h : Heap) (κ : Pl) (f : Fr) (p : FP) (c : Clo) : Prop where
 is : ∃ a r o fd cl, f.get c.name = some (.opq a) ∧ f.names.lookup c.name = some .local ∧ p :: r <:+ κ.fr ∧ a ∉ κ.mt ∧ h.get? a = some o ∧ IsLam h κ c.args c.body c.scope cl o fd ∧
  ∀ x, (x, NameKind.free) ∈ c.scope.names → ∃ b, cl.lookup x = some b ∧ cellAt (p :: r) c.up x = some b
structure FrameR (h : Heap) (κ : Pl) (f : Fr) (p : FP) : Prop where
 nm : f.names = p.names
 lm : f.lam = p.lam
 loc : ∃ m, h.Ns p.L m ∧ ∀ x, f.names.lookup x = some .local → OptR h κ (f.get x) (m x)
 cell : ∀ x, f.names.lookup x = some .cell → ∃ c cv, p.cells.lookup x = some c ∧ h.IsCell c cv ∧ OptR h κ (f.get x) cv
 up : f.up = p.up
 clo : ∀ c, f.clo = some c → CloR h κ f p c
structure Ext (h : Heap) (κ : Pl) (h' : Heap) (κ' : Pl) : Prop where
 pre : κ.ob <+: κ'.ob
 keep : ∀ b o, h.get? b = some o → b ∉ κ.mt → h'.get? b = some o
 fresh : ∀ b ∈ κ'.mt, b ∉ κ.mt → h.get? b = none
section
variable {h h' h'' : Heap} {κ κ' κ'' : Pl}
theorem Ext.refl (h : Heap) (κ : Pl) : Ext h κ h κ := ⟨prefix_rfl, fun _ _ e _ => e, fun _ a b => absurd a b⟩
theorem Ext.off (x : Ext h κ h' κ') {b : Addr} {o : Obj} (hb : h.get? b = some o) (hn : b ∉ κ.mt) : b ∉ κ'.mt := fun hm => nomatch (x.fresh b hm hn).symm.trans hb
theorem Ext.trans (x : Ext h κ h' κ') (y : Ext h' κ' h'' κ'') : Ext h κ h'' κ'' where
 pre := x.pre.trans y.pre
 keep b o hb hn := y.keep b o (x.keep b o hb hn) (x.off hb hn)
 fresh b hm hn := Classical.byContradiction fun hb =>
  match hq : h.get? b with
  | none => hb hq
  | some o => match Classical.em (b ∈ κ'.mt) with
   | .inl h1 => hb (x.fresh b h1 hn)
   | .inr h1 => nomatch (x.keep b o hq hn).symm.trans (y.fresh b hm h1)
theorem Ext.grow (k : ∀ b o, h.get? b = some o → h'.get? b = some o) : Ext h κ h' κ := ⟨prefix_rfl, fun b o e _ => k b o e, fun _ p q => absurd p q⟩
theorem pre_get {α : Type} {l l' : List α} (p : l <+: l') {i : Nat} {c : α} (e : l[i]? = some c) : l'[i]? = some c := by
 obtain ⟨t, rfl⟩ := p
 rw [getElem?_append_left (List.getElem?_eq_some_iff.mp e).1]; exact e
theorem CodeR_mono (x : Ext h κ h' κ') {cv : Value} (r : CodeR h κ cv) : CodeR h' κ' cv :=
 by obtain ⟨c, oc, vs, q, t, e, a, b, r⟩ := r; exact ⟨c, oc, vs, q, t, e, x.off b a, x.keep _ _ b a, r⟩
mutual
theorem rM (x : Ext h κ h' κ') : ∀ {v : V} {cv : Value}, RV h κ v cv → RV h' κ' v cv
 | .none, _, e => e
 | .bool _, _, e => e
 | .int _, _, e => e
 | .str _, _, e => e
 | .tup l, _, q2 => by obtain ⟨a, vals, e, ⟨o, ho⟩, ha, m⟩ := q2; exact ⟨a, vals, e, ⟨o, x.keep _ _ ho ha⟩, x.off ho ha, rMs x m⟩
 | .lst l, _, q2 => by obtain ⟨a, vals, e, ⟨o, ho⟩, ha, m⟩ := q2; exact ⟨a, vals, e, ⟨o, x.keep _ _ ho ha⟩, x.off ho ha, rMs x m⟩
 | .ref n, _, q2 => by obtain ⟨a, e, hi⟩ := q2; exact ⟨a, e, pre_get x.pre hi⟩
 | .rng _ _ _, _, q2 => by obtain ⟨a, t1, t2, t3, e, ha, ho⟩ := q2; exact ⟨a, t1, t2, t3, e, x.off ho ha, x.keep _ _ ho ha⟩
 | .lam _ _ _, _, q2 => by obtain ⟨a, o, fd, e, ha, ho, l⟩ := q2; exact ⟨a, o, fd, e, x.off ho ha, x.keep _ _ ho ha, { l with code := CodeR_mono x l.code }⟩
 | .cst _, _, e => e
 | .opq _, _, q2 => by obtain ⟨e, ha, o, fd, ho, hd⟩ := q2; exact ⟨e, x.off ho ha, o, fd, x.keep _ _ ho ha, hd⟩
theorem rMs (x : Ext h κ h' κ') : ∀ {l : List V} {r : List Value}, RVs h κ l r → RVs h' κ' l r
 | [], _, e => e
 | _ :: _, _, q2 => by obtain ⟨cv, r, e, a, b⟩ := q2; exact ⟨cv, r, e, rM x a, rMs x b⟩
end
theorem OptR_mono (x : Ext h κ h' κ') : ∀ {v : Option V} {cv : Option Value}, OptR h κ v cv → OptR h' κ' v cv
 | none, none, _ => trivial
 | some _, some _, r => rM x r
theorem lookup_memL {α : Type} {x : Str} {c : α} : ∀ {l : List (Str × α)}, l.lookup x = some c → (x, c) ∈ l
 | (y, d) :: l, e => by
  rw [lookup_cons] at e
  split at e
  ·rename_i hx
   cases e
   rw [eq_of_beq hx]; exact mem_cons_self ..
  ·exact mem_cons_of_mem _ (lookup_memL e)
theorem ObjR_mono {w : World} (x : Ext h κ h' κ') {o : AObj} {c : C} (own : ∀ ob, h.get? c.addr = some ob → h'.get? c.addr = some ob) (r : ObjR w h κ o c) : ObjR w h' κ' o c := match o, c, r with
 | .list l, .obj a, q2 => by obtain ⟨vals, ⟨n, ho⟩, hv⟩ := q2; exact ⟨vals, ⟨n, own _ ho⟩, rMs x hv⟩
 | .tab, .tab a, q2 => by obtain ⟨ps, h1, h2, h3⟩ := q2; exact ⟨ps, own _ h1, h2, fun p cv e => CodeR_mono x (h3 p cv e)⟩
 | .dI l, .obj a, q2 => by obtain ⟨kvs, hd, e, hv⟩ := q2; exact ⟨kvs, hd.keep own, e, rMs x hv⟩
 | .dS l, .obj a, q2 => by obtain ⟨kvs, hd, e, hv⟩ := q2; exact ⟨kvs, hd.keep own, e, rMs x hv⟩
 | .dead, .obj a, _ => trivial
 | .iter l, .obj a, q2 => by obtain ⟨b, k, vals, ⟨ob, ho, rest⟩, ⟨ol, hol⟩, hb, hv⟩ := q2; exact ⟨b, k, vals, ⟨ob, own ob ho, rest⟩, ⟨ol, x.keep b _ hol hb⟩, x.off hol hb, rMs x hv⟩
theorem CloR_mono (x : Ext h κ h' κ') {f : Fr} {p : FP} {c : Clo} (sf : ∀ r, p :: r <:+ κ.fr → p :: r <:+ κ'.fr) (y : CloR h κ f p c) : CloR h' κ' f p c :=
 by obtain ⟨a, r, o, fd, cl, h1, h2, h3, h4, h5, h6, h7⟩ := y.is; exact ⟨a, r, o, fd, cl, h1, h2, sf r h3, x.off h5 h4, x.keep _ _ h5 h4, { h6 with code := CodeR_mono x h6.code }, h7⟩
theorem FrameR_mono (x : Ext h κ h' κ') {f : Fr} {p : FP} (sf : ∀ r, p :: r <:+ κ.fr → p :: r <:+ κ'.fr) (own : ∀ b ∈ p.addrs, ∀ ob, h.get? b = some ob → h'.get? b = some ob) (r : FrameR h κ f p) : FrameR h' κ' f p where
 nm := r.nm
 lm := r.lm
 loc := by obtain ⟨m, ⟨ob, es, ep, ho, rest⟩, hl⟩ := r.loc; exact ⟨m, ⟨ob, es, ep, own _ (mem_cons_self ..) ob ho, rest⟩, fun y hy => OptR_mono x (hl y hy)⟩
 cell y hy := by obtain ⟨c, cv, h1, ⟨ob, ho, hd⟩, h3⟩ := r.cell y hy; exact ⟨c, cv, h1, ⟨ob, own c (mem_cons_of_mem _ (mem_map_of_mem (lookup_memL h1))) ob ho, hd⟩, OptR_mono x h3⟩
 up := r.up
 clo c hc := CloR_mono x sf (r.clo c hc)
end
structure Rel (w : World) (h0 : Heap) (κ : Pl) (F : List Fr) (O : Oj) (h : Heap) : Prop where
 len : κ.ob.length = O.length
 flen : κ.fr.length = F.length
 base : ∀ a o, h0.get? a = some o → h.get? a = some o
 off : ∀ a ∈ κ.mt, h0.get? a = none
 nd : κ.mt.Nodup
 ex : ∀ a ∈ κ.mt, ∃ o, h.get? a = some o
 objs : ∀ (i : Nat) (o : AObj) (c : C), O[i]? = some o → κ.ob[i]? = some c → ObjR w h κ o c
 frs : ∀ (i : Nat) (f : Fr) (p : FP), F[i]? = some f → κ.fr[i]? = some p → FrameR h κ f p
 tab : ∀ p : Addr, p < h0.objs.size → h0.get? p = none → ∃ k : Nat, κ.ob[k]? = some (.tab p)
mutual
noncomputable def V.pure : V → Bool
 | .tup l => pures l
 | .lst l => pures l
 | .ref _ => false
 | _ => true
noncomputable def pures : List V → Bool
 | [] => true
 | v :: l => v.pure && pures l
end
mutual
noncomputable def V.under (b : Nat) : V → Bool
 | .tup l => belows b l
 | .lst l => belows b l
 | .ref n => decide (n < b)
 | _ => true
noncomputable def belows (b : Nat) : List V → Bool
 | [] => true
 | v :: l => v.under b && belows b l
end
noncomputable def AObj.Under (b : Nat) : AObj → Prop
 | .list l => belows b l = true
 | .iter l => belows b l = true
 | .tab => True
 | .dI l => belows b (l.map (·.2)) = true
 | .dS l => belows b (l.map (·.2)) = true
 | .dead => True
noncomputable def Mono (b : Nat) (O O' : Oj) : Prop := ∀ (i : Nat) (o : AObj), i < b → O[i]? = some o → ∃ o', O'[i]? = some o' ∧ ∀ m, o.Under m → o'.Under m
theorem Mono.refl (b : Nat) (O : Oj) : Mono b O O := fun i o _ e => ⟨o, e, fun _ h => h⟩
theorem Mono.trans {b : Nat} {O O' O'' : Oj} (x : Mono b O O') (y : Mono b O' O'') : Mono b O O'' := fun i o hi e =>
 let ⟨_, e', k⟩ := x i o hi e; let ⟨o'', e'', k'⟩ := y i _ hi e'; ⟨o'', e'', fun m h => k' m (k m h)⟩
noncomputable def SameRest (s s' : Shared) : Prop := s'.gens = s.gens ∧ s'.os = s.os ∧ s'.drawn = s.drawn
structure GoF (w : World) (h0 : Heap) (b : Nat) (FR : List FP) (κ : Pl) (O : Oj) (s : Shared) (κ' : Pl) (F' : List Fr) (O' : Oj) (s' : Shared) : Prop where
 rel : Rel w h0 κ' F' O' s'.heap
 ext : Ext s.heap κ s'.heap κ'
 frs : κ'.fr = FR
 rest : SameRest s s'
 mono : Mono b O O'
 hid : ∀ a ∈ κ.hid, a ∈ κ'.hid ∧ ∀ o, s.heap.get? a = some o → s'.heap.get? a = some o
noncomputable abbrev Go (w : World) (h0 : Heap) (b : Nat) (κ : Pl) := GoF w h0 b κ.fr κ
theorem Go.refl {w : World} {h0 : Heap} {b : Nat} {κ : Pl} {F : List Fr} {O : Oj} {s : Shared} (R : Rel w h0 κ F O s.heap) : Go w h0 b κ O s κ F O s := ⟨R, Ext.refl _ _, rfl, ⟨rfl, rfl, rfl⟩, Mono.refl _ _, fun _ h => ⟨h, fun _ e => e⟩⟩
theorem GoF.trans {w : World} {h0 : Heap} {b : Nat} {FR : List FP} {κ κ1 κ2 : Pl} {F1 F2 : List Fr} {O O1 O2 : Oj} {s s1 s2 : Shared} (x : GoF w h0 b FR κ O s κ1 F1 O1 s1) (y : Go w h0 b κ1 O1 s1 κ2 F2 O2 s2) : GoF w h0 b FR κ O s κ2 F2 O2 s2 :=
 ⟨y.rel, x.ext.trans y.ext, y.frs.trans x.frs, ⟨y.rest.1.trans x.rest.1, y.rest.2.1.trans x.rest.2.1, y.rest.2.2.trans x.rest.2.2⟩, x.mono.trans y.mono, fun a h => ⟨(y.hid a (x.hid a h).1).1, fun o e => (y.hid a (x.hid a h).1).2 o ((x.hid a h).2 o e)⟩⟩
theorem Rel.grow {w : World} {h0 : Heap} {κ : Pl} {F : List Fr} {O : Oj} {h h' : Heap} (R : Rel w h0 κ F O h) (k : ∀ b o, h.get? b = some o → h'.get? b = some o) : Rel w h0 κ F O h' :=
 { R with base := fun a o e => k a o (R.base a o e), ex := fun a ha => let ⟨o, ho⟩ := R.ex a ha; ⟨o, k a o ho⟩, objs := fun i o c e e' => ObjR_mono (Ext.grow k) (fun ob hb => k _ ob hb) (R.objs i o c e e'), frs := fun i f p e e' => FrameR_mono (Ext.grow k) (fun _ z => z) (fun b _ ob hb => k b ob hb) (R.frs i f p e e') }
theorem Go.grow {w : World} {h0 : Heap} {b : Nat} {κ : Pl} {F : List Fr} {O : Oj} {s s' : Shared} (R : Rel w h0 κ F O s.heap) (k : ∀ b o, s.heap.get? b = some o → s'.heap.get? b = some o) (r : SameRest s s') : Go w h0 b κ O s κ F O s' := ⟨R.grow k, Ext.grow k, rfl, r, Mono.refl _ _, fun a h => ⟨h, fun o e => k a o e⟩⟩
set_option backward.match.sparseCases true
section
variable {a : Int}
set_option backward.match.sparseCases false
structure FnI where
 params : Arguments
 body : List Stmt
 scope : Scope
 dfl : List V
 kwd : List (Str × V)
structure Glob where
 names : List (Str × V)
 fns : List (Addr × FnI)
 tabs : List (Addr × List (Int × List Nat))
 sets : List (Addr × List Int)
inductive Fl where
 | next | brk | cont
 | ret (v : V)
noncomputable def lO (n : Nat) : Bool := decide (n ≤ 1000000)
noncomputable def intOk (i : Int) : Bool := decide (i.natAbs < 2 ^ 4000)
noncomputable def lA (O : Oj) (n : Nat) : Option (List V) := match O[n]? with
 | some o => (match o with
  | .list l => some l
  | _ => none)
 | none => none
noncomputable def dictAt (O : Oj) (n : Nat) : Option (List (V × V)) := match O[n]? with
 | some o => (match o with
  | .dI l => some (l.map fun e => (.int e.1, e.2))
  | .dS l => some (l.map fun e => (.str e.1, e.2))
  | _ => none)
 | none => none
noncomputable def putD {K : Type} [DecidableEq K] (l : List (K × V)) (k : K) (v : V) : List (K × V) := if l.any (fun e => decide (e.1 = k)) then l.map fun e => if e.1 = k then (e.1, v) else e else l ++ [(k, v)]
noncomputable def getD {K : Type} [DecidableEq K] (l : List (K × V)) (k : K) : Option V := (l.find? fun e => decide (e.1 = k)).map (·.2)
noncomputable def setD (O : Oj) (n : Nat) (k v : V) : Option Oj := match O[n]? with
 | some o => (match o with
  | .dI l => (match k with
   | .int i => if lO l.length then some (O.set n (.dI (putD l i v))) else none
   | .str x => if l.isEmpty then some (O.set n (.dS [(x, v)])) else none
   | _ => none)
  | .dS l => (match k with
   | .str x => if lO l.length then some (O.set n (.dS (putD l x v))) else none
   | _ => none)
  | _ => none)
 | none => none
noncomputable def entryAt (O : Oj) (n : Nat) (k : V) : Option (Option V) := match O[n]? with
 | some o => (match o with
  | .dI l => (match k with
   | .int i => some (getD l i)
   | _ => none)
  | .dS l => (match k with
   | .str x => some (getD l x)
   | _ => none)
  | _ => none)
 | none => none
noncomputable def iO (O : Oj) (v : V) : Option (List V) := match v with
 | .lst l => some l
 | .ref n => lA O n
 | _ => none
noncomputable def pyEqs (f : V → V → Option Bool) : List V → List V → Option Bool
 | [], [] => some true
 | a :: l, b :: r => (f a b).bind fun x => (pyEqs f l r).map fun y => x && y
 | _, _ => none
noncomputable def eqL (O : Oj) (f : V → V → Option Bool) (l : List V) (b : V) : Option Bool := (iO O b).bind fun r => if l.length == r.length then pyEqs f l r else some false
noncomputable def leafEq (a b : V) : Option Bool := match a with
 | .none => (match b with | .none => some true | _ => none)
 | .bool a => (match b with | .bool b => some (a == b) | _ => none)
 | .int a => (match b with | .int b => some (decide (a = b)) | _ => none)
 | .str a => (match b with | .str b => some (decide (a = b)) | _ => none)
 | _ => none
noncomputable def pyEq (O : Oj) : Nat → V → V → Option Bool
 | 0, _, _ => none
 | n + 1, a, b => match a with
  | .tup a => (match b with | .tup b => if a.length == b.length then pyEqs (pyEq O n) a b else none | _ => none)
  | .lst l => eqL O (pyEq O n) l b
  | .ref k => (lA O k).bind fun l => eqL O (pyEq O n) l b
  | a => leafEq a b
noncomputable def clipV (n step : Int) (v : Option Int) (dflt : Int) : Int := match v with
 | none => dflt
 | some i =>
  let i := if i < 0 then i + n else i
  if step > 0 then max 0 (min i n) else max (-1) (min i (n - 1))
noncomputable def sliceIdx (lo hi st : Option Int) (len : Nat) : Option (List Nat) :=
 let step := st.getD 1
 if step == 0 then none else
 let n : Int := len
 some (sliceRange (clipV n step lo (if step > 0 then 0 else n - 1)) (clipV n step hi (if step > 0 then n else -1)) step)
noncomputable def picked {α : Type} (l : List α) (is : List Nat) : List α := is.filterMap fun i => l[i]?
noncomputable def findT (x y : List Nat) (lo hi : Nat) : Int := match Builtin.Str.occurrences (S x) (S y) lo hi 1 with
 | i :: _ => (i : Int)
 | [] => -1
noncomputable def rfindT (x y : List Nat) (lo hi : Nat) : Int := match Builtin.Str.lastOccurrence (S x) (S y) lo hi with
 | some i => (i : Int)
 | none => -1
noncomputable def clipT (n : Nat) (v : Int) : Nat := (max 0 (if v < 0 then v + n else v)).toNat
noncomputable def strsV : List V → Option (List (List Nat))
 | [] => some []
 | v :: r => match v with
  | .str l => (strsV r).map (l :: ·)
  | _ => none
noncomputable def intsV : List V → Option (List Int)
 | [] => some []
 | v :: r => match v with
  | .int i => (intsV r).map (i :: ·)
  | _ => none
noncomputable def truthV (O : Oj) (v : V) : Option Bool := match v with
 | .none => some false
 | .bool b => some b
 | .int i => some (decide (i ≠ 0))
 | .str l => if lO l.length then some (!l.isEmpty) else none
 | .lst l => if lO l.length then some (!l.isEmpty) else none
 | .ref n => (lA O n).bind fun l => if lO l.length then some (!l.isEmpty) else none
 | _ => none
noncomputable def writeOk (b n : Nat) (v : V) : Bool := decide (b ≤ n) || v.pure
noncomputable def int2 (a c : V) (f : Int → Int → Option V) : Option V := match a with
 | .int x => (match c with | .int y => f x y | _ => none)
 | _ => none
noncomputable def addL (O : Oj) (l : List V) (c : V) : Option V := (iO O c).bind fun r => if lO (l.length + r.length) then some (.lst (l ++ r)) else none
noncomputable def addV (O : Oj) (a c : V) : Option V := match a with
 | .int x => (match c with | .int y => some (.int (x + y)) | _ => none)
 | .str x => (match c with | .str y => if lO (x.length + y.length) then some (.str (x ++ y)) else none | _ => none)
 | .tup x => (match c with | .tup y => if !x.isEmpty && !y.isEmpty && lO (x.length + y.length) then some (.tup (x ++ y)) else none | _ => none)
 | .lst l => addL O l c
 | .ref n => (lA O n).bind fun l => addL O l c
 | _ => none
noncomputable def mulL (l : List V) (y : Int) : Option V := if 0 ≤ y && y < 1000 && lO (l.length * y.toNat) then some (.lst ((replicate y.toNat l).flatten)) else none
noncomputable def mulV (O : Oj) (a c : V) : Option V := match c with
 | .int y => (match a with
  | .int x => if intOk x && intOk y then some (.int (x * y)) else none
  | .lst l => mulL l y
  | .ref n => (lA O n).bind fun l => mulL l y
  | _ => none)
 | _ => none
noncomputable def binV (O : Oj) (op : Operator) (a c : V) : Option V := match op with
 | .Add => addV O a c
 | .Mult => mulV O a c
 | .Sub => int2 a c fun x y => some (.int (x - y))
 | .FloorDiv => int2 a c fun x y => if y > 0 && intOk y then some (.int (x / y)) else none
 | .Mod => int2 a c fun x y => if y > 0 then some (.int (x % y)) else none
 | .Pow => int2 a c fun x y => if (x == 2 || x == 3 || x == 4 || x == 10 || x == 64) && 0 ≤ y && y < 600 then some (.int (x ^ y.toNat)) else none
 | .LShift => int2 a c fun x y => if 0 ≤ x && 0 ≤ y && y < 64 && intOk x then some (.int (x * 2 ^ y.toNat)) else none
 | .BitAnd => int2 a c fun x y => if 0 ≤ x && 0 ≤ y then some (.int ((x.toNat &&& y.toNat : Nat) : Int)) else none
 | .BitOr => int2 a c fun x y => if 0 ≤ x && 0 ≤ y then some (.int ((x.toNat ||| y.toNat : Nat) : Int)) else none
 | .BitXor => int2 a c fun x y => if 0 ≤ x && 0 ≤ y then some (.int ((x.toNat ^^^ y.toNat : Nat) : Int)) else none
 | _ => none
noncomputable def negV (v : V) : Option V := match v with
 | .int i => if intOk i then some (.int (-i)) else none
 | _ => none
noncomputable def isNone (v : V) : Option Bool := match v with
 | .none => some true
 | .cst _ => none
 | .rng _ _ _ => none
 | _ => some false
noncomputable def isV (a c : V) : Option Bool := match c with
 | .none => isNone a
 | .bool d => (match a with
  | .bool e => some (e == d)
  | .none => some false
  | _ => none)
 | _ => none
noncomputable def anyEq : List V → V → Option Bool
 | [], _ => some false
 | x :: l, v => (leafEq x v).bind fun t => (anyEq l v).map fun u => t || u
noncomputable def inV (G : Glob) (O : Oj) (x c : V) : Option Bool := match c with
 | .str l => (match x with
  | .str y => some (!(Builtin.Str.occurrences (S l) (S y) 0 l.length 1).isEmpty)
  | _ => none)
 | .lst l => anyEq l x
 | .ref n => (lA O n).bind fun l => anyEq l x
 | .cst d => (match d with
  | .ref a => (G.sets.lookup a).bind fun l => (match x with
   | .int i => if 0 ≤ i && i.toNat < 2 ^ 60 then some (l.contains i) else none
   | _ => none)
  | _ => none)
 | _ => none
noncomputable def inD (G : Glob) (O : Oj) (x c : V) : Option Bool := match c with
 | .ref n => (match entryAt O n x with
  | some r => some r.isSome
  | none => inV G O x c)
 | c => inV G O x c
noncomputable def pair2 (v : V) : Option (V × V) := match v with
 | .tup l => (match l with
  | [] => none
  | x :: l => (match l with
   | [] => none
   | y :: l => (match l with
    | [] => some (x, y)
    | _ => none)))
 | _ => none
noncomputable def lt2 (a c : Int) (y u : V) : Option Bool := match y with
 | .int b => (match u with | .int d => some (decide (a < c) || (decide (a = c) && decide (b < d))) | _ => none)
 | .bool _ => (match u with | .bool _ => if a = c then none else some (decide (a < c)) | _ => none)
 | _ => none
noncomputable def ltV (a c : V) : Option Bool := (pair2 a).bind fun p => (pair2 c).bind fun q => match p.1 with
 | .int a => (match q.1 with
  | .int c => lt2 a c p.2 q.2
  | _ => none)
 | _ => none
noncomputable def int2b (a c : V) (f : Int → Int → Bool) : Option Bool := match a with
 | .int x => (match c with | .int y => some (f x y) | _ => none)
 | _ => none
noncomputable def cmpV (G : Glob) (O : Oj) (op : CmpOp) (a c : V) : Option Bool := match op with
 | .Eq => pyEq O 9 a c
 | .NotEq => (pyEq O 9 a c).map (!·)
 | .Lt => int2b a c fun x y => decide (x < y)
 | .LtE => int2b a c fun x y => decide (x ≤ y)
 | .Gt => int2b a c fun x y => decide (x > y)
 | .GtE => int2b a c fun x y => decide (x ≥ y)
 | .Is => isV a c
 | .IsNot => (isV a c).map (!·)
 | .In => inD G O a c
 | .NotIn => (inD G O a c).map (!·)
noncomputable def optInt (v : V) : Option (Option Int) := match v with
 | .none => some none
 | .int i => some (some i)
 | _ => none
noncomputable def kOk (k : Int) : Bool := decide (k.natAbs < 2 ^ 60)
noncomputable def atV (l : List V) (k : Int) : Option V := if kOk k then (seqIndex? k l.length).bind (l[·]?) else none
noncomputable def indexV (O : Oj) (c i : V) : Option V := match i with
 | .int k => (match c with
  | .tup l => atV l k
  | .lst l => atV l k
  | .ref n => (lA O n).bind fun l => atV l k
  | .str l => if kOk k then (seqIndex? k l.length).bind fun j => (l[j]?).map fun c => .str [c] else none
  | _ => none)
 | _ => none
noncomputable def idxV (O : Oj) (c i : V) : Option V := match c with
 | .ref n => (match entryAt O n i with
  | some r => r
  | none => indexV O c i)
 | c => indexV O c i
noncomputable def putV (O : Oj) (b : Nat) (d k v : V) : Option Oj := match d with
 | .ref n => if writeOk b n v then setD O n k v else none
 | _ => none
noncomputable def sliceV (O : Oj) (c lo hi st : V) : Option V :=
 (optInt lo).bind fun lo => (optInt hi).bind fun hi => (optInt st).bind fun st => match c with
  | .str l => if lO l.length && st.isNone then (sliceIdx lo hi st l.length).map fun is => .str (picked l is) else none
  | .lst l => if lO l.length then (sliceIdx lo hi st l.length).map fun is => .lst (picked l is) else none
  | .ref n => (lA O n).bind fun l => if lO l.length then (sliceIdx lo hi st l.length).map fun is => .lst (picked l is) else none
  | _ => none
noncomputable def nodupB : List Str → Bool
 | [] => true
 | x :: r => !r.contains x && nodupB r
noncomputable def addKw (allowed : List Str) : List (Str × V) → List (Str × V) → Option (List (Str × V))
 | slots, [] => some slots
 | slots, e :: r => if allowed.contains e.1 && (slots.lookup e.1).isNone then addKw allowed (slots ++ [e]) r else none
noncomputable def addD : List (Str × V) → List (Str × V) → List (Str × V)
 | slots, [] => slots
 | slots, e :: r => if (slots.lookup e.1).isNone then addD (slots ++ [e]) r else addD slots r
noncomputable def addKwd (kwd : List (Str × V)) : List (Str × V) → List Str → Option (List (Str × V))
 | slots, [] => some slots
 | slots, n :: r => if (slots.lookup n).isNone then (kwd.lookup n).bind fun v => addKwd kwd (slots ++ [(n, v)]) r else addKwd kwd slots r
noncomputable def bindV (ps : Arguments) (dfl : List V) (kwd : List (Str × V)) (pos : List V) (kw : List (Str × V)) : Option (List (Str × V)) :=
 let normal := ps.args.map (·.arg)
 let kwonly := ps.kwonlyargs.map (·.arg)
 if ps.posonlyargs.isEmpty && ps.vararg.isNone && ps.kwarg.isNone && decide (pos.length ≤ normal.length) && nodupB (normal ++ kwonly) then
  (addKw (normal ++ kwonly) (normal.zip pos) kw).bind fun slots =>
   let d := dfl.drop (dfl.length - normal.length)
   let fd := normal.length - d.length
   if ((normal.take fd).filter fun n => (slots.lookup n).isNone).isEmpty then
    (addKwd kwd (addD slots ((normal.drop fd).zip d)) kwonly).map fun slots => (normal ++ kwonly).filterMap fun n => (slots.lookup n).map (n, ·)
   else none
 else none
noncomputable def okVars (names : Names) (vars : List (Str × V)) : Bool := vars.all fun x => names.lookup x.1 == some .local || names.lookup x.1 == some .cell
noncomputable def freeze (O : Oj) (b : Nat) : Nat → V → Option V
 | 0, _ => none
 | n + 1, v => match v with
  | .ref k => if k < b then some v else (lA O k).bind fun l => (l.mapM (freeze O b n)).map .lst
  | .tup l => (l.mapM (freeze O b n)).map .tup
  | .lst l => (l.mapM (freeze O b n)).map .lst
  | v => some v
noncomputable def leave (b : Nat) (v : V) (O : Oj) : Option V := freeze O b 4 v
noncomputable def rngOk (a b c : Int) : Bool := decide (a.natAbs < 2 ^ 60) && decide (b.natAbs < 2 ^ 60) && c == 1 || (a == 5 && b == -1 && c == -1)
theorem nat_bound (h : a.natAbs < 2 ^ 60) : -(2 ^ 62) ≤ a ∧ a < 2 ^ 62 := by omega
theorem rngOk_small {b c : Int} (h : rngOk a b c = true) : Builtin.Range.small a b c = true := by
 rcases or_eq_true_iff.mp h with h | h
 ·obtain ⟨h, h3⟩ := and_eq_true_iff.mp h
  obtain ⟨h1, h2⟩ := and_eq_true_iff.mp h
  have n1 := nat_bound (of_decide_eq_true h1)
  have n2 := nat_bound (of_decide_eq_true h2)
  cases eq_of_beq h3
  exact small_one n1.1 n1.2 n2.1 n2.2
 ·obtain ⟨h, h3⟩ := and_eq_true_iff.mp h
  obtain ⟨h1, h2⟩ := and_eq_true_iff.mp h
  cases eq_of_beq h1
  cases eq_of_beq h2
  cases eq_of_beq h3
  decide
noncomputable def rangeL (a b c : Int) : List Int := (List.range (Builtin.Range.rangeSize a b c).toNat).map fun (k : Nat) => a + k * c
inductive Src where
 | items (l : List V)
 | live (n : Nat) (k : Nat)
 | keys (n : Nat) (k : Nat) (m : Nat)
noncomputable def srcOf (O : Oj) (v : V) : Option Src := match v with
 | .lst l => some (.items l)
 | .str l => some (.items (l.map fun c => .str [c]))
 | .rng a b c => if rngOk a b c && lO (rangeL a b c).length then some (.items ((rangeL a b c).map .int)) else none
 | .ref n => (match lA O n with
  | some _ => some (.live n 0)
  | none => (dictAt O n).map fun l => .keys n 0 l.length)
 | _ => none
noncomputable def nextOf (O : Oj) (s : Src) : Option (Option (V × Src)) := match s with
 | .items l => (match l with
  | [] => some none
  | v :: l => some (some (v, .items l)))
 | .live n k => (lA O n).map fun l => (l[k]?).map fun v => (v, .live n (k + 1))
 | .keys n k m => (dictAt O n).bind fun l => if l.length = m then some ((l[k]?).map fun e => (e.1, .keys n (k + 1) m)) else none
noncomputable def runK {α : Type} (f : Nat → Nat → Option Bool) : KasT α → Option α
 | .ret a => some a
 | .ask i j k => (f i j).bind fun c => runK f (k c)
noncomputable def pairI (v : V) : Bool := match pair2 v with
 | some p => (match p.1 with
  | .int _ => (match p.2 with | .int _ => true | .bool _ => true | _ => false)
  | _ => false)
 | none => false
noncomputable def ltAtV (l : List V) (i j : Nat) : Option Bool := (l[i]?).bind fun a => (l[j]?).bind fun b => ltV a b
noncomputable def sortV (l : List V) : Option (List V) := if l.all pairI then (runK (ltAtV l) (kas_sort l.length)).bind fun p => if p.toList.all (fun i => decide (i < l.length)) then some (picked l p.toList) else none else none
noncomputable def allItems (O : Oj) (v : V) : Option (List V) := match v with
 | .str l => some (l.map fun c => .str [c])
 | .rng a b c => if rngOk a b c && lO (rangeL a b c).length then some ((rangeL a b c).map .int) else none
 | v => iO O v
noncomputable def lenV (O : Oj) (v : V) : Option V := match v with
 | .str l => if lO l.length then some (.int l.length) else none
 | .lst l => if lO l.length then some (.int l.length) else none
 | .ref n => (lA O n).bind fun l => if lO l.length then some (.int l.length) else none
 | _ => none
noncomputable def lenD (O : Oj) (v : V) : Option V := match v with
 | .ref n => (match dictAt O n with
  | some l => if lO l.length then some (.int l.length) else none
  | none => lenV O v)
 | v => lenV O v
noncomputable def one (a : List V) (f : V → Option (V × Oj)) : Option (V × Oj) := match a with
 | [v] => f v
 | _ => none
noncomputable def asInt (v : V) (f : Int → Option (V × Oj)) : Option (V × Oj) := match v with
 | .int i => f i
 | _ => none
noncomputable def asStr (v : V) (f : List Nat → Option (V × Oj)) : Option (V × Oj) := match v with
 | .str i => f i
 | _ => none
noncomputable abbrev Fn := List V → Oj → Option (V × Oj)
noncomputable def bLen : Fn := fun a O => one a fun v => (lenD O v).map fun r => (r, O)
noncomputable def bSum : Fn := fun a O => one a fun v => (iO O v).bind fun l => (intsV l).bind fun is => if is.all (fun i => decide (0 ≤ i)) && decide (is.sum.toNat < 2 ^ 62) && lO l.length then some (.int is.sum, O) else none
noncomputable def bIter : Fn := fun a O => one a fun v => match v with
 | .lst l => some (.ref O.length, O ++ [.iter l])
 | _ => none
noncomputable def iterAt (O : Oj) (n : Nat) : Option (List V) := match O[n]? with
 | some o => (match o with
  | .iter l => some l
  | _ => none)
 | none => none
noncomputable def bNext : Fn := fun a O => one a fun v => match v with
 | .ref n => (iterAt O n).bind fun l => match l with
  | v :: l => some (v, O.set n (.iter l))
  | [] => none
 | _ => none
noncomputable def bChr : Fn := fun a O => one a fun v => asInt v fun i => if 0 ≤ i && (i.toNat < 55000 || ble 60000 i.toNat && i.toNat < 1000000) then some (.str [i.toNat], O) else none
noncomputable def bOrd : Fn := fun a O => one a fun v => asStr v fun l => match l with
 | [c] => some (.int c, O)
 | _ => none
noncomputable def bHex : Fn := fun a O => one a fun v => asInt v fun i => if 0 ≤ i && i.toNat < 2 ^ 64 then some (.str (48 :: 120 :: (toDigits 16 i.toNat).map Char.toNat), O) else none
noncomputable def two (a : List V) (f : V → V → Option (V × Oj)) : Option (V × Oj) := match a with
 | [u, v] => f u v
 | _ => none
noncomputable def bSorted : Fn := fun a O => one a fun v => (iO O v).bind fun l => if 2 ≤ l.length && l.length < 64 then (sortV l).map fun r => (.lst r, O) else none
noncomputable def callB (id : Str) (a : List V) (b : Nat) (O : Oj) : Option (V × Oj) :=
 if id == ("len" : Str) then bLen a O
 else if id == ("sum" : Str) then bSum a O
 else if id == ("iter" : Str) then bIter a O
 else if id == ("next" : Str) then bNext a O
 else if id == ("chr" : Str) then bChr a O
 else if id == ("ord" : Str) then bOrd a O
 else if id == ("hex" : Str) then bHex a O
 else if id == ("sorted" : Str) then bSorted a O
 else none
noncomputable def yRange : Fn := fun a O => match a with
 | [v] => asInt v fun y => if intOk y then some (.rng 0 y 1, O) else none
 | [u, v] => asInt u fun x => asInt v fun y => if intOk x && intOk y then some (.rng x y 1, O) else none
 | [u, v, t] => asInt u fun x => asInt v fun y => asInt t fun z => if intOk x && intOk y && (z == 1 || z == -1) then some (.rng x y z, O) else none
 | _ => none
noncomputable def deadIter (O : Oj) (v : V) : Option Nat := match v with
 | .ref n => (iterAt O n).bind fun l => if l.isEmpty then some n else none
 | _ => none
noncomputable def yList : Fn := fun a O => one a fun v => match deadIter O v with
 | some n => some (.ref O.length, O.set n .dead ++ [.list []])
 | none => (allItems O v).bind fun l => if lO l.length then some (.ref O.length, O ++ [.list l]) else none
noncomputable def strPair (v : V) : Option (List Nat × V) := (pair2 v).bind fun p => match p.1 with
 | .str x => some (x, p.2)
 | _ => none
noncomputable def strPairs : List V → Option (List (List Nat × V))
 | [] => some []
 | v :: r => (strPair v).bind fun p => (strPairs r).map (p :: ·)
noncomputable def putAll (d : List (List Nat × V)) (es : List (List Nat × V)) : List (List Nat × V) := es.foldl (fun d e => putD d e.1 e.2) d
noncomputable def yDict : Fn := fun a O => one a fun v => match v with
 | .lst l => if lO l.length then (strPairs l).map fun es => (.ref O.length, O ++ [.dS (putAll [] es)]) else none
 | _ => none
noncomputable def callY (id : Str) (a : List V) (b : Nat) (O : Oj) : Option (V × Oj) :=
 if id == ("range" : Str) then yRange a O
 else if id == ("list" : Str) then yList a O
 else if id == ("dict" : Str) then yDict a O
 else none
noncomputable def mSplit (x : List Nat) : Fn := fun a O => match a with
 | [] => if lO x.length && lO (Builtin.Str.spaceWords (S x) (x.length + 1)).length then some (.ref O.length, O ++ [.list ((Txt.words (S x)).map fun p => .str p.cps.toList)]) else none
 | [v] => asStr v fun y => if !y.isEmpty && lO x.length && lO (Builtin.Str.partsBetween (S x) (Builtin.Str.occurrences (S x) (S y) 0 x.length (x.length + 1)) y.length).length then some (.ref O.length, O ++ [.list ((Txt.split (S x) (S y)).map fun p => .str p.cps.toList)]) else none
 | _ => none
noncomputable def mJoin (x : List Nat) : Fn := fun a O => one a fun v => (iO O v).bind fun l => (strsV l).bind fun ts => if JoinOk (S x) (ts.map S) then some (.str (Txt.join (S x) (ts.map S)).cps.toList, O) else none
noncomputable def mStarts (x : List Nat) : Fn := fun a O => one a fun v => asStr v fun y => some (.bool (Txt.startswith (S x) (S y)), O)
noncomputable def mEnds (x : List Nat) : Fn := fun a O => one a fun v => asStr v fun y => some (.bool (Txt.endswith (S x) (S y)), O)
set_option backward.match.sparseCases true
noncomputable def mFind (x : List Nat) : Fn := fun a O => match a with
 | [v, i, j] => asStr v fun y => asInt i fun i => asInt j fun j => some (.int (findT x y (clipT x.length i) (min (clipT x.length j) x.length)), O)
 | _ => none
noncomputable def mRfind (x : List Nat) : Fn := fun a O => match a with
 | [v, i, j] => asStr v fun y => asInt i fun i => asInt j fun j => some (.int (rfindT x y (clipT x.length i) (min (clipT x.length j) x.length)), O)
 | _ => none
set_option backward.match.sparseCases false
noncomputable def mLower (x : List Nat) : Fn := fun a O => match a with
 | [] => if lO (Txt.lower (S x)).length then some (.str (Txt.lower (S x)).cps.toList, O) else none
 | _ => none
noncomputable def methS (name : Str) (x : List Nat) (a : List V) (O : Oj) : Option (V × Oj) :=
 if name == ("split" : Str) then mSplit x a O
 else if name == ("join" : Str) then mJoin x a O
 else if name == ("startswith" : Str) then mStarts x a O
 else if name == ("endswith" : Str) then mEnds x a O
 else if name == ("find" : Str) then mFind x a O
 else if name == ("lower" : Str) then mLower x a O
 else if name == ("rfind" : Str) then mRfind x a O
 else none
noncomputable def lAppend (n : Nat) (l : List V) (b : Nat) : Fn := fun a O => one a fun v => if writeOk b n v && lO l.length then some (.none, O.set n (.list (l ++ [v]))) else none
noncomputable def lInsert (n : Nat) (l : List V) (b : Nat) : Fn := fun a O => two a fun i v => asInt i fun i => if 0 ≤ i && i ≤ l.length && writeOk b n v && lO l.length then some (.none, O.set n (.list (l.take i.toNat ++ v :: l.drop i.toNat))) else none
noncomputable def lPop (n : Nat) (l : List V) : Fn := fun a O => match a with
 | [] => (l[l.length - 1]?).bind fun v => if lO l.length then some (v, O.set n (.list (l.eraseIdx (l.length - 1)))) else none
 | _ => none
noncomputable def cntB (t : Bool) : List V → Option Nat
 | [] => some 0
 | v :: r => match v with
  | .none => cntB t r
  | .bool c => (cntB t r).map fun k => if c == t then k + 1 else k
  | _ => none
noncomputable def lCount (l : List V) : Fn := fun a O => one a fun v => match v with
 | .bool t => (cntB t l).map fun k => (.int (k : Nat), O)
 | _ => none
noncomputable def methL (name : Str) (n : Nat) (l : List V) (a : List V) (b : Nat) (O : Oj) : Option (V × Oj) :=
 if name == ("append" : Str) then lAppend n l b a O
 else if name == ("insert" : Str) then lInsert n l b a O
 else if name == ("pop" : Str) then lPop n l a O
 else none
noncomputable def tGet (es : List (Int × List Nat)) (i : Int) (d : V) : V := match es.lookup i with
 | some x => .str x
 | none => d
noncomputable def methT (G : Glob) (name : Str) (ad : Addr) (a : List V) : Option V :=
 if name == ("get" : Str) then (G.tabs.lookup ad).bind fun es => match a with
  | [v] => (match v with | .int i => if 0 ≤ i && i.toNat < 2 ^ 60 then some (tGet es i .none) else none | _ => none)
  | [v, d] => (match v with | .int i => if 0 ≤ i && i.toNat < 2 ^ 60 then some (tGet es i d) else none | _ => none)
  | _ => none
 else none
set_option backward.match.sparseCases true
end
section
variable {t : Bool} {A : Prop}
inductive LfI {α : Type} (o : Option α) (Q : α → Prop) : Prop where
 | mk (v : α) (h : o = some v) (q : Q v) : LfI o Q
noncomputable def Lf {α : Type} (o : Option α) (Q : α → Prop) : Prop := match o with
 | some v => Q v
 | none => False
theorem Lf.out {α : Type} {o : Option α} {Q : α → Prop} (h : Lf o Q) : LfI o Q := match o, h with
 | some v, h => ⟨v, rfl, h⟩
theorem Lf.of {α : Type} {o : Option α} {Q : α → Prop} {v : α} (h : o = some v) (q : Q v) : Lf o Q := by subst h; exact q
noncomputable def sel (t : Bool) (A B : Prop) : Prop := match t with
 | true => A
 | false => B
noncomputable def Gd (t : Bool) (A : Prop) : Prop := match t with
 | true => A
 | false => False
theorem Gd.out (h : Gd t A) : t = true ∧ A := match t, h with
 | true, h => ⟨rfl, h⟩
structure WI where
 e : Expr → List Fr → Nat → (V → Oj → Prop) → Oj → Prop
 l : Expr → List Fr → Nat → (V → Oj → Prop) → Oj → Prop
 t : Expr → List Fr → Nat → (Bool → Oj → Prop) → Oj → Prop
 s : Stmt → List Fr → Nat → (Fl → List Fr → Oj → Prop) → Oj → Prop
 c : V → List V → List (Str × V) → Nat → (V → Oj → Prop) → Oj → Prop
 k : V → List V → List (Str × V) → Str → Clo → List Fr → Nat → (V → Oj → Prop) → Oj → Prop
noncomputable def getFree : List Fr → Nat → Str → Option V
 | [], _, _ => none
 | _ :: r, k + 1, x => getFree r k x
 | f :: r, 0, x => (f.names.lookup x).bind fun k => match k with
  | .cell => f.get x
  | .free => getFree r f.up x
  | _ => none
noncomputable def getV (G : Glob) (F : List Fr) (x : Str) : Option V := match F with
 | [] => none
 | f :: r => (f.names.lookup x).bind fun k => match k with
  | .local => f.get x
  | .cell => f.get x
  | .free => getFree r f.up x
  | .globalImplicit => G.names.lookup x
  | _ => none
noncomputable def setVar : Vars → Str → V → Vars
 | [], x, v => [(x, some v)]
 | e :: r, x, v => if e.1 == x then (x, some v) :: r else e :: setVar r x v
noncomputable def ownK (k : Option NameKind) : Bool := match k with
 | some .local => true
 | some .cell => true
 | _ => false
noncomputable def pad (names : Names) (vars : List (Str × V)) : Vars := vars.map (fun x => (x.1, some x.2)) ++ (names.filter fun x => ownK (some x.2) && (vars.lookup x.1).isNone).map fun x => (x.1, none)
noncomputable def cloAt (F : List Fr) (x : Str) : Option Clo := match F with
 | [] => none
 | f :: _ => match f.clo with
  | some c => if c.name == x then some c else none
  | none => none
noncomputable def topGet (F : List Fr) (x : Str) : Option V := match F with
 | [] => none
 | f :: _ => f.get x
noncomputable def withClo (F : List Fr) (c : Clo) : Option (List Fr) := match F with
 | [] => none
 | f :: r => if f.names.lookup c.name == some .local then some (⟨f.names, f.vars, f.lam, f.up, some c⟩ :: r) else none
noncomputable def keptClo (c : Option Clo) (x : Str) : Option Clo := match c with
 | some c => if c.name == x then none else some c
 | none => none
noncomputable def setTop (F : List Fr) (x : Str) (v : V) : Option (List Fr) := match F with
 | [] => none
 | f :: r => if ownK (f.names.lookup x) then some (⟨f.names, setVar f.vars x v, f.lam, f.up, keptClo f.clo x⟩ :: r) else none
set_option backward.match.sparseCases false
noncomputable def setAll : List Fr → List Expr → List V → Option (List Fr)
 | F, [], [] => some F
 | F, e :: r, v :: vs => (match e with
  | .Name x _ => (setTop F x v).bind fun F1 => setAll F1 r vs
  | _ => none)
 | _, _, _ => none
noncomputable def setTgt (F : List Fr) (t : Expr) (v : V) : Option (List Fr) := match t with
 | .Name x _ => setTop F x v
 | .Tuple es _ _ => (match v with
  | .tup vs => setAll F es vs
  | _ => none)
 | _ => none
noncomputable def starFree : List Expr → Bool
 | [] => true
 | e :: r => match e with
  | .Starred _ _ => false
  | _ => starFree r
noncomputable def okEs (es : List Expr) : Bool := starFree es && decide (es.length ≤ 1000)
noncomputable def okNm (x : Str) : Bool := !(x == ("__debug__" : Str) || x == ("__classdict__" : Str))
noncomputable def noSet (e : Expr) : Bool := match e with
 | .Set _ _ _ => false
 | _ => true
noncomputable def okBase (e : Expr) : Bool := match e with
 | .Call f args ks _ => (match f with
  | .Name _ _ => !(args.isEmpty && ks.isEmpty)
  | _ => true)
 | _ => true
set_option backward.match.sparseCases true
noncomputable def okScope (sc : Scope) : Bool := sc.kind == .function && !sc.isGenerator && !sc.isCoroutine && sc.names.all fun x => x.2 == .free || x.2 == .globalImplicit || (x.2 == .local || x.2 == .cell) && sc.names.lookup x.1 == some x.2
noncomputable def freeAt (F : List Fr) (x : Str) : Bool := match F with
 | [] => false
 | f :: _ => match f.names.lookup x with
  | some .cell => true
  | some .free => true
  | _ => false
noncomputable def freeOk (F : List Fr) (names : Names) : Bool := names.all fun x => x.2 != .free || freeAt F x.1
noncomputable def okLam0 (args : Arguments) (sc : Scope) : Bool := args.defaults.isEmpty && args.kw_defaults.isEmpty && args.posonlyargs.isEmpty && args.kwonlyargs.isEmpty && args.vararg.isNone && args.kwarg.isNone && okScope sc
noncomputable def okLam (args : Arguments) (sc : Scope) : Bool := okLam0 args sc && !sc.names.any (fun x => x.2 == .free)
noncomputable def lamFree (F : List Fr) : Bool := F.all fun f => !f.lam
noncomputable def kindAt (F : List Fr) (x : Str) : Option NameKind := match F with
 | [] => none
 | f :: _ => f.names.lookup x
noncomputable def swapNames (kind : Str → Option NameKind) (line : Nat) (ts : List Expr) : List Str := ts.filterMap fun t => match t with
 | .Name id pos => if kind id == some .local && pos.line == line then some id else none
 | _ => none
noncomputable def starB (vs : List Expr) : Bool := vs.any fun e => match e with
 | .Starred .. => true
 | _ => false
noncomputable def swapB (kind : Str → Option NameKind) (ts : List Expr) (e : Expr) : Option (Option (List Str)) := match e with
 | .Tuple vs _ _ =>
  if !(ts.length == 2 || ts.length == 3) || vs.length != ts.length then some none
  else if starB vs then some none
  else
   if (swapNames kind ((ts.head?.map (·.pos.line)).getD 0) ts).length != ts.length || (swapNames kind ((ts.head?.map (·.pos.line)).getD 0) ts).eraseDups.length != (swapNames kind ((ts.head?.map (·.pos.line)).getD 0) ts).length then some none
   else if vs.all (foldedForSure 8) then some none
   else if vs.all (constantsAlone 8) then none
   else some (some (swapNames kind ((ts.head?.map (·.pos.line)).getD 0) ts))
 | _ => some none
set_option backward.match.sparseCases false
noncomputable def okTargets (F : List Fr) (ts : List Expr) : Bool := ts.all fun t => match t with
 | .Name x _ => ownK (kindAt F x)
 | _ => true
noncomputable def setNames (F : List Fr) : List Str → List V → Option (List Fr)
 | [], [] => some F
 | x :: r, v :: vs => (setTop F x v).bind fun F1 => setNames F1 r vs
 | _, _ => none
noncomputable def noComp (e : Expr) : Bool := match e with
 | .ListComp .. => false
 | .SetComp .. => false
 | .DictComp .. => false
 | _ => true
set_option backward.match.sparseCases true
noncomputable def pushAt (O : Oj) (m : Nat) (v : V) : Option Oj := (lA O m).bind fun l => if lO l.length then some (O.set m (.list (l ++ [v]))) else none
section
variable (G : Glob) (J : WI)
noncomputable def wes (f : Expr → List Fr → Nat → (V → Oj → Prop) → Oj → Prop) : List Expr → List Fr → Nat → (List V → Oj → Prop) → Oj → Prop
 | [], _, _, Q, O => Q [] O
 | e :: r, F, b, Q, O => f e F b (fun v O1 => wes f r F b (fun vs O2 => Q (v :: vs) O2) O1) O
noncomputable def wOpt (e : Option Expr) (F : List Fr) (b : Nat) (Q : V → Oj → Prop) (O : Oj) : Prop := match e with
 | none => Q .none O
 | some e => J.e e F b Q O
noncomputable def wks : List Keyword → List Fr → Nat → (List (Str × V) → Oj → Prop) → Oj → Prop
 | [], _, _, Q, O => Q [] O
 | k :: r, F, b, Q, O => match k.arg with
  | some n => J.e k.value F b (fun v O1 => wks r F b (fun vs O2 => Q ((n, v) :: vs) O2) O1) O
  | none => False
noncomputable def wAnd (op : BoolOp) : List Expr → List Fr → Nat → (V → Oj → Prop) → Oj → Prop
 | [], _, _, _, _ => False
 | e :: r, F, b, Q, O => J.e e F b (fun v O1 => match r with
  | [] => Q v O1
  | _ => Lf (truthV O1 v) fun t => sel (match op with | .And => t | .Or => !t) (wAnd op r F b Q O1) (Q v O1)) O
noncomputable def wTs (op : BoolOp) : List Expr → List Fr → Nat → (Bool → Oj → Prop) → Oj → Prop
 | [], _, _, Q, O => Q (match op with | .And => true | .Or => false) O
 | e :: r, F, b, Q, O => J.t e F b (fun t O1 => sel (match op with | .And => t | .Or => !t) (wTs op r F b Q O1) (Q t O1)) O
noncomputable def wChain (a : V) : List CmpOp → List Expr → List Fr → Nat → (Bool → Oj → Prop) → Oj → Prop
 | op :: ops, e :: es, F, b, Q, O => Gd (!behindInMarks op e) (J.l e F b (fun v O1 => Lf (cmpV G O1 op a v) fun t => match ops with
  | [] => Q t O1
  | _ => sel t (wChain v ops es F b Q O1) (Q false O1)) O)
 | _, _, _, _, _, _ => False
noncomputable def xs : List Stmt → List Fr → Nat → (Fl → List Fr → Oj → Prop) → Oj → Prop
 | [], F, _, Q, O => Q .next F O
 | s :: r, F, b, Q, O => J.s s F b (fun f F1 O1 => match f with
  | .next => xs r F1 b Q O1
  | f => Q f F1 O1) O
noncomputable def whileW (test : Expr) (body : List Stmt) (b : Nat) (Q : Fl → List Fr → Oj → Prop) : Nat → List Fr → Oj → Prop
 | 0, _, _ => False
 | n + 1, F, O => J.t test F b (fun t O1 => sel t (xs J body F b (fun f F1 O2 => match f with
  | .next => whileW test body b Q n F1 O2
  | .cont => whileW test body b Q n F1 O2
  | .brk => Q .next F1 O2
  | .ret v => Q (.ret v) F1 O2) O1) (Q .next F O1)) O
structure WHILE (test : Expr) (body : List Stmt) (b : Nat) (Q : Fl → List Fr → Oj → Prop) (F : List Fr) (O : Oj) : Prop where
 is : whileW J test body b Q 300 F O
noncomputable def forW (tgt : Expr) (body orelse : List Stmt) (b : Nat) (Q : Fl → List Fr → Oj → Prop) : Nat → Src → List Fr → Oj → Prop
 | 0, _, _, _ => False
 | n + 1, src, F, O => Lf (nextOf O src) fun x => match x with
  | none => xs J orelse F b Q O
  | some p => Lf (setTgt F tgt p.1) fun F1 => xs J body F1 b (fun f F2 O2 => match f with
   | .next => forW tgt body orelse b Q n p.2 F2 O2
   | .cont => forW tgt body orelse b Q n p.2 F2 O2
   | .brk => Q .next F2 O2
   | .ret v => Q (.ret v) F2 O2) O
structure FOR (tgt : Expr) (body orelse : List Stmt) (b : Nat) (Q : Fl → List Fr → Oj → Prop) (src : Src) (F : List Fr) (O : Oj) : Prop where
 is : forW J tgt body orelse b Q 300 src F O
noncomputable def wIfs : List Expr → List Fr → Nat → (Bool → Oj → Prop) → Oj → Prop
 | [], _, _, Q, O => Q true O
 | e :: r, F, b, Q, O => J.t e F b (fun t O1 => sel t (wIfs r F b Q O1) (Q false O1)) O
noncomputable def compW (tgt : Expr) (ifs : List Expr) (elt : Expr) (m : Nat) (Q : Oj → Prop) : Nat → Src → List Fr → Oj → Prop
 | 0, _, _, _ => False
 | n + 1, src, F, O => Lf (nextOf O src) fun x => match x with
  | none => Q O
  | some p => Lf (setTgt F tgt p.1) fun F1 => wIfs J ifs F1 m (fun t O1 => sel t (J.e elt F1 m (fun v O2 => Lf (pushAt O2 m v) fun O3 => compW tgt ifs elt m Q n p.2 F1 O3) O1) (compW tgt ifs elt m Q n p.2 F1 O1)) O
structure COMP (tgt : Expr) (ifs : List Expr) (elt : Expr) (m : Nat) (Q : Oj → Prop) (src : Src) (F : List Fr) (O : Oj) : Prop where
 is : compW J tgt ifs elt m Q 300 src F O
noncomputable def isEnum (e : Expr) : Option (Str × Expr) := match e with
 | .Call f args ks _ => (match f with
  | .Name x _ => if x == ("enumerate" : Str) then (match args with
   | [a] => if ks.isEmpty then some (x, a) else none
   | _ => none) else none
  | _ => none)
 | _ => none
noncomputable def isTup (e : Expr) : Bool := match e with
 | .Tuple _ _ _ => true
 | _ => false
set_option backward.match.sparseCases false
noncomputable def enumV (v : V) : Option Src := match v with
 | .lst l => if lO l.length then some (.items (l.zipIdx.map fun y => .tup [.int y.2, y.1])) else none
 | _ => none
noncomputable def isEnumT (v : V) : Bool := match v with
 | .cst d => (match d with
  | .type t => t == "enumerate"
  | _ => false)
 | _ => false
set_option backward.match.sparseCases true
noncomputable def wSrc (tgt e : Expr) (F : List Fr) (b : Nat) (Q : Src → Oj → Prop) (O : Oj) : Prop := match isEnum e with
 | some p => Gd (starFree [p.2] && isTup tgt) (Lf (getV G F p.1) fun f => Gd (isEnumT f) (J.l p.2 F b (fun v O1 => Lf (enumV v) fun s => Q s O1) O))
 | none => Gd (noSet e) (J.l e F b (fun v O1 => Lf (srcOf O1 v) fun s => Q s O1) O)
noncomputable def lcEnd (m : Nat) (Q : V → Oj → Prop) (O : Oj) : Prop := Lf (lA O m) fun l => sel (pures l) (Q (.lst l) (O.take m)) (Q (.ref m) O)
noncomputable def wLc (elt : Expr) (gs : List Comprehension) (scope : Scope) (F : List Fr) (b : Nat) (Q : V → Oj → Prop) (O : Oj) : Prop := match gs with
 | [g] => Gd (g.is_async == 0 && okScope scope && freeOk F scope.names) (wSrc G J g.target g.iter F b (fun src O1 => COMP J g.target g.ifs elt O1.length (lcEnd O1.length Q) src (⟨scope.names, pad scope.names [], false, 0, none⟩ :: F) (O1 ++ [.list []])) O)
 | _ => False
inductive MT where
 | str | list | dict
noncomputable def MT.ty : MT → String
 | .str => "str"
 | .list => "list"
 | .dict => "dict"
set_option backward.match.sparseCases false
noncomputable def selfTy (G : Glob) (O : Oj) (v : V) : Option MT := match v with
 | .str _ => some .str
 | .lst _ => some .list
 | .ref n => (lA O n).map fun _ => .list
 | .cst d => (match d with
  | .ref ad => if (G.tabs.lookup ad).isSome then some .dict else none
  | _ => none)
 | _ => none
set_option backward.match.sparseCases true
noncomputable def methId (name : Str) (T : MT) : Option String := match T with
 | .str => if name == ("split" : Str) then some "str.split" else if name == ("join" : Str) then some "str.join" else if name == ("startswith" : Str) then some "str.startswith" else if name == ("endswith" : Str) then some "str.endswith"
  else if name == ("find" : Str) then some "str.find" else if name == ("lower" : Str) then some "str.lower" else if name == ("rfind" : Str) then some "str.rfind" else none
 | .list => if name == ("append" : Str) then some "list.append" else if name == ("insert" : Str) then some "list.insert" else if name == ("pop" : Str) then some "list.pop" else if name == ("count" : Str) then some "list.count" else none
 | .dict => if name == ("get" : Str) then some "dict.get" else none
noncomputable def methV (name : Str) (v : V) (a : List V) (b : Nat) (O : Oj) : Option (V × Oj) := match v with
 | .str x => methS name x a O
 | .lst l => if name == ("count" : Str) then lCount l a O else none
 | .ref n => (lA O n).bind fun l => methL name n l a b O
 | .cst d => (match d with
  | .ref ad => (methT G name ad a).map fun v => (v, O)
  | _ => none)
 | _ => none
set_option backward.match.sparseCases false
noncomputable def isStr (v : V) : Bool := match v with
 | .str _ => true
 | _ => false
set_option backward.match.sparseCases true
noncomputable def wMeth (o : Expr) (name : Str) (apos : Pos) (args : List Expr) (pos : Pos) (F : List Fr) (b : Nat) (Q : V → Oj → Prop) (O : Oj) : Prop :=
 Gd (apos.endLine == pos.line && okBase o && starFree args && decide (args.length < 20)) (J.e o F b (fun v O1 => Lf ((selfTy G O1 v).bind (methId name)) fun _ => wes (match isStr v with | true => J.l | false => J.e) args F b (fun a O2 => Lf (methV G name v a b O2) fun r => Q r.1 r.2) O1) O)
set_option backward.match.sparseCases false
noncomputable def isFn (v : V) : Option Bool := match v with
 | .cst d => (match d with
  | .builtin _ => some false
  | .type _ => some false
  | .ref ad => if (G.fns.lookup ad).isSome then some true else none
  | _ => none)
 | .lam _ _ _ => some true
 | _ => none
theorem Gd.of (h : t = true) (a : A) : Gd t A := by subst h; exact a
theorem Gd.nil {α : Type} {l : List α} (h : Gd l.isEmpty A) : l = [] ∧ A := match l, h with
 | [], h => ⟨rfl, h⟩
structure CALL (f : V) (a : List V) (ks : List (Str × V)) (b : Nat) (Q : V → Oj → Prop) (O : Oj) : Prop where
 is : J.c f a ks b Q O
set_option backward.match.sparseCases true
noncomputable def cloOr (n : Str) (c : Option Clo) (r : Option (Str × Clo)) : Option (Str × Clo) := match c with
 | some c => some (n, c)
 | none => r
noncomputable def cloKw1 (F : List Fr) (n : Str) (e : Expr) (r : Option (Str × Clo)) : Option (Str × Clo) := match e with
 | .Name x _ => cloOr n (cloAt F x) r
 | _ => r
noncomputable def cloKw (F : List Fr) : List Keyword → Option (Str × Clo)
 | [] => none
 | k :: r => (k.arg).bind fun n => cloKw1 F n k.value (cloKw F r)
structure CALLK (f : V) (a : List V) (ks : List (Str × V)) (n : Str) (c : Clo) (F : List Fr) (b : Nat) (Q : V → Oj → Prop) (O : Oj) : Prop where
 is : J.k f a ks n c F b Q O
noncomputable def wClo (c : Clo) (args : List Expr) (F : List Fr) (b : Nat) (Q : V → Oj → Prop) (O : Oj) : Prop :=
 wes J.e args F b (fun a O1 => Lf (bindV c.args [] [] a []) fun vars => Gd (okVars c.scope.names vars && okScope c.scope) (J.e c.body (⟨c.scope.names, pad c.scope.names vars, true, c.up, none⟩ :: F) O1.length (fun v O2 => Lf (leave O1.length v O2) fun r => Q r (O2.take O1.length)) O1)) O
set_option backward.match.sparseCases false
noncomputable def enumArg (args : List Expr) : Option (Str × Expr) := match args with
 | [a] => isEnum a
 | _ => none
noncomputable def isListT (v : V) : Bool := match v with
 | .cst d => (match d with
  | .type t => t == "list"
  | _ => false)
 | _ => false
noncomputable def enumL (v : V) : Option (List V) := match v with
 | .lst l => if lO l.length then some (l.zipIdx.map fun y => .tup [.int y.2, y.1]) else none
 | _ => none
set_option backward.match.sparseCases true
noncomputable def wBi (v : V) (args : List Expr) (F : List Fr) (b : Nat) (Q : V → Oj → Prop) (O : Oj) : Prop := match enumArg args with
 | some p => Gd (isListT v && starFree [p.2]) (Lf (getV G F p.1) fun f => Gd (isEnumT f) (J.l p.2 F b (fun u O1 => Lf (enumL u) fun l => Q (.ref O1.length) (O1 ++ [.list l])) O))
 | none => wes J.l args F b (fun a O2 => J.c v a [] b Q O2) O
noncomputable def wCallN (o : Option Clo) (x : Str) (p : Pos) (args : List Expr) (ks : List Keyword) (F : List Fr) (b : Nat) (Q : V → Oj → Prop) (O : Oj) : Prop := match o with
 | some c => Gd (starFree args && ks.isEmpty) (J.e (.Name x p) F b (fun v O1 => some v = topGet F x ∧ wClo J c args F b Q O1) O)
 | none => Gd (starFree args && ks.all fun k => k.arg.isSome) (J.e (.Name x p) F b (fun v O1 => Lf (isFn G v) fun t => sel t (wes J.e args F b (fun a O2 => wks J ks F b (fun k O3 => match cloKw F ks with
  | some e => CALLK J v a k e.1 e.2 F b Q O3
  | none => CALL J v a k b Q O3) O2) O1) (Gd ks.isEmpty (wBi G J v args F b Q O1))) O)
noncomputable def wCall (f : Expr) (args : List Expr) (ks : List Keyword) (pos : Pos) (F : List Fr) (b : Nat) (Q : V → Oj → Prop) (O : Oj) : Prop := match f with
 | .Attribute o name apos => Gd ks.isEmpty (wMeth G J o name apos args pos F b Q O)
 | .Name x p => wCallN G J (cloAt F x) x p args ks F b Q O
 | _ => False
noncomputable def stepE (e : Expr) (F : List Fr) (b : Nat) (Q : V → Oj → Prop) (O : Oj) : Prop := match e with
 | .Constant c _ _ => (match c with
  | .none => Q .none O
  | .bool c => Q (.bool c) O
  | .int i => Q (.int i) O
  | .str x => Q (.str x.cps.toList) O
  | _ => False)
 | .Name x _ => Gd (okNm x) (Lf (getV G F x) fun v => Q v O)
 | .BoolOp op vs _ => wAnd J op vs F b Q O
 | .BinOp l op r _ => J.l l F b (fun x O1 => J.l r F b (fun y O2 => Lf (binV O2 op x y) fun v => Q v O2) O1) O
 | .UnaryOp op x _ => (match op with
  | .Not => J.e x F b (fun v O1 => Lf (truthV O1 v) fun t => Q (.bool (!t)) O1) O
  | .USub => J.e x F b (fun v O1 => Lf (negV v) fun u => Q u O1) O
  | _ => False)
 | .IfExp t x y _ => J.t t F b (fun c O1 => sel c (J.e x F b Q O1) (J.e y F b Q O1)) O
 | .Lambda args body scope _ => Gd (okLam args scope && lamFree F) (Q (.lam args body scope) O)
 | .List es _ => Gd (okEs es) (wes J.l es F b (fun vs O1 => Q (.ref O1.length) (O1 ++ [.list vs])) O)
 | .Tuple es _ _ => Gd (okEs es) (wes J.e es F b (fun vs O1 => Q (.tup vs) O1) O)
 | .Dict ks vs _ => Gd (ks.isEmpty && vs.isEmpty) (Q (.ref O.length) (O ++ [.dI []]))
 | .ListComp elt gs scope _ => wLc G J elt gs scope F b Q O
 | .Compare l ops rs _ => (match ops with
  | [op] => (match rs with
   | [r] => Gd (!behindInMarks op r) (J.l l F b (fun x O1 => J.l r F b (fun y O2 => Lf (cmpV G O2 op x y) fun t => Q (.bool t) O2) O1) O)
   | _ => False)
  | _ => False)
 | .Call f args ks pos => wCall G J f args ks pos F b Q O
 | .Subscript v i _ => (match i with
  | .Slice lo hi st _ => J.e v F b (fun x O1 => wOpt J lo F b (fun l O2 => wOpt J hi F b (fun h O3 => wOpt J st F b (fun s O4 => Lf (sliceV O4 x l h s) fun r => Q r O4) O3) O2) O1) O
  | i => J.e v F b (fun x O1 => J.e i F b (fun y O2 => Lf (idxV O2 x y) fun r => Q r O2) O1) O)
 | _ => False
noncomputable def stepL (e : Expr) (F : List Fr) (b : Nat) (Q : V → Oj → Prop) (O : Oj) : Prop := match e with
 | .List es _ => Gd (okEs es) (wes J.l es F b (fun vs O1 => Q (.lst vs) O1) O)
 | e => stepE G J e F b Q O
noncomputable def stepT (e : Expr) (F : List Fr) (b : Nat) (Q : Bool → Oj → Prop) (O : Oj) : Prop := match e with
 | .UnaryOp op x _ => (match op with
  | .Not => J.t x F b (fun t O1 => Q (!t) O1) O
  | _ => stepE G J e F b (fun v O1 => Lf (truthV O1 v) fun t => Q t O1) O)
 | .BoolOp op vs _ => wTs J op vs F b Q O
 | .IfExp t x y _ => J.t t F b (fun c O1 => sel c (J.t x F b Q O1) (J.t y F b Q O1)) O
 | .Compare l ops rs _ => Gd (ops.length == rs.length) (J.l l F b (fun v O1 => wChain G J v ops rs F b Q O1) O)
 | e => stepE G J e F b (fun v O1 => Lf (truthV O1 v) fun t => Q t O1) O
set_option backward.match.sparseCases false
noncomputable def plainV (v : V) : Bool := match v with
 | .none => true
 | .int _ => true
 | .bool _ => true
 | .str _ => true
 | _ => false
set_option backward.match.sparseCases true
noncomputable def wTgt (es : List Expr) (e : Expr) (F : List Fr) (v : V) : Option (List Fr) :=
 if okTargets F es then (swapB (kindAt F) es e).bind fun sw => match v with
  | .tup vs => (match sw with
   | none => setAll F es vs
   | some names => if vs.length == names.length then setNames F names.reverse vs.reverse else none)
  | _ => none
 else none
set_option backward.match.sparseCases false
noncomputable def delV (O : Oj) (o i : V) : Option Oj := match o with
 | .ref n => (match i with
  | .int k => (lA O n).bind fun l => if lO l.length && kOk k then (seqIndex? k l.length).map fun j => O.set n (.list (l.eraseIdx j)) else none
  | _ => none)
 | _ => none
set_option backward.match.sparseCases true
noncomputable def augV (O : Oj) (op : Operator) (a c : V) : Option V := match a with
 | .int _ => (match c with
  | .int _ => binV O op a c
  | _ => none)
 | _ => none
noncomputable def wAssign (t : Expr) (e : Expr) (F : List Fr) (b : Nat) (Q : Fl → List Fr → Oj → Prop) (O : Oj) : Prop := match t with
 | .Name x _ => (match e with
  | .ListComp elt gs scope _ => wLc G J elt gs scope F b (fun v O1 => Lf (setTop F x v) fun F1 => Q .next F1 O1) O
  | .Lambda args body scope q => sel (!scope.names.any (fun x => x.2 == .free)) (J.e (.Lambda args body scope q) F b (fun v O1 => Lf (setTop F x v) fun F1 => Q .next F1 O1) O)
   (Gd (okLam0 args scope && lamFree F && freeOk F scope.names) (∀ a, Lf (setTop F x (.opq a)) fun F1 => Lf (withClo F1 ⟨x, args, body, scope, 0⟩) fun F2 => Q .next F2 O))
  | e => Gd (noComp e) (J.e e F b (fun v O1 => Lf (setTop F x v) fun F1 => Q .next F1 O1) O))
 | .Tuple es _ _ => Gd (noComp e) (J.e e F b (fun v O1 => Lf (wTgt es e F v) fun F1 => Q .next F1 O1) O)
 | .Subscript o i _ => Gd (noComp e) (J.e e F b (fun v O1 => J.e o F b (fun d O2 => J.e i F b (fun k O3 => Lf (putV O3 b d k v) fun O4 => Q .next F O4) O2) O1) O)
 | _ => False
noncomputable def stepS (st : Stmt) (F : List Fr) (b : Nat) (Q : Fl → List Fr → Oj → Prop) (O : Oj) : Prop := match st with
 | .Expr e _ => Gd (noComp e) (J.e e F b (fun v O1 => Gd (plainV v) (Q .next F O1)) O)
 | .Pass _ => Q .next F O
 | .Break _ => Q .brk F O
 | .Return e _ => (match e with
  | some e => J.e e F b (fun v O1 => Q (.ret v) F O1) O
  | none => False)
 | .Assign ts e _ => (match ts with
  | [t] => wAssign G J t e F b Q O
  | _ => False)
 | .AugAssign t op e _ => (match t with
  | .Name x _ => Gd (okNm x) (Lf (getV G F x) fun a => J.e e F b (fun c O1 => Lf (augV O1 op a c) fun v => Lf (setTop F x v) fun F1 => Q .next F1 O1) O)
  | _ => False)
 | .Delete ts _ => (match ts with
  | [t] => (match t with
   | .Subscript o i _ => J.e o F b (fun v O1 => J.e i F b (fun k O2 => Lf (delV O2 v k) fun O3 => Q .next F O3) O1) O
   | _ => False)
  | _ => False)
 | .If t x y _ => J.t t F b (fun c O1 => sel c (xs J x F b Q O1) (xs J y F b Q O1)) O
 | .While t body orelse _ => Gd orelse.isEmpty (WHILE J t body b Q F O)
 | .For tgt it body orelse _ => wSrc G J tgt it F b (fun src O1 => FOR J tgt body orelse b Q src F O1) O
 | .Assert t _ _ => J.t t F b (fun c O1 => Gd c (Q .next F O1)) O
 | _ => False
noncomputable def noFree (names : Names) : Bool := !names.any (fun x => x.2 == .free)
noncomputable def wFn (fi : FnI) (vars : List (Str × V)) (Q : V → Oj → Prop) (O : Oj) : Prop := Gd (okVars fi.scope.names vars && noFree fi.scope.names) (xs J fi.body [⟨fi.scope.names, pad fi.scope.names vars, false, 0, none⟩] O.length (fun f _ O1 => match f with
 | .ret v => Lf (leave O.length v O1) fun r => Q r (O1.take O.length)
 | .next => Q .none (O1.take O.length)
 | _ => False) O)
noncomputable def stepC (f : V) (a : List V) (ks : List (Str × V)) (b : Nat) (Q : V → Oj → Prop) (O : Oj) : Prop := match f with
 | .cst d => (match d with
  | .ref ad => Lf (G.fns.lookup ad) fun fi => Lf (bindV fi.params fi.dfl fi.kwd a ks) fun vars => wFn J fi vars Q O
  | .builtin id => Gd ks.isEmpty (Lf (callB (ofString id) a b O) fun r => Q r.1 r.2)
  | .type id => Gd ks.isEmpty (Lf (callY (ofString id) a b O) fun r => Q r.1 r.2)
  | _ => False)
 | .lam args body scope => Gd ks.isEmpty (Lf (bindV args [] [] a []) fun vars => Gd (okVars scope.names vars && okScope scope && noFree scope.names) (J.e body [⟨scope.names, pad scope.names vars, true, 0, none⟩] O.length (fun v O1 => Lf (leave O.length v O1) fun r => Q r (O1.take O.length)) O))
 | _ => False
noncomputable def wFnK (fi : FnI) (vars : List (Str × V)) (n : Str) (c : Clo) (F : List Fr) (Q : V → Oj → Prop) (O : Oj) : Prop := Gd (okVars fi.scope.names vars && noFree fi.scope.names && fi.scope.names.lookup n == some .local) (vars.lookup n = topGet F c.name ∧
 xs J fi.body (⟨fi.scope.names, pad fi.scope.names vars, false, 0, some ⟨n, c.args, c.body, c.scope, c.up + 1⟩⟩ :: F) O.length (fun f F1 O1 => F1.drop 1 = F ∧ match f with
 | .ret v => Lf (leave O.length v O1) fun r => Q r (O1.take O.length)
 | .next => Q .none (O1.take O.length)
 | _ => False) O)
noncomputable def stepK (f : V) (a : List V) (ks : List (Str × V)) (n : Str) (c : Clo) (F : List Fr) (b : Nat) (Q : V → Oj → Prop) (O : Oj) : Prop := match f with
 | .cst d => (match d with
  | .ref ad => Lf (G.fns.lookup ad) fun fi => Lf (bindV fi.params fi.dfl fi.kwd a ks) fun vars => wFnK J fi vars n c F Q O
  | _ => False)
 | _ => False
noncomputable def WI.bot : WI := ⟨fun _ _ _ _ _ => False, fun _ _ _ _ _ => False, fun _ _ _ _ _ => False, fun _ _ _ _ _ => False, fun _ _ _ _ _ _ => False, fun _ _ _ _ _ _ _ _ _ => False⟩
noncomputable def W : Nat → WI
 | 0 => WI.bot
 | n + 1 => ⟨stepE G (W n), stepL G (W n), stepT G (W n), stepS G (W n), stepC G (W n), stepK G (W n)⟩
end
end
set_option backward.match.sparseCases false
noncomputable def stAt (l : List Stmt) (i : Nat) : Stmt := l.getD i (.Pass default)
noncomputable def ifX : Stmt → List Stmt
 | .If _ x _ _ => x
 | _ => []
noncomputable def ifY : Stmt → List Stmt
 | .If _ _ x _ => x
 | _ => []
noncomputable def wT : Stmt → Expr
 | .While t _ _ _ => t
 | _ => default
noncomputable def wB : Stmt → List Stmt
 | .While _ x _ _ => x
 | _ => []
noncomputable def foT : Stmt → Expr
 | .For t _ _ _ _ => t
 | _ => default
noncomputable def foB : Stmt → List Stmt
 | .For _ _ b _ _ => b
 | _ => []
noncomputable def foE : Stmt → List Stmt
 | .For _ _ _ e _ => e
 | _ => []
noncomputable abbrev u (s : String) : Str := ofString s
noncomputable section
noncomputable def fnI (k : Nat) (dfl : List V) (kwd : List (Str × V)) : FnI := ⟨fArgs (stm k), fBody (stm k), fScope (stm k), dfl, kwd⟩
noncomputable def G3 : Glob where
 names := [(u "insort_right", .cst (.ref 23)),
  (u "bisect_right", .cst (.ref 32)),
  (u "insort_left", .cst (.ref 41)),
  (u "bisect_left", .cst (.ref 50)),
  (u "pretty_flags", .cst (.ref 58)),
  (u "_parse_varint", .cst (.ref 65)),
  (u "_ellipsis_match", .cst (.ref 72)),
  (u "in_table_b1", .cst (.ref 90)),
  (u "map_table_b3", .cst (.ref 136)),
  (u "_law_typed", .cst (.ref 141)),
  (u "_law_prepared", .cst (.ref 146)),
  (u "_law_chains", .cst (.ref 151)),
  (u "_law_known", .cst (.ref 158)),
  (u "_law_judge", .cst (.ref 163)),
  (u "_law_taken", .cst (.ref 170)),
  (u "law", .cst (.ref 175)),
  (u "COMPILER_FLAG_NAMES", .cst (.ref 51)),
  (u "b1_set", .cst (.ref 80)),
  (u "b3_exceptions", .cst (.ref 91)),
  (u "ELLIPSIS_MARKER", .str [46, 46, 46]),
  (u "len", .cst (.builtin "len")),
  (u "hex", .cst (.builtin "hex")),
  (u "next", .cst (.builtin "next")),
  (u "ord", .cst (.builtin "ord")),
  (u "chr", .cst (.builtin "chr")),
  (u "sum", .cst (.builtin "sum")),
  (u "sorted", .cst (.builtin "sorted")),
  (u "iter", .cst (.builtin "iter")),
  (u "range", .cst (.type "range")),
  (u "list", .cst (.type "list")),
  (u "enumerate", .cst (.type "enumerate")),
  (u "dict", .cst (.type "dict"))]
 fns := [(23, fnI 1 [.int 0, .none] [(u "key", .none)]), (32, fnI 2 [.int 0, .none] [(u "key", .none)]), (41, fnI 3 [.int 0, .none] [(u "key", .none)]), (50, fnI 4 [.int 0, .none] [(u "key", .none)]), (58, fnI 7 [] []), (65, fnI 8 [] []), (72, fnI 11 [] []), (90, fnI 14 [] []), (136, fnI 16 [] []), (141, fnI 18 [] []), (146, fnI 19 [] []), (151, fnI 20 [] []), (158, fnI 21 [] []), (163, fnI 22 [] []), (170, fnI 23 [] []), (175, fnI 24 [] [])]
 tabs := [(51, [(1, (u "OPTIMIZED").cps.toList), (2, (u "NEWLOCALS").cps.toList), (4, (u "VARARGS").cps.toList), (8, (u "VARKEYWORDS").cps.toList), (16, (u "NESTED").cps.toList), (32, (u "GENERATOR").cps.toList), (64, (u "NOFREE").cps.toList), (128, (u "COROUTINE").cps.toList), (256, (u "ITERABLE_COROUTINE").cps.toList), (512, (u "ASYNC_GENERATOR").cps.toList)]),
  (91, itemsB.map fun p => (p.1.1, p.1.2.cps.toList))]
 sets := [(80, [173, 847, 6150, 6155, 6156, 6157, 8203, 8204, 8205, 8288, 65279] ++ (List.range 16).map fun (k : Nat) => (65024 : Int) + k)]
noncomputable def tabsA : List Addr := [18, 27, 36, 45, 53, 60, 67, 85, 131, 138, 143, 148, 153, 160, 165, 172]
noncomputable def H0 (P : Params) : Heap := hideAll (HE P) tabsA
@[irreducible] noncomputable def PG : Program := PySem.Challenge.rw_ta0099_02.row.prog
@[irreducible] noncomputable def GG : Glob := G3
@[irreducible] noncomputable def HW (w : World) : Heap := H0 w.params
end
set_option backward.match.sparseCases true
set_option backward.match.sparseCases false
noncomputable abbrev MW (w : World) : Model := model PG w
noncomputable def noE : Value → Shared → Prop := fun _ _ => False
noncomputable def topV (v : Value) : V := match v with
 | .none => .none
 | .bool b => .bool b
 | .int i _ => .int i
 | .str x _ => .str x.cps.toList
 | v => .cst v
theorem topV_is (h : Heap) (κ : Pl) : ∀ cv : Value, RV h κ (topV cv) cv := fun cv => match cv with
 | .none => rfl
 | .bool _ => rfl
 | .int _ _ => ⟨_, rfl⟩
 | .str x t => ⟨t, by rw [S_toList]⟩
 | .float .. => rfl
 | .bytes .. => rfl
 | .ref _ => rfl
 | .type _ => rfl
 | .builtin _ => rfl
 | .ellipsis => rfl
 | .notImplemented => rfl
structure FnOkH (h : Heap) (a : Addr) (fi : FnI) (o : Obj) (fd : FuncData) : Prop where
 get : h.get? a = some o
 data : o.data = .func fd
 params : fd.params = fi.params
 body : fd.body = .stmts fi.body
 scope : fd.scope = fi.scope
 glob : fd.globals = mainGlobals
 blt : fd.builtins = builtinsNs
 clos : fd.closure = []
 crec : h.CodeRec fd.code fd.qualname
 cls : o.cls = .type "function"
 kind : fi.scope.kind = .function
 gen : fi.scope.isGenerator = false
 cor : fi.scope.isCoroutine = false
 code : ∃ c p, fd.code = .ref c ∧ CodeHd h c p ∧ p < h.objs.size ∧ h.get? p = none
 dfl : fi.dfl = [] ∧ fd.defaults = .none ∨ ∃ t vals, fd.defaults = .ref t ∧ IsTup h t vals ∧ fi.dfl = vals.toList.map topV
 kwd : fi.kwd = [] ∧ fd.kwdefaults = .none ∨ ∃ d m, fd.kwdefaults = .ref d ∧ h.Ns d m ∧ ∀ x, (m x).map topV = fi.kwd.lookup x
noncomputable abbrev FnOk (w : World) := FnOkH (HW w)
structure Base (w : World) : Prop where
 nolimit : (HW w).NoLimit
 bmain : ∃ mg, (HW w).Ns mainGlobals mg ∧ ∀ p, (HW w).get? p = none → (HW w).BuiltinsAt mg p
 sysm : ∃ o, (HW w).get? sysModules = some o
 globals : ∃ mg mb, (HW w).Ns mainGlobals mg ∧ (HW w).Ns builtinsNs mb ∧ ∀ x v, GG.names.lookup x = some v → ∃ cv, v = topV cv ∧ (mg x = some cv ∨ (mg x = none ∧ mb x = some cv))
 fns : ∀ a fi, GG.fns.lookup a = some fi → ∃ o fd, FnOk w a fi o fd
structure Ok (A : Around) (n : Nat) : Prop where
 dep : A.depth + n ≤ 690
 uni : A.units + 10 * n ≤ 9800
 hd : A.handled = none
theorem Ok.dn {A : Around} {n : Nat} (h : Ok A (n + 1)) : Ok A n := ⟨Nat.le_of_succ_le h.dep, le_trans (add_le_add_left (Nat.mul_le_mul_left 10 (le_succ n)) _) h.uni, h.hd⟩
structure EnvT (p : FP) (r : List FP) (env : Env) : Prop where
 L : env.locals = p.L
 loc : ∀ x, p.names.lookup x = some .local → env.kindOf x = some .local
 cell : ∀ x, p.names.lookup x = some .cell → env.kindOf x = some .cell ∧ ∃ c, p.cells.lookup x = some c ∧ env.cells.lookup x = some c
 free : ∀ x, p.names.lookup x = some .free → (env.kindOf x = some .cell ∨ env.kindOf x = some .free) ∧ ∃ c, env.cells.lookup x = some c ∧ cellAt r p.up x = some c
 glb : ∀ x, p.names.lookup x = some .globalImplicit → env.kindOf x = some .globalImplicit
noncomputable def lamFreeP (fr : List FP) : Bool := fr.all fun p => !p.lam
structure EnvR (w : World) (fr : List FP) (env : Env) : Prop where
 kind : env.scope.kind = .function
 glob : env.globals = mainGlobals
 blt : env.builtins = builtinsNs
 code : lamFreeP fr = true → ∃ c p, env.code = .ref c ∧ CodeHd (HW w) c p ∧ p < (HW w).objs.size ∧ (HW w).get? p = none
 top : ∃ p r, fr = p :: r ∧ EnvT p r env
structure St (w : World) (A : Around) (n b : Nat) (κ : Pl) (F : List Fr) (O : Oj) (s : Shared) (env : Env) : Prop where
 ok : Ok A n
 rel : Rel w (HW w) κ F O s.heap
 env : EnvR w κ.fr env
 le : b ≤ O.length
noncomputable abbrev GoW (w : World) := Go w (HW w)
noncomputable abbrev RelW (w : World) := Rel w (HW w)
section
variable {w : World} {A : Around} {n b : Nat} {κ κ1 : Pl} {F F1 : List Fr} {O O1 : Oj} {s s1 : Shared} {env : Env}
theorem Go.le (R : RelW w κ F O s.heap) (g : GoW w b κ O s κ1 F1 O1 s1) : O.length ≤ O1.length := by
 rw [← R.len, ← g.rel.len]; exact g.ext.pre.length_le
theorem St.next (t : St w A n b κ F O s env) (g : GoW w b κ O s κ1 F1 O1 s1) : St w A n b κ1 F1 O1 s1 env := ⟨t.ok, g.rel, g.frs ▸ t.env, le_trans t.le (g.le t.rel)⟩
theorem Ok.one (h : Ok A (n + 1)) : Ok A 1 := ⟨le_trans (add_le_add_left (le_add_left 1 n) _) h.dep, le_trans (add_le_add_left (Nat.mul_le_mul_left 10 (le_add_left 1 n)) _) h.uni, h.hd⟩
theorem St.dn (t : St w A (n + 1) b κ F O s env) : St w A n b κ F O s env := { t with ok := t.ok.dn }
end
inductive End {α β : Type} (w : World) (b : Nat) (κ : Pl) (F : List Fr) (O : Oj) (s : Shared) (R : Heap → Pl → α → β → Prop) (Q : α → Oj → Prop) : β → Shared → Prop where
 | mk {v : α} {κ' : Pl} {O' : Oj} {cv : β} {s' : Shared} (q : Q v O') (g : GoW w b κ O s κ' F O' s') (r : R s'.heap κ' v cv) : End w b κ F O s R Q cv s'
noncomputable def FlR (h : Heap) (κ : Pl) (f : Fl) (g : Flow) : Prop := match f with
 | .next => g = .next
 | .brk => g = .brk
 | .cont => g = .cont
 | .ret v => ∃ cv, g = .ret cv ∧ RV h κ v cv
inductive EndS (w : World) (b : Nat) (κ : Pl) (O : Oj) (s : Shared) (Q : Fl → List Fr → Oj → Prop) : Flow → Shared → Prop where
 | mk {f : Fl} {F' : List Fr} {κ' : Pl} {O' : Oj} {cf : Flow} {s' : Shared} (q : Q f F' O') (g : GoW w b κ O s κ' F' O' s') (r : FlR s'.heap κ' f cf) : EndS w b κ O s Q cf s'
noncomputable def EqR {α : Type} (_ : Heap) (_ : Pl) (a : α) (c : α) : Prop := c = a
noncomputable def RVn (k : Nat) (h : Heap) (κ : Pl) (vs : List V) (cvs : List Value) : Prop := RVs h κ vs cvs ∧ cvs.length = k
noncomputable def KsR (h : Heap) (κ : Pl) : List (Str × V) → List (Str × Value) → Prop
 | [], r => r = []
 | e :: l, r => ∃ cv r', r = (e.1, cv) :: r' ∧ RV h κ e.2 cv ∧ KsR h κ l r'
theorem KsR_mono {h h' : Heap} {κ κ' : Pl} (x : Ext h κ h' κ') : ∀ {l : List (Str × V)} {r : List (Str × Value)}, KsR h κ l r → KsR h' κ' l r
 | [], _, e => e
 | _ :: _, _, q2 => by obtain ⟨cv, r', e, a, c⟩ := q2; exact ⟨cv, r', e, rM x a, KsR_mono x c⟩
structure Snd (w : World) (n : Nat) (J : WI) : Prop where
 e : ∀ {A s κ F O b env ex Q}, J.e ex F b Q O → St w A n b κ F O s env → wpAny (MW w) A (eval ex env) (End w b κ F O s RV Q) noE s
 l : ∀ {A s κ F O b env ex Q}, J.l ex F b Q O → St w A n b κ F O s env → wpAny (MW w) A (eval ex env) (End w b κ F O s RV Q) noE s
 t : ∀ {A s κ F O b env ex Q}, J.t ex F b Q O → St w A n b κ F O s env → wpAny (MW w) A (isTrue ex env (eval ex env)) (End w b κ F O s EqR Q) noE s
 s : ∀ {A s κ F O b env st Q}, J.s st F b Q O → St w A n b κ F O s env → wpAny (MW w) A (exec st env) (EndS w b κ O s Q) noE s
 c : ∀ {A s κ F O b f a ks cf ca cks Q}, J.c f a ks b Q O → Ok A n → RelW w κ F O s.heap → b ≤ O.length → RV s.heap κ f cf → RVs s.heap κ a ca → KsR s.heap κ ks cks → wpAny (MW w) A (call cf ca cks) (End w b κ F O s RV Q) noE s
 k : ∀ {A s κ F O b f a ks nm c cf ca cks Q}, J.k f a ks nm c F b Q O → cloAt F c.name = some c → Ok A n → RelW w κ F O s.heap → b ≤ O.length → RV s.heap κ f cf → RVs s.heap κ a ca → KsR s.heap κ ks cks → wpAny (MW w) A (call cf ca cks) (End w b κ F O s RV Q) noE s
section
variable {α β γ : Type} {w : World} {A : Around} {n b : Nat} {κ κ1 : Pl} {F F1 : List Fr} {O O1 : Oj} {s s1 : Shared} {env : Env} {R : Heap → Pl → α → β → Prop} {Q : α → Oj → Prop} {E : Value → Shared → Prop}
theorem End.seq {m : Sem β} {P : β → Shared → Prop} (h : wpAny (MW w) A m (End w b κ F O s R Q) noE s) (k : ∀ {v κ1 O1 cv s1}, Q v O1 → GoW w b κ O s κ1 F O1 s1 → R s1.heap κ1 v cv → P cv s1) : wpAny (MW w) A m P E s :=
 wpAny_mono h (fun _ _ e => match e with | .mk q g r => k q g r) fun _ _ x => x.elim
theorem EndS.seq {m : Sem Flow} {Q : Fl → List Fr → Oj → Prop} {P : Flow → Shared → Prop} (h : wpAny (MW w) A m (EndS w b κ O s Q) noE s) (k : ∀ {f F1 κ1 O1 cf s1}, Q f F1 O1 → GoW w b κ O s κ1 F1 O1 s1 → FlR s1.heap κ1 f cf → P cf s1) : wpAny (MW w) A m P E s :=
 wpAny_mono h (fun _ _ e => match e with | .mk q g r => k q g r) fun _ _ x => x.elim
theorem End.go {cv : β} {s2 : Shared} (g : GoW w b κ O s κ1 F O1 s1) (e : End w b κ1 F O1 s1 R Q cv s2) : End w b κ F O s R Q cv s2 := match e with
 | .mk q g1 r => .mk q (g.trans g1) r
theorem End.on {m : Sem β} (g : GoW w b κ O s κ1 F O1 s1) (h : wpAny (MW w) A m (End w b κ1 F O1 s1 R Q) noE s1) : wpAny (MW w) A m (End w b κ F O s R Q) E s1 :=
 wpAny_mono h (fun _ _ e => e.go g) fun _ _ x => x.elim
theorem EndS.on {m : Sem Flow} {Q : Fl → List Fr → Oj → Prop} (g : GoW w b κ O s κ1 F1 O1 s1) (h : wpAny (MW w) A m (EndS w b κ1 O1 s1 Q) noE s1) : wpAny (MW w) A m (EndS w b κ O s Q) E s1 :=
 wpAny_mono h (fun _ _ e => match e with | .mk q g1 r => .mk q (g.trans g1) r) fun _ _ x => x.elim
theorem End.tok (Rl : RelW w κ F O s.heap) {v : α} {cv : β} {k : Nat} (q : Q v O) (r : R s.heap κ v cv) : End w b κ F O s R Q cv { s with toks := k } := .mk q (Go.grow Rl (fun _ _ e => e) ⟨rfl, rfl, rfl⟩) r
theorem End.here (Rl : RelW w κ F O s.heap) {v : α} {cv : β} (q : Q v O) (r : R s.heap κ v cv) : End w b κ F O s R Q cv s := .mk q (Go.refl Rl) r
end
set_option backward.match.sparseCases true
section
variable {a : Addr} {i j : Nat} {o o' : AObj} {c : C} {p : FP} {F' : List Fr} {O' : Oj} {f : Fr} {κ' : Pl} {new : List Addr} {vs : List V} {cvs : List Value} {Q : V → Oj → Prop} {x : Str} {v : V} {cv : Value}
theorem bS {α β : Type} {o : Option α} {f : α → Option β} {r : β} (h : o.bind f = some r) : ∃ a, o = some a ∧ f a = some r := match o, h with
 | some a, h => ⟨a, rfl, h⟩
theorem mS {α β : Type} {o : Option α} {f : α → β} {r : β} (h : o.map f = some r) : ∃ a, o = some a ∧ f a = r := match o, h with
 | some a, h => ⟨a, rfl, Option.some.inj h⟩
theorem new_none {h : Heap} (l : h.objs.size ≤ a) : h.get? a = none := by
 unfold Heap.get?
 rw [getElem?_eq_none l]
theorem push_keeps (h : Heap) (o : Obj) : ∀ b ob, h.get? b = some ob → (h.push o).get? b = some ob := fun _ _ e => get?_push_of_some o e
section
variable {h0 h h' : Heap} {κ : Pl} {F : List Fr} {O : Oj}
theorem Rel.get (R : Rel w h0 κ F O h) (e : O[i]? = some o) : ∃ c, κ.ob[i]? = some c ∧ ObjR w h κ o c :=
 have hi := R.len.symm ▸ (List.getElem?_eq_some_iff.mp e).1
 ⟨_, getElem?_eq_getElem hi, R.objs i o _ e (getElem?_eq_getElem hi)⟩
theorem Rel.at' (R : Rel w h0 κ F O h) (e : O[i]? = some o) (hi : κ.ob[i]? = some (.obj a)) : ObjR w h κ o (.obj a) := R.objs i o _ e hi
theorem Rel.size_off (R : Rel w h0 κ F O h) : h.objs.size ∉ κ.mt := fun q => let ⟨_, ho⟩ := R.ex _ q; nomatch (new_none (le_refl _)).symm.trans ho
theorem ob_nd (nd : κ.mt.Nodup) : (κ.ob.map C.addr).Nodup := (nodup_append.mp (nodup_append.mp nd).2.1).2.1
theorem ob_inj (nd : κ.mt.Nodup) {c' : C} (hi : κ.ob[i]? = some c) (hj : κ.ob[j]? = some c') (e : c.addr = c'.addr) : i = j := by
 refine (List.getElem?_inj (by rw [length_map]; exact (List.getElem?_eq_some_iff.mp hi).1) (ob_nd nd)).mp ?_
 rw [getElem?_map, getElem?_map, hi, hj, Option.map_some, Option.map_some, e]
theorem fr_off (nd : κ.mt.Nodup) (hi : κ.fr[i]? = some p) (ha : a ∈ p.addrs) : a ∉ κ.hid ++ κ.ob.map C.addr := fun q =>
 (nodup_append.mp nd).2.2 a (mem_flatMap.mpr ⟨p, mem_of_getElem? hi, ha⟩) a q rfl
theorem fr_ob (nd : κ.mt.Nodup) (hi : κ.fr[i]? = some p) (ha : a ∈ p.addrs) (hj : κ.ob[j]? = some c) : c.addr ≠ a := fun q =>
 fr_off nd hi ha (mem_append_right _ (q ▸ mem_map_of_mem (mem_of_getElem? hj)))
theorem hid_ob (nd : κ.mt.Nodup) (ha : a ∈ κ.hid) (hj : κ.ob[j]? = some c) : c.addr ≠ a := fun q =>
 (nodup_append.mp (nodup_append.mp nd).2.1).2.2 a ha c.addr (mem_map_of_mem (mem_of_getElem? hj)) q.symm
theorem fr_inj : ∀ {l : List FP} {i j : Nat} {p p' : FP} {a : Addr}, (l.flatMap FP.addrs).Nodup → l[i]? = some p → l[j]? = some p' → a ∈ p.addrs → a ∈ p'.addrs → i = j
 | p :: l, 0, 0, _, _, _, _, _, _, _, _ => rfl
 | p :: l, i + 1, j + 1, _, _, _, nd, hi, hj, h1, h2 => congrArg (· + 1) (fr_inj (l := l) (nodup_append.mp nd).2.1 hi hj h1 h2)
 | p :: l, 0, j + 1, _, p', a, nd, rfl, hj, h1, h2 => absurd rfl ((nodup_append.mp nd).2.2 a h1 a (mem_flatMap.mpr ⟨p', mem_of_getElem? (l := l) hj, h2⟩))
 | p :: l, i + 1, 0, p', _, a, nd, hi, rfl, h1, h2 => absurd rfl ((nodup_append.mp nd).2.2 a h2 a (mem_flatMap.mpr ⟨p', mem_of_getElem? (l := l) hi, h1⟩))
theorem fr_nd (nd : κ.mt.Nodup) : (κ.fr.flatMap FP.addrs).Nodup := (nodup_append.mp nd).1
theorem fp_nodup : ∀ {l : List FP} {i : Nat} {p : FP}, (l.flatMap FP.addrs).Nodup → l[i]? = some p → p.addrs.Nodup
 | p :: l, 0, _, nd, rfl => (nodup_append.mp nd).1
 | p :: l, i + 1, _, nd, e => fp_nodup (l := l) (nodup_append.mp nd).2.1 e
theorem Rel.put (R : Rel w h0 κ F O h) (ha : a ∈ κ.mt) (hs : ∀ b ob, b ≠ a → h.get? b = some ob → h'.get? b = some ob) (hx : ∃ ob, h'.get? a = some ob) (lo : O'.length = O.length) (lf : F'.length = F.length)
 (ho : Ext h κ h' κ → ∀ (i : Nat) o' c, O'[i]? = some o' → κ.ob[i]? = some c → (O[i]? = some o' ∧ c.addr ≠ a) ∨ ObjR w h' κ o' c)
 (hf : Ext h κ h' κ → ∀ (i : Nat) f' p, F'[i]? = some f' → κ.fr[i]? = some p → (F[i]? = some f' ∧ a ∉ p.addrs) ∨ FrameR h' κ f' p) : Rel w h0 κ F' O' h' ∧ Ext h κ h' κ :=
 have x : Ext h κ h' κ := ⟨prefix_rfl, fun b ob hb hn => hs b ob (fun q => hn (q ▸ ha)) hb, fun _ p q => absurd p q⟩
 ⟨{ R with
  len := R.len.trans lo.symm
  flen := R.flen.trans lf.symm
  base := fun b ob hb => hs b ob (fun q => nomatch (R.off b (q ▸ ha)).symm.trans hb) (R.base b ob hb)
  ex := fun b hb => (Classical.em (b = a)).elim (fun q => q ▸ hx) fun q => let ⟨o, e⟩ := R.ex b hb; ⟨o, hs b o q e⟩
  objs := fun i o' c e e' => (ho x i o' c e e').elim (fun q => ObjR_mono x (fun ob e => hs _ ob q.2 e) (R.objs i o' c q.1 e')) id
  frs := fun i f' p e e' => (hf x i f' p e e').elim (fun q => FrameR_mono x (fun _ z => z) (fun b hb ob e => hs b ob (fun z => q.2 (z ▸ hb)) e) (R.frs i f' p q.1 e')) id }, x⟩
theorem and_hid {P1 P2 : Prop} (ne : ∀ x ∈ κ.hid, x ≠ a) (hs : ∀ b ob, b ≠ a → h.get? b = some ob → h'.get? b = some ob) (p : P1 ∧ P2) : P1 ∧ P2 ∧ ∀ x ∈ κ.hid, x ∈ κ.hid ∧ ∀ o, h.get? x = some o → h'.get? x = some o :=
 ⟨p.1, p.2, fun x hx => ⟨hx, fun o e => hs x o (ne x hx) e⟩⟩
theorem Rel.setO (R : Rel w h0 κ F O h) (e : O[i]? = some o) (hi : κ.ob[i]? = some c) (hs : ∀ b ob, b ≠ c.addr → h.get? b = some ob → h'.get? b = some ob) (hx : ∃ ob, h'.get? c.addr = some ob) (hr : Ext h κ h' κ → ObjR w h' κ o' c) : Rel w h0 κ F (O.set i o') h' ∧ Ext h κ h' κ ∧ ∀ x ∈ κ.hid, x ∈ κ.hid ∧ ∀ o, h.get? x = some o → h'.get? x = some o :=
 and_hid (fun x hx q => hid_ob R.nd hx hi q.symm) hs <| R.put (Pl.mt_ob hi) hs hx length_set rfl (fun x j oj cj ej hj => by
  by_cases hij : i = j
  ·subst hij
   rw [List.getElem?_set_self (List.getElem?_eq_some_iff.mp e).1] at ej
   cases ej; cases hi.symm.trans hj
   exact .inr (hr x)
  ·rw [getElem?_set_ne hij] at ej
   exact .inl ⟨ej, fun q => hij (ob_inj R.nd hi hj q.symm)⟩) fun _ j f p ej hj => .inl ⟨ej, fun q => fr_ob R.nd hj q hi rfl⟩
theorem Rel.setF {f' : Fr} {r : List Fr} {pr : List FP} (R : Rel w h0 κ (f :: r) O h) (hp : κ.fr = p :: pr) (ha : a ∈ p.addrs) (hs : ∀ b ob, b ≠ a → h.get? b = some ob → h'.get? b = some ob) (hx : ∃ ob, h'.get? a = some ob) (hr : Ext h κ h' κ → FrameR h' κ f' p) : Rel w h0 κ (f' :: r) O h' ∧ Ext h κ h' κ ∧ ∀ x ∈ κ.hid, x ∈ κ.hid ∧ ∀ o, h.get? x = some o → h'.get? x = some o :=
 have h0 : κ.fr[0]? = some p := hp ▸ rfl
 and_hid (fun x hx (q : x = a) => fr_off R.nd h0 ha (mem_append_left _ (q ▸ hx))) hs <| R.put (Pl.mt_fr h0 ha) hs hx rfl rfl (fun _ j o c e hj => .inl ⟨e, fr_ob R.nd h0 ha hj⟩) fun x j g q ej hj => match j, ej, hj with
  | 0, e, hj => .inr (Option.some.inj e ▸ Option.some.inj (h0.symm.trans hj) ▸ hr x)
  | j + 1, e, hj => .inl ⟨e, fun z => nomatch fr_inj (fr_nd R.nd) h0 hj ha z⟩
theorem Rel.more (R : Rel w h0 κ F O h) (pm : κ'.mt.Perm (new ++ κ.mt)) (pre : κ.ob <+: κ'.ob) (k : ∀ b o, h.get? b = some o → h'.get? b = some o) (hn : ∀ a ∈ new, h.get? a = none ∧ ∃ o, h'.get? a = some o) (nd : new.Nodup)
 (len : κ'.ob.length = O'.length) (flen : κ'.fr.length = F'.length) (objs : Ext h κ h' κ' → ∀ (i : Nat) o c, O'[i]? = some o → κ'.ob[i]? = some c → ObjR w h' κ' o c) (frs : Ext h κ h' κ' → ∀ (i : Nat) f p, F'[i]? = some f → κ'.fr[i]? = some p → FrameR h' κ' f p) : Rel w h0 κ' F' O' h' ∧ Ext h κ h' κ' :=
 have e : ∀ b ∈ κ'.mt, b ∈ new ∨ b ∈ κ.mt := fun b hb => mem_append.mp (pm.mem_iff.mp hb)
 have x : Ext h κ h' κ' := ⟨pre, fun b ob q _ => k b ob q, fun b hb hnb => (e b hb).elim (fun q => (hn b q).1) fun q => absurd q hnb⟩
 ⟨{ len := len
    flen := flen
    base := fun a ob q => k a ob (R.base a ob q)
    off := fun a ha => (e a ha).elim (fun q => match hq : h0.get? a with
       | none => rfl
       | some ob => nomatch (hn a q).1.symm.trans (R.base a ob hq)) (R.off a)
    nd := pm.nodup_iff.mpr (nodup_append.mpr ⟨nd, R.nd, fun a ha b hb q => let ⟨_, ho⟩ := R.ex b hb; nomatch (q ▸ (hn a ha).1).symm.trans ho⟩)
    ex := fun a ha => (e a ha).elim (fun q => (hn a q).2) fun q => let ⟨o, ho⟩ := R.ex a q; ⟨o, k a o ho⟩
    objs := objs x
    frs := frs x
    tab := fun p hp hq => let ⟨j, hj⟩ := R.tab p hp hq; ⟨j, pre_get pre hj⟩ }, x⟩
theorem Rel.objs_mono (R : Rel w h0 κ F O h) (k : ∀ b o, h.get? b = some o → h'.get? b = some o) (x : Ext h κ h' κ') (e : O[i]? = some o) (e' : κ.ob[i]? = some c) : ObjR w h' κ' o c := ObjR_mono x (fun ob q => k _ ob q) (R.objs i o c e e')
theorem Rel.frs_mono (R : Rel w h0 κ F O h) (k : ∀ b o, h.get? b = some o → h'.get? b = some o) (x : Ext h κ h' κ') (sf : κ.fr <:+ κ'.fr) (e : F[i]? = some f) (e' : κ.fr[i]? = some p) : FrameR h' κ' f p := FrameR_mono x (fun r z => z.trans sf) (fun b _ ob q => k b ob q) (R.frs i f p e e')
theorem Rel.addA (ha : h.get? a = none) (R : Rel w h0 κ F O h) (k : ∀ b o, h.get? b = some o → h'.get? b = some o) (hx : ∃ ob, h'.get? a = some ob) (hr : ∀ κ', Ext h κ h' κ' → (∀ b ∈ κ'.mt, b = a ∨ b ∈ κ.mt) → ObjR w h' κ' o (.obj a)) :
 Rel w h0 ⟨κ.fr, κ.ob ++ [.obj a], κ.hid⟩ F (O ++ [o]) h' ∧ Ext h κ h' ⟨κ.fr, κ.ob ++ [.obj a], κ.hid⟩ := by
 have pm : (Pl.mt ⟨κ.fr, κ.ob ++ [.obj a], κ.hid⟩).Perm ([a] ++ κ.mt) := by
  rw [Pl.mt, map_append, ← append_assoc, ← append_assoc, append_assoc (κ.fr.flatMap _)]
  exact List.perm_append_comm
 refine R.more (new := [a]) pm ⟨_, rfl⟩ k (fun a' ha' => ?_) (nodup_cons.mpr ⟨not_mem_nil, nodup_nil⟩) ?_ R.flen (fun x i oi ci e e' => ?_) fun x i f p e e' => R.frs_mono k x (List.suffix_refl _) e e'
 ·rw [mem_singleton.mp ha']; exact ⟨ha, hx⟩
 ·rw [length_append, length_append, R.len]; rfl
 ·rcases lt_or_ge i O.length with hl | hl
  ·rw [getElem?_append_left hl] at e
   rw [getElem?_append_left (R.len.symm ▸ hl)] at e'
   exact R.objs_mono k x e e'
  ·rw [getElem?_append_right hl] at e
   rw [getElem?_append_right (R.len.symm ▸ hl), R.len] at e'
   match i - O.length, e, e' with
   | 0, rfl, rfl => exact hr _ x fun b hb => mem_cons.mp (pm.mem_iff.mp hb)
theorem Rel.addO (R : Rel w h0 κ F O h) (k : ∀ b o, h.get? b = some o → h'.get? b = some o) (hx : ∃ ob, h'.get? h.objs.size = some ob) (hr : ∀ κ', Ext h κ h' κ' → ObjR w h' κ' o (.obj h.objs.size)) :
 Rel w h0 ⟨κ.fr, κ.ob ++ [.obj h.objs.size], κ.hid⟩ F (O ++ [o]) h' ∧ Ext h κ h' ⟨κ.fr, κ.ob ++ [.obj h.objs.size], κ.hid⟩ := R.addA (new_none (le_refl _)) k hx fun κ' x _ => hr κ' x
theorem Rel.addH (R : Rel w h0 κ F O h) (k : ∀ b o, h.get? b = some o → h'.get? b = some o) (hn : ∀ a ∈ new, h.get? a = none ∧ ∃ o, h'.get? a = some o) (nd : new.Nodup) : Rel w h0 ⟨κ.fr, κ.ob, new ++ κ.hid⟩ F O h' ∧ Ext h κ h' ⟨κ.fr, κ.ob, new ++ κ.hid⟩ := by
 refine R.more (new := new) ?_ prefix_rfl k hn nd R.len R.flen (fun x i o c e e' => R.objs_mono k x e e') fun x i f p e e' => R.frs_mono k x (List.suffix_refl _) e e'
 show (κ.fr.flatMap FP.addrs ++ (new ++ κ.hid ++ κ.ob.map C.addr)).Perm _
 rw [append_assoc, ← append_assoc, Pl.mt, ← append_assoc new]
 exact List.perm_append_comm.append_right _
end
theorem Mono.app (b : Nat) (O T : Oj) : Mono b O (O ++ T) := fun i o _ e => ⟨o, by rw [getElem?_append_left (List.getElem?_eq_some_iff.mp e).1]; exact e, fun _ h => h⟩
theorem Mono.set_high {b : Nat} {O : Oj} (h : b ≤ i) : Mono b O (O.set i o) := fun j oj hj e => ⟨oj, by rw [getElem?_set_ne (fun q : i = j => absurd (q.symm ▸ hj) (not_lt.mpr h))]; exact e, fun _ q => q⟩
theorem Mono.set_pure {b : Nat} {O : Oj} (e : O[i]? = some o) (h : ∀ m, o.Under m → o'.Under m) : Mono b O (O.set i o') := fun j oj hj ej => by
 by_cases hij : i = j
 ·subst hij
  cases e.symm.trans ej
  exact ⟨o', by rw [List.getElem?_set_self (List.getElem?_eq_some_iff.mp e).1], h⟩
 ·exact ⟨oj, by rw [getElem?_set_ne hij]; exact ej, fun _ q => q⟩
section
variable {w : World} {A : Around} {n b : Nat} {κ : Pl} {F : List Fr} {O : Oj} {s : Shared} {env : Env}
noncomputable abbrev pushS (s : Shared) (o : Obj) : Shared := { s with heap := s.heap.push o }
theorem Go.push (R : RelW w κ F O s.heap) (o : Obj) : GoW w b κ O s κ F O (pushS s o) := Go.grow R (push_keeps _ o) ⟨rfl, rfl, rfl⟩
theorem new_tup (R : RelW w κ F O s.heap) (q : Q (.tup vs) O) (r : RVs s.heap κ vs cvs) : End w b κ F O s RV Q (.ref s.heap.objs.size) (pushS s { cls := .type "tuple", data := .seq cvs.toArray }) :=
 .mk q (Go.push R _) ⟨_, cvs.toArray, rfl, ⟨_, get?_push_size _ rfl⟩, R.size_off, rMs (Ext.grow (push_keeps _ _)) r⟩
theorem new_lst (R : RelW w κ F O s.heap) (q : Q (.lst vs) O) (r : RVs s.heap κ vs cvs) : End w b κ F O s RV Q (.ref s.heap.objs.size) (pushS s { cls := .type "list", data := .seq cvs.toArray }) :=
 .mk q (Go.push R _) ⟨_, cvs.toArray, rfl, ⟨_, get?_push_size _ rfl⟩, R.size_off, rMs (Ext.grow (push_keeps _ _)) r⟩
theorem new_objA {h' : Heap} {tk : Nat} (ha : s.heap.get? a = none) (R : RelW w κ F O s.heap) (q : Q (.ref O.length) (O ++ [o])) (k : ∀ b o, s.heap.get? b = some o → h'.get? b = some o) (hx : ∃ ob, h'.get? a = some ob) (r : ∀ κ', Ext s.heap κ h' κ' → (∀ b ∈ κ'.mt, b = a ∨ b ∈ κ.mt) → ObjR w h' κ' o (.obj a)) : End w b κ F O s RV Q (.ref a) { s with heap := h', toks := tk } :=
 let ⟨R', x⟩ := R.addA ha k hx r
 .mk q ⟨R', x, rfl, ⟨rfl, rfl, rfl⟩, Mono.app _ _ _, fun a h => ⟨h, fun o e => k a o e⟩⟩ ⟨_, rfl, by rw [← R.len, getElem?_append_right (le_refl _), sub_self]; rfl⟩
theorem new_obj' {h' : Heap} {tk : Nat} (R : RelW w κ F O s.heap) (q : Q (.ref O.length) (O ++ [o])) (k : ∀ b o, s.heap.get? b = some o → h'.get? b = some o) (hx : ∃ ob, h'.get? s.heap.objs.size = some ob) (r : ∀ κ', Ext s.heap κ h' κ' → ObjR w h' κ' o (.obj s.heap.objs.size)) : End w b κ F O s RV Q (.ref s.heap.objs.size) { s with heap := h', toks := tk } := new_objA (new_none (le_refl _)) R q k hx fun κ' x _ => r κ' x
theorem new_obj {ob : Obj} (R : RelW w κ F O s.heap) (q : Q (.ref O.length) (O ++ [o])) (nf : ob.isFreed = false) (r : ∀ κ', Ext s.heap κ (s.heap.push ob) κ' → ObjR w (s.heap.push ob) κ' o (.obj s.heap.objs.size)) : End w b κ F O s RV Q (.ref s.heap.objs.size) (pushS s ob) :=
 new_obj' R q (push_keeps _ _) ⟨_, get?_push_size _ nf⟩ r
theorem new_list (R : RelW w κ F O s.heap) (q : Q (.ref O.length) (O ++ [.list vs])) (r : RVs s.heap κ vs cvs) : End w b κ F O s RV Q (.ref s.heap.objs.size) (pushS s { cls := .type "list", data := .seq cvs.toArray }) :=
 new_obj R q rfl fun κ' x => ⟨cvs.toArray, ⟨_, get?_push_size _ rfl⟩, rMs x r⟩
theorem free_cell {h : Heap} {x : Str} {v : V} {c : Addr} : ∀ {F : List Fr} {P : List FP} {k : Nat}, (∀ (i : Nat) f p, F[i]? = some f → P[i]? = some p → FrameR h κ f p) → getFree F k x = some v → cellAt P k x = some c → ∃ cv, h.IsCell c (some cv) ∧ RV h κ v cv
 | _ :: F, _ :: P, k + 1, hR, e, e' => free_cell (F := F) (P := P) (k := k) (fun i f p a b => hR (i + 1) f p a b) e e'
 | f :: F, p :: P, 0, hR, e, e' => by
  have fr := hR 0 f p rfl rfl
  obtain ⟨k, hk, e⟩ := bS e
  unfold cellAt at e'
  rw [← fr.nm, hk] at e'
  cases k with
  | cell =>
   obtain ⟨c', cv, h1, h2, h3⟩ := fr.cell x hk
   cases h1.symm.trans e'
   obtain ⟨cv, rfl, r⟩ := OptR.some (v := v) ((show f.get x = some v from e) ▸ h3)
   exact ⟨cv, h2, r⟩
  | free => exact free_cell (F := F) (P := P) (k := f.up) (fun i f p a b => hR (i + 1) f p a b) e (fr.up ▸ e')
  | _ => exact nN e
theorem load_sound (B : Base w) (t : St w A n b κ F O s env) (h : getV GG F x = some v) (hcd : (x == ("__classdict__" : Str)) = false) (q : Q v O) : wpAny (MW w) A (loadName env x) (End w b κ F O s RV Q) noE s := by
 obtain ⟨p, r, hp, T⟩ := t.env.top
 have nm : ∀ {f}, F[0]? = some f → FrameR s.heap κ f p := fun e => t.rel.frs 0 _ p e (hp ▸ rfl)
 cases F with
 | nil => exact nN h
 | cons f rF =>
  have fr := nm rfl
  obtain ⟨kd, hn, h⟩ := bS h
  have hn' := fr.nm ▸ hn
  cases kd with
  | «local» =>
   obtain ⟨m, hm, hl⟩ := fr.loc
   obtain ⟨cv, e, rv⟩ := OptR.some (v := v) ((show f.get x = some v from h) ▸ hl x hn)
   exact wpAny_loadName_local t.env.kind (T.loc x hn') (T.L ▸ hm) e (End.here t.rel q rv)
  | cell =>
   obtain ⟨c, cv, h1, h2, h3⟩ := fr.cell x hn
   obtain ⟨k1, c', k2, k3⟩ := T.cell x hn'
   cases h1.symm.trans k2
   obtain ⟨cv, rfl, rv⟩ := OptR.some (v := v) ((show f.get x = some v from h) ▸ h3)
   exact wpAny_loadName_cell t.env.kind k1 k3 h2 (End.here t.rel q rv)
  | free =>
   obtain ⟨k1, c, k2, k3⟩ := T.free x hn'
   obtain ⟨cv, c1, c2⟩ := free_cell (F := rF) (P := r) (k := f.up) (fun i f p e e' => t.rel.frs (i + 1) f p e (hp ▸ e')) h (fr.up ▸ k3)
   exact k1.elim (fun k1 => wpAny_loadName_cell t.env.kind k1 k2 c1 (End.here t.rel q c2)) fun k1 => wpAny_loadName_free t.env.kind k1 k2 c1 (End.here t.rel q c2) hcd
  | globalImplicit =>
   obtain ⟨mg, mb, n1, n2, n3⟩ := B.globals
   obtain ⟨cv, rfl, hcv⟩ := n3 x v h
   have g1 : s.heap.Ns env.globals mg := t.env.glob ▸ n1.keeps t.rel.base
   have g2 : s.heap.Ns env.builtins mb := t.env.blt ▸ n2.keeps t.rel.base
   unfold loadName
   simp only [Env.blockKind, t.env.kind, T.glb x hn', ScopeKind.isAnnotationScope, Bool.false_and, false_eq_true, if_false]
   exact hcv.elim (fun e => Calls.loadGlobal_global g1 e (End.here t.rel q (topV_is _ _ _))) fun e => Calls.loadGlobal_builtin g1 e.1 g2 e.2 (End.here t.rel q (topV_is _ _ _))
  | _ => exact nN h
theorem okNm_is (h : okNm x = true) : (x == ("__debug__" : Str)) = false ∧ (x == ("__classdict__" : Str)) = false := by
 simpa [okNm] using h
theorem name_sound {pos : Pos} (B : Base w) (t : St w A n b κ F O s env) (h : Gd (okNm x) (Lf (getV GG F x) fun v => Q v O)) : wpAny (MW w) A (eval (.Name x pos) env) (End w b κ F O s RV Q) noE s :=
 let ⟨h1, h2⟩ := h.out
 let ⟨v, e, q⟩ := h2.out
 wpAny_Name (load_sound B t e (okNm_is h1).2 q) (okNm_is h1).1
theorem setVar_lookup (x : Str) (v : V) (y : Str) : ∀ vars : Vars, (setVar vars x v).lookup y = if y = x then some (some v) else vars.lookup y
 | [] => by
  by_cases h : y = x
  ·rw [setVar, h, List.lookup_cons_self, if_pos rfl]
  ·rw [setVar, lookup_cons, beq_false_of_ne h, if_neg h]
 | e :: r => by
  rw [setVar]
  by_cases he : (e.1 == x) = true
  ·rw [if_pos he, lookup_cons, lookup_cons (k := e.1), beq_iff_eq.mp he]
   by_cases h : y = x
   ·rw [h, beq_self_eq_true, if_pos rfl]
   ·rw [beq_false_of_ne h, if_neg h]
  ·rw [if_neg he, lookup_cons, lookup_cons (k := e.1), setVar_lookup x v y r]
   cases h : y == e.1 with
   | false => rfl
   | true => exact (if_neg fun q => he (beq_iff_eq.mpr ((beq_iff_eq.mp h).symm.trans q))).symm
theorem FrameR.set {h h' : Heap} (fr : FrameR h κ f p) (xx : Ext h κ h' κ) (r : RV h κ v cv)
 (loc : ∀ m, h.Ns p.L m → ∃ m', h'.Ns p.L m' ∧ ∀ y, f.names.lookup y = some .local → m' y = if y = x then some cv else m y)
 (cell : ∀ y c dv, f.names.lookup y = some .cell → p.cells.lookup y = some c → h.IsCell c dv → h'.IsCell c (if y = x then some cv else dv)) : FrameR h' κ ⟨f.names, setVar f.vars x v, f.lam, f.up, keptClo f.clo x⟩ p :=
 have key : ∀ y dv, OptR h κ (f.get y) dv → OptR h' κ (Fr.get ⟨f.names, setVar f.vars x v, f.lam, f.up, keptClo f.clo x⟩ y) (if y = x then some cv else dv) := fun y dv o => by
  show OptR h' κ (gotv ((setVar f.vars x v).lookup y)) _
  rw [setVar_lookup]
  by_cases q : y = x
  ·rw [if_pos q, if_pos q]; exact rM xx r
  ·rw [if_neg q, if_neg q]; exact OptR_mono xx o
 { nm := fr.nm
   lm := fr.lm
   loc := by obtain ⟨m, hm, hl⟩ := fr.loc; obtain ⟨m', h1, h2⟩ := loc m hm; exact ⟨m', h1, fun y hy => h2 y hy ▸ key y _ (hl y hy)⟩
   cell := fun y hy => let ⟨c, dv, h1, h2, h3⟩ := fr.cell y hy; ⟨c, _, h1, cell y c dv hy h1 h2, key y dv h3⟩
   up := fr.up
   clo := fun c hc => by
    cases hf : f.clo with
    | none => rw [hf] at hc; exact nN hc
    | some d =>
     rw [hf] at hc
     have hc : (if d.name == x then none else some d) = some c := hc
     by_cases hx : (d.name == x) = true
     ·rw [if_pos hx] at hc; exact nN hc
     ·rw [if_neg hx] at hc
      cases hc
      obtain ⟨a, r, o, fd, cl, h1, h2, h3, h4, h5, h6, h7⟩ := (fr.clo _ hf).is
      refine ⟨a, r, o, fd, cl, ?_, h2, h3, h4, xx.keep _ _ h5 h4, { h6 with code := CodeR_mono xx h6.code }, h7⟩
      show gotv ((setVar f.vars x v).lookup c.name) = _
      rw [setVar_lookup, if_neg fun q => hx (beq_iff_eq.mpr q)]
      exact h1 }
theorem ne_kind {l : Names} {y : Str} {a b : NameKind} (hx : l.lookup x = some a) (hy : l.lookup y = some b) (hab : a ≠ b) : ¬ y = x := fun q => hab (Option.some.inj (hx.symm.trans (q ▸ hy)))
theorem setTop_sound {A0 : Around} {F1 : List Fr} {P : Unit → Shared → Prop} {E : Value → Shared → Prop} (t : St w A n b κ F O s env) (h : setTop F x v = some F1) (r : RV s.heap κ v cv) (k : ∀ s1, GoW w b κ O s κ F1 O s1 → P () s1) : wpAny (MW w) A0 (storeName env x cv) P E s := by
 obtain ⟨p, rp, hp, T⟩ := t.env.top
 cases F with
 | nil => exact nN h
 | cons f rF =>
  have hp0 : κ.fr[0]? = some p := hp ▸ rfl
  have fr : FrameR s.heap κ f p := t.rel.frs 0 f p rfl hp0
  have nd := fp_nodup (fr_nd t.rel.nd) hp0
  have cin : ∀ {y c}, p.cells.lookup y = some c → c ∈ p.cells.map (·.2) := fun e => mem_map_of_mem (lookup_memL e)
  have nin : ∀ {y c}, p.cells.lookup y = some c → ¬ p.L = c := fun e q => (nodup_cons.mp nd).1 (q ▸ cin e)
  dsimp only [setTop] at h
  cases hn : f.names.lookup x with
  | none => rw [hn] at h; exact nN h
  | some kd =>
   rw [hn] at h
   cases kd with
   | «local» =>
    cases h
    obtain ⟨m, hm, _⟩ := id fr.loc
    refine wpAny_storeName_local (T.loc x (fr.nm ▸ hn)) (T.L ▸ hm) (fun h' hn' hs' => ?_) (by rw [t.env.kind]; rfl)
    rw [T.L] at hn' hs'
    obtain ⟨R', x', hk⟩ := t.rel.setF (f' := ⟨f.names, setVar f.vars x v, f.lam, f.up, keptClo f.clo x⟩) hp (mem_cons_self ..) (fun b ob hb e => (hs'.2 b hb).trans e) (let ⟨o, _, _, ho, _⟩ := hn'; ⟨o, ho⟩) fun xx =>
     fr.set xx r (fun m2 hm2 => ⟨_, hn', fun y hy => by rw [hm.agree hm2]⟩) fun y c dv hy h1 h2 => by
      rw [if_neg (ne_kind hn hy nofun)]
      exact h2.sameBut hs' fun q => nin h1 q.symm
    exact k _ ⟨R', x', rfl, ⟨rfl, rfl, rfl⟩, Mono.refl _ _, hk⟩
   | cell =>
    cases h
    obtain ⟨k1, c', k2, k3⟩ := T.cell x (fr.nm ▸ hn)
    obtain ⟨c, cv', h1, hcell, h3⟩ := fr.cell x hn
    cases k2.symm.trans h1
    refine wpAny_storeName_cell t.env.kind k1 k3 hcell (fun h' hn' hs' => ?_)
    obtain ⟨R', x', hk⟩ := t.rel.setF (f' := ⟨f.names, setVar f.vars x v, f.lam, f.up, keptClo f.clo x⟩) hp (mem_cons_of_mem _ (cin h1)) (fun b ob hb e => (hs'.2 b hb).trans e) (let ⟨o, ho, _⟩ := hn'; ⟨o, ho⟩) fun xx =>
     fr.set xx r (fun m hm => ⟨m, hm.sameBut hs' (nin h1), fun y hy => by rw [if_neg (ne_kind hn hy nofun)]⟩) fun y c2 dv hy g1 g2 => by
      by_cases hq : y = x
      ·rw [if_pos hq]
       cases (hq ▸ g1).symm.trans h1
       exact hn'
      ·rw [if_neg hq]
       exact g2.sameBut hs' fun q => hq (name_of_addr (List.pairwise_map.mp (nodup_cons.mp nd).2) (lookup_memL g1) (q ▸ lookup_memL h1))
    exact k _ ⟨R', x', rfl, ⟨rfl, rfl, rfl⟩, Mono.refl _ _, hk⟩
   | _ => exact nN h
end
end
section
variable {l : List V} {k : Nat} {h0 h : Heap} {cv : Value} {v : V} {Q : V → Oj → Prop} {es : List Expr} {pos : Pos}
theorem iS {α : Type} {c : Prop} [Decidable c] {o : Option α} {v : α} (h : (if c then o else none) = some v) : c ∧ o = some v := by
 by_cases hc : c
 ·rw [if_pos hc] at h; exact ⟨hc, h⟩
 ·rw [if_neg hc] at h; exact nN h
theorem aB {a b : Bool} (h : (a && b) = true) : a = true ∧ b = true := and_eq_true_iff.mp h
theorem listAt_some {O : Oj} {n : Nat} (h : lA O n = some l) : O[n]? = some (.list l) := by
 dsimp only [lA] at h
 cases ho : O[n]? with
 | none => rw [ho] at h; exact nN h
 | some o =>
  rw [ho] at h
  cases o with
  | list l' => cases h; rfl
  | _ => exact nN h
theorem lenOk_le (h : lO k = true) : k ≤ 1000000 := of_decide_eq_true h
section
variable {w : World} {A : Around} {n b : Nat} {κ : Pl} {F : List Fr} {O : Oj} {s : Shared} {env : Env} {J : WI} {E : Value → Shared → Prop}
theorem Rel.list (R : Rel w h0 κ F O h) (e : lA O k = some l) (r : RV h κ (.ref k) cv) : ∃ a vals, cv = .ref a ∧ κ.ob[k]? = some (.obj a) ∧ h.PlainList a vals ∧ RVs h κ l vals.toList :=
 by obtain ⟨a, e1, hi⟩ := r; obtain ⟨vals, h1, h2⟩ := R.at' (listAt_some e) hi; exact ⟨a, vals, e1, hi, h1, h2⟩
theorem items_of (R : Rel w h0 κ F O h) (e : iO O v = some l) (r : RV h κ v cv) : ∃ a vals, cv = .ref a ∧ h.PlainList a vals ∧ RVs h κ l vals.toList := by
 cases v with
 | lst l' => cases e; exact let ⟨a, vals, e, h1, _, h2⟩ := r; ⟨a, vals, e, h1, h2⟩
 | ref k => exact let ⟨a, vals, e1, _, h1, h2⟩ := R.list (k := k) e r; ⟨a, vals, e1, h1, h2⟩
 | _ => exact nN e
theorem RVs_size {vals : Array Value} (r : RVs h κ l vals.toList) : l.length = vals.size := RVs_length r
theorem RVs_empty {vals : Array Value} (r : RVs h κ l vals.toList) : (!vals.isEmpty) = !l.isEmpty := by
 rw [Array.isEmpty, ← RVs_size r]
 cases l <;> rfl
theorem small63 (h : k ≤ 1000000) : (k : Int) < 2 ^ 63 := Int.lt_of_le_of_lt (ofNat_le.mpr h) (by decide)
theorem truthL_sound {a : Addr} {vals : Array Value} {Q : Bool → Oj → Prop} (R : RelW w κ F O s.heap) (h : lO l.length = true) (hl : s.heap.PlainList a vals) (rs : RVs s.heap κ l vals.toList) (q : Q (!l.isEmpty) O) : wpAny (MW w) A (truthy (.ref a)) (End w b κ F O s EqR Q) E s :=
 wpAny_truthy_list hl.isList (small63 (RVs_size rs ▸ lenOk_le h)) (RVs_empty rs ▸ End.tok R q (RVs_empty rs ▸ rfl))
theorem truth_sound {t : Bool} {Q : Bool → Oj → Prop} (h : truthV O v = some t) (R : RelW w κ F O s.heap) (r : RV s.heap κ v cv) (q : Q t O) : wpAny (MW w) A (truthy cv) (End w b κ F O s EqR Q) E s := by
 cases v with
 | none => cases h; cases r; exact fun _ _ _ => End.here R q rfl
 | bool _ => cases h; cases r; exact fun _ _ _ => End.here R q rfl
 | int i =>
  cases h; obtain ⟨t, rfl⟩ := r
  refine P.truthy_int (End.here R q ?_)
  show (i != 0) = decide (i ≠ 0)
  rw [decide_not]; rfl
 | str l =>
  obtain ⟨t, rfl⟩ := r
  obtain ⟨hl, e'⟩ := iS h
  cases e'
  refine P.truthy_str (by rw [sL]; exact Int.not_le.mpr (small63 (lenOk_le hl))) (End.tok R q ?_)
  show (((S l).length : Int) != 0) = !l.isEmpty
  rw [sL]
  cases l <;> rfl
 | lst l =>
  obtain ⟨a, vals, rfl, hl, _, rs⟩ := r
  obtain ⟨h1, h2⟩ := iS h
  cases h2
  exact truthL_sound R h1 hl rs q
 | ref k =>
  obtain ⟨l, h1, h⟩ := bS h
  obtain ⟨h2, h3⟩ := iS h
  cases h3
  obtain ⟨a, vals, rfl, _, hl, rs⟩ := R.list h1 r
  exact truthL_sound R h2 hl rs q
 | _ => exact nN h
theorem starFree_cons {e : Expr} (h : starFree (e :: es) = true) : starFree es = true ∧ starEach (e :: es) env = (false, eval e env) :: starEach es env := by
 cases e <;> first | exact ⟨h, rfl⟩ | exact ff_ne h
noncomputable def EvOk (w : World) (n : Nat) (f : Expr → List Fr → Nat → (V → Oj → Prop) → Oj → Prop) : Prop := ∀ {A s κ F O b env ex Q}, f ex F b Q O → St w A n b κ F O s env → wpAny (MW w) A (eval ex env) (End w b κ F O s RV Q) noE s
theorem wes_sound {f : Expr → List Fr → Nat → (V → Oj → Prop) → Oj → Prop} (hf : EvOk w n f) {pos : Pos} : ∀ {es : List Expr} {κ : Pl} {O : Oj} {s : Shared} {Q : List V → Oj → Prop}, wes f es F b Q O → starFree es = true → St w A n b κ F O s env →
 wpAny (MW w) A (spliced (backTo pos (starEach es env))) (End w b κ F O s (RVn es.length) Q) noE s
 | [], _, _, _, _, h, _, t => wpAny_items_nil (End.here t.rel h ⟨RVs_nil, rfl⟩)
 | _ :: _, _, _, _, _, h, hs, t => wpAny_items_cons (End.seq (hf h t) fun q g r => End.seq (wes_sound hf q (starFree_cons (env := env) hs).1 (t.next g)) fun q2 g2 r2 => .mk q2 (g.trans g2) ⟨RVs_cons (rM g2.ext r) r2.1, congrArg (· + 1) r2.2⟩) (starFree_cons hs).2
noncomputable def KwR (nk : List Str) (h : Heap) (κ : Pl) (vs : List (Str × V)) (cs : List Value) : Prop := KsR h κ vs (nk.zip cs)
theorem wks_sound (S : Snd w n J) (ks : List Keyword) : ∀ {κ : Pl} {O : Oj} {s : Shared} {Q : List (Str × V) → Oj → Prop}, wks J ks F b Q O → St w A n b κ F O s env →
 wpAny (MW w) A (evalAll ((backToKw pos (keywordEach ks env)).map (·.2))) (End w b κ F O s (KwR ((backToKw pos (keywordEach ks env)).filterMap (·.1))) Q) noE s := by
 induction ks with
 | nil => exact fun h t => wpAny_evalAll_nil (End.here t.rel h rfl)
 | cons k ks ih =>
  intro κ O s Q h t
  obtain ⟨nm, e, p⟩ := k
  cases nm with
  | none => exact False.elim h
  | some x => exact wpAny_evalAll_cons (wpAny_bind (End.seq (S.e h t) fun q g r => wpAny_bind (wpAny_standAt (wpAny_pure (End.seq (ih q (t.next g)) fun q2 g2 r2 => .mk q2 (g.trans g2) ⟨_, _, rfl, rM g2.ext r, r2⟩)))))
theorem wks_all (ks : List Keyword) (h : (ks.all fun k => k.arg.isSome) = true) : (backToKw pos (keywordEach ks env)).all (·.1.isSome) = true := by
 induction ks with
 | nil => rfl
 | cons k ks ih =>
  obtain ⟨nm, e, p⟩ := k
  cases nm with
  | none => exact ff_ne h
  | some x => exact ih h
theorem okEs_le (h : okEs es = true) (e : k = es.length) : k ≤ sizeLine := e ▸ le_trans (of_decide_eq_true (aB h).2) (by decide)
theorem frozen_sound (S : Snd w n J) (h : Gd (okEs es) (wes J.l es F b (fun vs O1 => Q (.lst vs) O1) O)) (t : St w A n b κ F O s env) : wpAny (MW w) A (eval (.List es pos) env) (End w b κ F O s RV Q) noE s :=
 wpAny_List (End.seq (wes_sound S.l h.out.2 (aB h.out.1).1 t) fun q g r => ⟨okEs_le h.out.1 r.2, (new_lst g.rel q r.1).go g⟩)
theorem list_sound (S : Snd w n J) (h : Gd (okEs es) (wes J.l es F b (fun vs O1 => Q (.ref O1.length) (O1 ++ [.list vs])) O)) (t : St w A n b κ F O s env) : wpAny (MW w) A (eval (.List es pos) env) (End w b κ F O s RV Q) noE s :=
 wpAny_List (End.seq (wes_sound S.l h.out.2 (aB h.out.1).1 t) fun q g r => ⟨okEs_le h.out.1 r.2, (new_list g.rel q r.1).go g⟩)
theorem tuple_sound (S : Snd w n J) (h : Gd (okEs es) (wes J.e es F b (fun vs O1 => Q (.tup vs) O1) O)) (t : St w A n b κ F O s env) : wpAny (MW w) A (eval (.Tuple es k pos) env) (End w b κ F O s RV Q) noE s :=
 wpAny_Tuple (End.seq (wes_sound S.e h.out.2 (aB h.out.1).1 t) fun q g r => ⟨okEs_le h.out.1 r.2, (new_tup g.rel q r.1).go g⟩)
theorem and_sound (S : Snd w n J) {op : BoolOp} (es : List Expr) : ∀ {κ : Pl} {O : Oj} {s : Shared} {Q : V → Oj → Prop}, wAnd J op es F b Q O → St w A n b κ F O s env → wpAny (MW w) A (boolOp pos op (evalEach es env)) (End w b κ F O s RV Q) noE s := by
 induction es with
 | nil => exact fun h => h.elim
 | cons e es ih =>
  cases es with
  | nil => exact fun h t => S.e h t
  | cons e' es =>
   intro κ O s Q h t
   show wpAny (MW w) A (do
    let v ← eval e env
    standAt pos
    let t ← holding [v] (truthy v)
    match op, t with
    | .And, false | .Or, true => pure v
    | _, _ => boolOp pos op (evalEach (e' :: es) env)) _ noE s
   refine wpAny_bind (End.seq (S.e h t) fun {v κ1 O1 cv s1} q g r => wpAny_bind (wpAny_standAt (wpAny_bind (wpAny_holding ?_))))
   obtain ⟨u, h1, q⟩ := q.out
   refine End.seq (truth_sound (b := b) (Q := fun u' O' => u' = u ∧ O' = O1) h1 g.rel r ⟨rfl, rfl⟩) fun {u' κ2 O2 ct s2} q2 g2 r2 => ?_
   obtain ⟨rfl, rfl⟩ := q2
   cases r2
   have r := rM g2.ext r
   have g := g.trans g2
   cases op <;> cases u'
   ·exact wpAny_pure (.mk q g r)
   ·exact End.on g (ih q (t.next g))
   ·exact End.on g (ih q (t.next g))
   ·exact wpAny_pure (.mk q g r)
theorem ts_sound (S : Snd w n J) {op : BoolOp} : ∀ {es : List Expr} {κ : Pl} {O : Oj} {s : Shared} {Q : Bool → Oj → Prop}, wTs J op es F b Q O → St w A n b κ F O s env → wpAny (MW w) A (allTrue op es env) (End w b κ F O s EqR Q) noE s
 | [], _, _, _, _, h, t => wpAny_pure (End.here t.rel h (by cases op <;> rfl))
 | e :: es, κ, O, s, Q, h, t => by
  show wpAny (MW w) A (do
   match op, ← isTrue e env (eval e env) with
   | .And, false => pure false
   | .Or, true => pure true
   | _, _ => allTrue op es env) _ noE s
  refine wpAny_bind (End.seq (S.t h t) fun {u _ _ _ _} q g r => ?_)
  cases r
  cases op <;> cases u
  ·exact wpAny_pure (.mk q g rfl)
  ·exact End.on g (ts_sound S q (t.next g))
  ·exact End.on g (ts_sound S q (t.next g))
  ·exact wpAny_pure (.mk q g rfl)
theorem exs_sound (S : Snd w n J) : ∀ {l : List Stmt} {F : List Fr} {κ : Pl} {O : Oj} {s : Shared} {Q : Fl → List Fr → Oj → Prop}, xs J l F b Q O → St w A n b κ F O s env → wpAny (MW w) A (execs l env) (EndS w b κ O s Q) noE s
 | [], _, _, _, _, _, h, t => wpAny_execs_nil (.mk h (Go.refl t.rel) rfl)
 | _ :: l, _, _, _, _, _, h, t => wpAny_execs_cons (EndS.seq (S.s h t) fun {f _ _ _ _ _} q g r => by
  cases f with
  | next => cases r; exact EndS.on g (exs_sound S q (t.next g))
  | ret v => obtain ⟨cv, rfl, rv⟩ := r; exact .mk q g ⟨cv, rfl, rv⟩
  | _ => cases r; exact .mk q g rfl)
inductive Lp (w : World) (b : Nat) (κ : Pl) (O : Oj) (s : Shared) (P : List Fr → Oj → Prop) : Shared → Prop where
 | mk {F' : List Fr} {κ' : Pl} {O' : Oj} {s' : Shared} (p : P F' O') (g : GoW w b κ O s κ' F' O' s') : Lp w b κ O s P s'
theorem while_sound (S : Snd w n J) {test : Expr} {body : List Stmt} {Q : Fl → List Fr → Oj → Prop} (h : whileW J test body b Q k F O) (t : St w A n b κ F O s env) : wpAny (MW w) A (exec (.While test body [] pos) env) (EndS w b κ O s Q) noE s := by
 refine wpAny_While (codeAny_whileLoop (fun k => Lp w b κ O s (whileW J test body b Q k)) (fun k s1 h => ?_) k (.mk h (Go.refl t.rel)))
 obtain ⟨h, g⟩ := h
 cases k with
 | zero => exact False.elim h
 | succ k =>
  have t := t.next g
  refine End.seq (S.t h t) fun {u _ _ _ _} q g1 r => ?_
  cases r
  have t := t.next g1
  have g := g.trans g1
  cases u with
  | false => exact wpAny_execs_nil (.mk q g rfl)
  | true =>
   refine EndS.seq (exs_sound S q t) fun {f _ _ _ _ _} q g2 r => ?_
   have g := g.trans g2
   cases f with
   | ret v => obtain ⟨cv, rfl, rv⟩ := r; exact .mk q g ⟨cv, rfl, rv⟩
   | brk => cases r; exact .mk q g rfl
   | _ => cases r; exact ⟨k, lt_succ_self k, .mk q g⟩
end
end
section
variable {op : CmpOp} {ops : List CmpOp} {e : Expr} {es : List Expr} {t : Sem Value} {ts : List (Sem Value)} {cv cx ck : Value} {Q : Bool → Oj → Prop} {v x y : V} {a : Addr} {pos : Pos} {l : List V} {h h0 : Heap} {r : Option V}
structure Ops (w : World) : Prop where
 bin : ∀ {A s κ F O b op x y v cx cy Q}, binV O op x y = some v → Ok A 1 → RelW w κ F O s.heap → RV s.heap κ x cx → RV s.heap κ y cy → Q v O → wpAny (MW w) A (binaryOp op cx cy) (End w b κ F O s RV Q) noE s
 inpl : ∀ {A s κ F O b op i j v cx cy Q}, binV O op (.int i) (.int j) = some v → Ok A 1 → RelW w κ F O s.heap → RV s.heap κ (.int i) cx → RV s.heap κ (.int j) cy → Q v O → wpAny (MW w) A (inplaceOp op cx cy) (End w b κ F O s RV Q) noE s
 cmp : ∀ {A s κ F O b op x y t cx cy Q}, cmpV GG O op x y = some t → Ok A 1 → RelW w κ F O s.heap → RV s.heap κ x cx → RV s.heap κ y cy → Q (.bool t) O → wpAny (MW w) A (compareOp op cx cy) (End w b κ F O s RV Q) noE s
 idx : ∀ {A s κ F O b x y v cx cy Q}, idxV O x y = some v → Ok A 1 → RelW w κ F O s.heap → RV s.heap κ x cx → RV s.heap κ y cy → Q v O → wpAny (MW w) A (getItem cx cy) (End w b κ F O s RV Q) noE s
 slice : ∀ {A s κ F O b x lo hi st v cx cl ch cs a Q}, sliceV O x lo hi st = some v → Ok A 1 → RelW w κ F O s.heap → RV s.heap κ x cx → RV s.heap κ lo cl → RV s.heap κ hi ch → RV s.heap κ st cs →
  s.heap.get? a = some { cls := .type "slice", data := .fields #[cl, ch, cs] } → a ∉ κ.mt → Q v O → wpAny (MW w) A (getItem cx (.ref a)) (End w b κ F O s RV Q) noE s
 bi : ∀ {A s κ F O b id a r ca Q}, callB (ofString id) a b O = some r → Ok A 1 → RelW w κ F O s.heap → b ≤ O.length → RVs s.heap κ a ca → Q r.1 r.2 → wpAny (MW w) A (call (.builtin id) ca []) (End w b κ F O s RV Q) noE s
 ty : ∀ {A s κ F O b id a r ca Q}, callY (ofString id) a b O = some r → Ok A 1 → RelW w κ F O s.heap → b ≤ O.length → RVs s.heap κ a ca → Q r.1 r.2 → wpAny (MW w) A (call (.type id) ca []) (End w b κ F O s RV Q) noE s
section
variable {w : World} {A : Around} {n b : Nat} {κ : Pl} {F : List Fr} {O : Oj} {s : Shared} {env : Env} {J : WI} {E : Value → Shared → Prop}
theorem not_b {c : Bool} (h : (!c) = true) : c = false := by
 cases c with
 | false => rfl
 | true => exact ff_ne h
theorem markedEach_cons (h : behindInMarks op e = false) : markedEach (op :: ops) (e :: es) (t :: ts) = t :: markedEach ops es ts := by
 cases ops with
 | nil => cases es with
  | nil => cases ts with
   | nil => exact congrArg (· :: []) (markedBehindIn_of_false h)
   | cons => rfl
  | cons => rfl
 | cons => rfl
theorem markedEach_ne : markedEach ops es (t :: ts) ≠ [] := by
 cases ops with
 | nil => cases es <;> exact List.cons_ne_nil _ _
 | cons op ops => cases es with
  | nil => cases ops <;> exact List.cons_ne_nil _ _
  | cons e es => cases ops <;> cases es <;> cases ts <;> exact List.cons_ne_nil _ _
theorem bool_truth {t : Bool} (R : RelW w κ F O s.heap) (r : RV s.heap κ (.bool t) cv) (q : Q t O) : wpAny (MW w) A (truthy cv) (End w b κ F O s EqR Q) E s := truth_sound rfl R r q
theorem wpAny_release {M : Model} {vs keep : List Value} {Q : Unit → Shared → Prop} (h : Q () s) : wpAny M A (release vs keep) Q E s := fun Γ p hΓ => by rw [Sem.wp_release]; exact h
theorem link_sound (Op : Ops w) {a : V} {ca : Value} {q : Bool → Prop} {P : Value → Shared → Prop} (h : Lf (cmpV GG O op a v) q) (ok : Ok A 1) (R : RelW w κ F O s.heap) (ra : RV s.heap κ a ca) (rv : RV s.heap κ v cv)
 (k : ∀ {u κ2 ct s2}, q u → GoW w b κ O s κ2 F O s2 → RV s2.heap κ2 (.bool u) ct → P ct s2) : wpAny (MW w) A (compareOp op ca cv) P E s := by
 obtain ⟨u, h1, q⟩ := h.out
 refine End.seq (Op.cmp (b := b) (Q := fun u' O' => u' = .bool u ∧ O' = O) h1 ok R ra rv ⟨rfl, rfl⟩) fun {u' κ2 O2 ct s2} q2 g2 r2 => ?_
 obtain ⟨rfl, rfl⟩ := q2
 exact k q g2 r2
theorem chain_sound (Op : Ops w) (S : Snd w n J) (ok : Ok A 1) (ops : List CmpOp) : ∀ {es : List Expr} {a : V} {ca : Value} {κ : Pl} {O : Oj} {s : Shared}, wChain GG J a ops es F b Q O → ops.length = es.length → RV s.heap κ a ca → St w A n b κ F O s env →
 wpAny (MW w) A (testChain pos ca ops (markedEach ops es (evalEach es env))) (End w b κ F O s EqR Q) noE s := by
 induction ops with
 | nil => intro es a ca κ O s h; cases es <;> exact h.elim
 | cons op ops ih =>
  intro es a ca κ O s h hl ra t
  cases es with
  | nil => exact h.elim
  | cons e es =>
   rw [show evalEach (e :: es) env = eval e env :: evalEach es env from rfl, markedEach_cons (not_b h.out.1)]
   cases ops with
   | nil =>
    cases es with
    | cons => cases hl
    | nil =>
     show wpAny (MW w) A (do
      let rv ← holding [ca] (eval e env)
      standAt pos
      let c ← operate [ca, rv] (compareOp op ca rv)
      holding [c] (truthy c)) _ noE s
     refine wpAny_bind (wpAny_holding (End.seq (S.l h.out.2 t) fun {v κ1 O1 cv s1} q g r => wpAny_bind (wpAny_standAt (wpAny_bind (wpAny_operateT ?_)))))
     exact link_sound (b := b) Op q ok g.rel (rM g.ext ra) r fun q g2 r2 => wpAny_holding (End.on (g.trans g2) (bool_truth g2.rel r2 q))
   | cons op' ops =>
    cases es with
    | nil => cases hl
    | cons e' es =>
     have ht : ∀ ts : List (Sem Value), ts ≠ [] → testChain pos ca (op :: op' :: ops) (eval e env :: ts) = (do
      let rv ← holding [ca] (eval e env)
      standAt pos
      let c ← holding [ca, rv] (compareOp op ca rv)
      release [ca, rv] [c]
      if ← holding [c, rv] (truthy c) then testChain pos rv (op' :: ops) ts else pure false) := fun ts hts => by
      cases ts with
      | nil => exact absurd rfl hts
      | cons => rfl
     rw [ht _ (show markedEach (op' :: ops) (e' :: es) (evalEach (e' :: es) env) ≠ [] from markedEach_ne)]
     refine wpAny_bind (wpAny_holding (End.seq (S.l h.out.2 t) fun {v κ1 O1 cv s1} q g r => wpAny_bind (wpAny_standAt (wpAny_bind (wpAny_holding ?_)))))
     refine link_sound (b := b) Op q ok g.rel (rM g.ext ra) r fun {u κ2 ct s2} q g2 r2 => ?_
     refine wpAny_bind (wpAny_release (wpAny_bind (wpAny_holding (End.seq (bool_truth (b := b) (Q := fun u' O' => u' = u ∧ O' = O1) g2.rel r2 ⟨rfl, rfl⟩) fun {u' κ3 O3 cu s3} q3 g3 r3 => ?_))))
     obtain ⟨rfl, rfl⟩ := q3
     cases r3
     have r := rM (g2.trans g3).ext r
     have g := g.trans (g2.trans g3)
     cases u' with
     | false => exact wpAny_pure (.mk q g rfl)
     | true => exact End.on g (ih q (Nat.succ.inj hl) r (t.next g))
theorem val_sound (h : wpAny (MW w) A (eval e env) (End w b κ F O s RV fun v O1 => Lf (truthV O1 v) fun t => Q t O1) noE s) (hv : isTrue e env (eval e env) = (do let v ← eval e env; standAt e.pos; holding [v] (truthy v))) :
 wpAny (MW w) A (isTrue e env (eval e env)) (End w b κ F O s EqR Q) noE s := by
 rw [hv]
 exact wpAny_bind (End.seq h fun q g r => let ⟨u, h1, q⟩ := q.out; wpAny_bind (wpAny_standAt (wpAny_holding (End.on g (truth_sound h1 g.rel r q)))))
theorem stepT_sound (Op : Ops w) (S : Snd w n J) (SE : ∀ {ex : Expr} {Q}, stepE GG J ex F b Q O → wpAny (MW w) A (eval ex env) (End w b κ F O s RV Q) noE s) (h : stepT GG J e F b Q O) (t : St w A (n + 1) b κ F O s env) :
 wpAny (MW w) A (isTrue e env (eval e env)) (End w b κ F O s EqR Q) noE s := by
 cases e with
 | UnaryOp op x p =>
  cases op with
  | Not => exact wpAny_isTrue_Not (End.seq (S.t h t.dn) fun q g r => .mk q g (congrArg (!·) r))
  | _ => exact val_sound (SE h) rfl
 | BoolOp op vs p => exact wpAny_isTrue_BoolOp (ts_sound S h t.dn)
 | IfExp c x y p =>
  show wpAny _ A (do if ← isTrue c env (eval c env) then isTrue x env (eval x env) else isTrue y env (eval y env)) _ noE s
  refine wpAny_bind (End.seq (S.t h t.dn) fun {u _ _ _ _} q g r => ?_)
  cases r
  cases u with
  | true => exact End.on g (S.t q (t.dn.next g))
  | false => exact End.on g (S.t q (t.dn.next g))
 | Compare l ops rs p =>
  show wpAny _ A (do testChain p (← eval l env) ops (markedEach ops rs (evalEach rs env))) _ noE s
  exact wpAny_bind (End.seq (S.l h.out.2 t.dn) fun q g r => End.on g (chain_sound Op S t.ok.one _ q (eq_of_beq h.out.1) r (t.dn.next g)))
 | _ => exact val_sound (SE h) rfl
theorem wOpt_sound (S : Snd w n J) {e : Option Expr} {Q : V → Oj → Prop} (h : wOpt J e F b Q O) (t : St w A n b κ F O s env) : wpAny (MW w) A (evalPart e env) (End w b κ F O s RV Q) noE s := by
 cases e with
 | none => rw [evalPart_none]; exact wpAny_pure (End.here t.rel h rfl)
 | some e => rw [evalPart_some]; exact S.e h t
noncomputable def HasItems (s : Shared) (cx : Value) : Prop := ∃ T id, typeLookup (.type T) "__getitem__" = pure (some (.builtin id)) ∧ s.TypeIs cx T
theorem lst_type {vals : Array Value} (h : s.heap.PlainList a vals) : HasItems s (.ref a) := by obtain ⟨_, ho⟩ := h; exact ⟨"list", _, list_getitem_lookup, _, ho, rfl⟩
theorem ref_type {k : Nat} (R : RelW w κ F O s.heap) (h : lA O k = some l) (r : RV s.heap κ (.ref k) cx) : HasItems s cx := by obtain ⟨_, _, e, _, hl, _⟩ := R.list h r; exact e ▸ lst_type hl
theorem tup_type (r : RV s.heap κ (.tup l) cx) : HasItems s cx := by obtain ⟨_, _, e, ⟨_, ho⟩, _⟩ := r; exact e ▸ ⟨"tuple", _, slot_tuple_getitem.lookup, _, ho, rfl⟩
theorem str_type {l : List Nat} (r : RV s.heap κ (.str l) cx) : HasItems s cx := by obtain ⟨_, e⟩ := r; exact e ▸ ⟨"str", _, PySem.F.slot_str_getitem.lookup, typeIs_str _ _ _⟩
theorem lstv_type (r : RV s.heap κ (.lst l) cx) : HasItems s cx := by obtain ⟨_, _, e, hl, _⟩ := r; exact e ▸ lst_type hl
theorem idx_type0 (h : indexV O x y = some v) (R : RelW w κ F O s.heap) (r : RV s.heap κ x cx) : HasItems s cx := by
 cases y with
 | int k => cases x with
  | ref k => exact let ⟨l, h1, _⟩ := bS h; ref_type R h1 r
  | tup l => exact tup_type r
  | str l => exact str_type r
  | lst l => exact lstv_type r
  | _ => exact nN h
 | _ => exact nN h
inductive DictG (w : World) (h : Heap) (κ : Pl) (a : Addr) (l : List (V × V)) : Prop
 | mk {K : Type} [DecidableEq K] {knd : (p : Program) → KeyKind p w K} {g : K → V} {kvs : List (K × Value)} (da : DA w knd h a kvs) (ks : kvs.map (fun e => g e.1) = l.map (·.1)) (vs : RVs h κ (l.map (·.2)) (kvs.map (·.2))) (is : ∀ (h' : Heap) (κ' : Pl) p k cv, (knd p).is k cv = true → RV h' κ' (g k) cv)
theorem DictG.len {a : Addr} {l : List (V × V)} {h : Heap} {K : Type} {kvs : List (K × Value)} {g : K → V} (ks : kvs.map (fun e => g e.1) = l.map (·.1)) : kvs.length = l.length := by
 have := congrArg length ks
 rwa [length_map, length_map] at this
theorem Rel.dict {n : Nat} {l : List (V × V)} (R : Rel w h0 κ F O h) (e : dictAt O n = some l) : ∃ a, κ.ob[n]? = some (.obj a) ∧ DictG w h κ a l := by
 unfold dictAt at e
 cases hO : O[n]? with
 | none => rw [hO] at e; exact nN e
 | some o =>
  rw [hO] at e
  obtain ⟨c, hc, r⟩ := R.get hO
  cases o with
  | dI d =>
   cases c with
   | tab => exact r.elim
   | obj a =>
    cases e
    obtain ⟨kvs, hd, e1, e2⟩ := r
    exact ⟨a, hc, .mk (g := fun i => .int i) hd ((map_map (f := Prod.fst) (g := fun i => V.int i)).symm.trans ((congrArg (List.map fun i => V.int i) e1).trans (by rw [map_map, map_map]; rfl))) (by rw [map_map]; exact e2) fun h' κ' p k cv q => Value.isInt_shape q⟩
  | dS d =>
   cases c with
   | tab => exact r.elim
   | obj a =>
    cases e
    obtain ⟨kvs, hd, e1, e2⟩ := r
    have e3 : kvs.map (fun e => V.str e.1.cps.toList) = (d.map fun e => ((V.str e.1, e.2) : V × V)).map (·.1) := (map_map (l := kvs) (f := Prod.fst) (g := fun x : Str => V.str x.cps.toList)).symm.trans ((congrArg (List.map fun x : Str => V.str x.cps.toList) e1).trans (by rw [map_map, map_map]; rfl))
    exact ⟨a, hc, .mk (g := fun x => .str x.cps.toList) hd e3 (by rw [map_map]; exact e2) fun h' κ' p k cv q => let ⟨t, e⟩ := Value.isStrOf_shape q; ⟨t, by rw [S_toList]; exact e⟩⟩
  | _ => exact nN e
theorem ent_get {K K' : Type} [DecidableEq K] [DecidableEq K'] {f : K → K'} (inj : ∀ a b, f a = f b → a = b) (k : K) {h : Heap} : ∀ {l : List (K × V)} {kvs : List (K' × Value)}, EntR h κ f l kvs → OptR h κ (getD l k) (valueAt kvs (f k))
 | [], kvs, e => by
  cases map_eq_nil_iff.mp e.1
  trivial
 | (k0, v) :: l, [], e => nomatch e.1
 | (k0, v) :: l, (k1, cv) :: kvs, q2 => by
  obtain ⟨e1, cv', r, e2, rv, rs⟩ := q2
  obtain ⟨e0, e3⟩ := List.cons.inj e1
  cases e2
  have e0 : k1 = f k0 := e0
  subst e0
  unfold getD valueAt
  rw [find?_cons, find?_cons]
  by_cases q : k0 = k
  ·rw [decide_eq_true q, decide_eq_true (congrArg f q)]; exact rv
  ·rw [decide_eq_false q, decide_eq_false fun z => q (inj _ _ z)]; exact ent_get inj k ⟨e3, rs⟩
inductive EntG (w : World) (h : Heap) (κ : Pl) (a : Addr) (ck : Value) (r : Option V) : Prop
 | mk {K : Type} [DecidableEq K] {knd : (p : Program) → KeyKind p w K} {kvs : List (K × Value)} {k : K} (da : DA w knd h a kvs) (is : ∀ p, (knd p).is k ck = true) (val : OptR h κ r (valueAt kvs k))
theorem Rel.entry {n : Nat} {i : V} (R : Rel w h0 κ F O h) (e : entryAt O n i = some r) (rk : RV h κ i ck) : ∃ a, κ.ob[n]? = some (.obj a) ∧ EntG w h κ a ck r := by
 unfold entryAt at e
 cases hO : O[n]? with
 | none => rw [hO] at e; exact nN e
 | some o =>
  rw [hO] at e
  obtain ⟨c, hc, q⟩ := R.get hO
  cases o with
  | dI d =>
   cases c with
   | tab => exact q.elim
   | obj a =>
    cases i with
    | int i =>
     cases e
     obtain ⟨kvs, hd, e⟩ := q
     obtain ⟨t, rfl⟩ := rk
     exact ⟨a, hc, .mk (k := i) hd (fun p => beq_self_eq_true _) (ent_get (fun _ _ z => z) i e)⟩
    | _ => exact nN e
  | dS d =>
   cases c with
   | tab => exact q.elim
   | obj a =>
    cases i with
    | str x =>
     cases e
     obtain ⟨kvs, hd, e⟩ := q
     obtain ⟨t, rfl⟩ := rk
     exact ⟨a, hc, .mk (k := S x) hd (fun p => beq_self_eq_true _) (ent_get (fun _ _ z => S_inj z) x e)⟩
    | _ => exact nN e
  | _ => exact nN e
theorem dict_type (h : EntG w s.heap κ a ck r) : HasItems s (.ref a) := by
 cases h with
 | mk da _ _ => exact ⟨"dict", _, slot_dict_getitem.lookup, (da PG).dictOf.typeIs⟩
theorem idx_type {cy : Value} (h : idxV O x y = some v) (R : RelW w κ F O s.heap) (r : RV s.heap κ x cx) (ry : RV s.heap κ y cy) : HasItems s cx := by
 unfold idxV at h
 cases x with
 | ref n =>
  cases hE : entryAt O n y with
  | none => simp only [hE] at h; exact idx_type0 h R r
  | some e =>
   obtain ⟨a, hi, D⟩ := R.entry hE ry
   obtain ⟨a', rfl, hi'⟩ := r
   cases Option.some.inj (hi.symm.trans hi')
   exact dict_type D
 | _ => exact idx_type0 h R r
theorem slice_type {lo hi st : V} (h : sliceV O x lo hi st = some v) (R : RelW w κ F O s.heap) (r : RV s.heap κ x cx) : HasItems s cx := by
 obtain ⟨_, _, h⟩ := bS h
 obtain ⟨_, _, h⟩ := bS h
 obtain ⟨_, _, h⟩ := bS h
 cases x with
 | ref k => exact let ⟨l, h1, _⟩ := bS h; ref_type R h1 r
 | tup l => exact tup_type r
 | str l => exact str_type r
 | lst l => exact lstv_type r
 | _ => exact nN h
theorem Subscript_late {value slice : Expr} {Q : Value → Shared → Prop}
 (h : wpAny (MW w) A (eval value env) (fun o s₁ => wpAny (MW w) A (eval slice env) (fun i s₂ => HasItems s₂ o ∧ wpAny (MW w) A (getItem o i) Q E s₂) E s₁) E s) :
 wpAny (MW w) A (eval (.Subscript value slice pos) env) Q E s := by
 rw [eval_Subscript]
 refine wpAny_bind (wpAny_mono h (fun o s₁ h₁ => wpAny_bind (wpAny_holding (wpAny_mono h₁ (fun i s₂ h₂ => wpAny_bind (wpAny_standAt ?_)) fun _ _ x => x))) fun _ _ x => x)
 obtain ⟨⟨T, id, hl, hT⟩, hg⟩ := h₂
 refine wpAny_bind ?_
 rw [getitemInPython_of_ne hT.not_modules]
 refine wpAny_bind (wpAny_specialOf hT hl (wpAny_pure ?_))
 have fin : ∀ vs, wpAny (MW w) A (operate vs (getItem o i)) (fun r s₃ => wpAny (MW w) A (letTemporaryGo value o r >>= fun _ => pure r) Q E s₃) E s₂ := fun vs =>
  wpAny_operating (wpAny_mono hg (fun r s₃ h₃ => wpAny_bind (wpAny_letTemporaryGo (wpAny_pure h₃))) fun _ _ x => x)
 refine wpAny_bind ?_
 cases slice with
 | Slice lo hi st q => cases st <;> exact fin _
 | _ => exact fin _
theorem sub_sound (Op : Ops w) (S : Snd w n J) {x i : Expr} {Q : V → Oj → Prop} (h : J.e x F b (fun x O1 => J.e i F b (fun y O2 => Lf (idxV O2 x y) fun r => Q r O2) O1) O) (t : St w A n b κ F O s env) (ok : Ok A 1) : wpAny (MW w) A (eval (.Subscript x i pos) env) (End w b κ F O s RV Q) noE s :=
 Subscript_late (End.seq (S.e h t) fun q g r => End.seq (S.e q (t.next g)) fun q2 g2 r2 => let ⟨_, h1, q⟩ := q2.out
  ⟨idx_type h1 g2.rel (rM g2.ext r) r2, End.on (g.trans g2) (Op.idx h1 ok g2.rel (rM g2.ext r) r2 q)⟩)
theorem slc_sound (Op : Ops w) (S : Snd w n J) {x : Expr} {lo hi st : Option Expr} {p : Pos} {Q : V → Oj → Prop}
 (h : J.e x F b (fun x O1 => wOpt J lo F b (fun l O2 => wOpt J hi F b (fun h O3 => wOpt J st F b (fun s O4 => Lf (sliceV O4 x l h s) fun r => Q r O4) O3) O2) O1) O) (t : St w A n b κ F O s env) (ok : Ok A 1) : wpAny (MW w) A (eval (.Subscript x (.Slice lo hi st p) pos) env) (End w b κ F O s RV Q) noE s :=
 Subscript_late (End.seq (S.e h t) fun q g r => wpAny_Slice (End.seq (wOpt_sound S q (t.next g)) fun q2 g2 r2 => End.seq (wOpt_sound S q2 ((t.next g).next g2)) fun q3 g3 r3 => End.seq (wOpt_sound S q3 (((t.next g).next g2).next g3)) fun q4 g4 r4 =>
  let ⟨_, h1, q⟩ := q4.out
  have gp := Go.push (b := b) g4.rel _
  have rx := rM (((g2.trans g3).trans g4).trans gp).ext r
  ⟨slice_type h1 gp.rel rx, End.on ((((g.trans g2).trans g3).trans g4).trans gp) (Op.slice h1 ok gp.rel rx (rM ((g3.trans g4).trans gp).ext r2) (rM (g4.trans gp).ext r3) (rM gp.ext r4) (get?_push_size _ rfl) g4.rel.size_off q)⟩))
end
end
section
variable {P : Unit → Shared → Prop} {tgt : Expr} {v : V} {cv : Value} {a : Addr} {h : Heap} {hid' : List Addr} {κ2 : Pl} {F2 : List Fr} {O2 : Oj} {k : Nat}
section
variable {w : World} {A : Around} {n b : Nat} {κ κ1 : Pl} {F F1 : List Fr} {O O1 : Oj} {s s1 s2 : Shared} {env : Env} {J : WI} {E : Value → Shared → Prop}
theorem setAll_cons {F F1 : List Fr} {e : Expr} {es : List Expr} {vs : List V} (h : setAll F (e :: es) vs = some F1) : ∃ x p v r F2, e = .Name x p ∧ vs = v :: r ∧ setTop F x v = some F2 ∧ setAll F2 es r = some F1 := by
 cases vs with
 | nil => exact nN h
 | cons v r =>
  cases e with
  | Name x p => obtain ⟨F2, h1, h2⟩ := bS h; exact ⟨x, p, v, r, F2, rfl, rfl, h1, h2⟩
  | _ => exact nN h
theorem setAll_shape (es : List Expr) : ∀ {vs : List V} {F F1 : List Fr}, setAll F es vs = some F1 → (assignEach es env).length = vs.length ∧ (assignEach es env).findIdx? (·.1) = none := by
 induction es with
 | nil => intro vs F F1 h; cases vs with | nil => exact ⟨rfl, rfl⟩ | cons => exact nN h
 | cons e es ih =>
  intro vs F F1 h
  obtain ⟨x, p, v, r, F2, rfl, rfl, _, h2⟩ := setAll_cons h
  obtain ⟨h3, h4⟩ := ih h2
  refine ⟨congrArg (· + 1) h3, ?_⟩
  show List.findIdx? _ (_ :: _) = none
  rw [List.findIdx?_cons, h4]; rfl
theorem setAll_sound (es : List Expr) : ∀ {vs : List V} {cvs : List Value} {F F1 : List Fr} {s : Shared}, setAll F es vs = some F1 → St w A n b κ F O s env → RVs s.heap κ vs cvs → (∀ s1, GoW w b κ O s κ F1 O s1 → P () s1) → wpAny (MW w) A (assignInOrder ((assignEach es env).map (·.2)) cvs) P E s := by
 induction es with
 | nil =>
  intro vs cvs F F1 s h t r k
  cases vs with
  | nil => cases h; cases r; exact wpAny_pure (k _ (Go.refl t.rel))
  | cons => exact nN h
 | cons e es ih =>
  intro vs cvs F F1 s h t r k
  obtain ⟨x, p, v, r', F2, rfl, rfl, h1, h2⟩ := setAll_cons h
  obtain ⟨cv, cvs, rfl, r1, r2⟩ := r
  show wpAny (MW w) A (assignInOrder (assign (.Name x p) env :: (assignEach es env).map (·.2)) (cv :: cvs)) _ E s
  exact wpAny_assignInOrder_more (wpAny_assign_Name (setTop_sound t h1 r1 fun s1 g => ih h2 (t.next g) (rMs g.ext r2) fun s2 g2 => k s2 (g.trans g2)))
theorem setTgt_sound (t : St w A n b κ F O s env) (h : setTgt F tgt v = some F1) (r : RV s.heap κ v cv) (k : ∀ s1, GoW w b κ O s κ F1 O s1 → P () s1) : wpAny (MW w) A (assign tgt env cv) P E s := by
 cases tgt with
 | Name x p => exact wpAny_assign_Name (setTop_sound t h r k)
 | Tuple es _ p =>
  cases v with
  | tup l =>
   obtain ⟨a, vals, rfl, ht, ha, rs⟩ := r
   have h1 := setAll_shape (env := env) es h
   refine wpAny_assign_Tuple t.ok.hd ht.isTuple (by rw [h1.1]; exact RVs_size rs) h1.2 fun h' he => ?_
   have g : GoW w b κ O s κ F O { s with heap := h' } := Go.grow t.rel (fun b o e => he b o (fun q => by rw [q, new_none (le_refl _)] at e; exact nN e) e) ⟨rfl, rfl, rfl⟩
   exact setAll_sound es h (t.next g) (rMs g.ext rs) fun s1 g1 => k s1 (g.trans g1)
  | _ => exact nN h
 | _ => exact nN h
theorem Go.mt (g : GoW w b κ O s κ1 F1 O1 s1) (h : a ∈ κ.mt) : a ∈ κ1.mt := by
 obtain ⟨l, e⟩ := g.ext.pre
 rcases mem_append.mp h with h | h
 ·exact mem_append_left _ (g.frs ▸ h)
 ·rcases mem_append.mp h with h | h
  ·exact Pl.mt_hid (g.hid a h).1
  ·exact mem_append_right _ (mem_append_right _ (e ▸ map_append ▸ mem_append_left _ h))
theorem Go.old (g : GoW w b κ O s κ1 F1 O1 s1) (h : s1.heap.get? a = none) : s.heap.get? a = none := by
 cases ho : s.heap.get? a with
 | none => rfl
 | some o =>
  by_cases hm : a ∈ κ.mt
  ·obtain ⟨o', e⟩ := g.rel.ex a (g.mt hm); exact nomatch h.symm.trans e
  ·exact nomatch h.symm.trans (g.ext.keep a o ho hm)
theorem Rel.touch {h0 h' : Heap} {H : List Addr} (R : Rel w h0 κ F O h) (hH : ∀ a ∈ H, a ∈ κ.hid) (sub : hid'.Sublist κ.hid) (k : ∀ b o, b ∉ H → h.get? b = some o → h'.get? b = some o) (hx : ∀ a ∈ hid', a ∈ H → ∃ o, h'.get? a = some o) :
 Rel w h0 ⟨κ.fr, κ.ob, hid'⟩ F O h' ∧ Ext h κ h' ⟨κ.fr, κ.ob, hid'⟩ :=
 have sm : (Pl.mt ⟨κ.fr, κ.ob, hid'⟩).Sublist κ.mt := (Sublist.refl _).append (sub.append (Sublist.refl _))
 have x : Ext h κ h' ⟨κ.fr, κ.ob, hid'⟩ := ⟨prefix_rfl, fun b o hb hn => k b o (fun q => hn (Pl.mt_hid (hH b q))) hb, fun b hb hn => absurd (sm.subset hb) hn⟩
 ⟨{ len := R.len
    flen := R.flen
    base := fun b o hb => k b o (fun q => nomatch (R.off b (Pl.mt_hid (hH b q))).symm.trans hb) (R.base b o hb)
    off := fun a ha => R.off a (sm.subset ha)
    nd := R.nd.sublist sm
    ex := fun a ha => (Classical.em (a ∈ H)).elim (fun q => (mem_append.mp ha).elim (fun z => by
         obtain ⟨p, hp, hap⟩ := mem_flatMap.mp z
         obtain ⟨i, hi⟩ := List.mem_iff_getElem?.mp hp
         exact absurd (mem_append_left _ (hH a q)) (fr_off R.nd hi hap)) fun z => (mem_append.mp z).elim (fun z => hx a z q) fun z => by
         obtain ⟨c, hc, rfl⟩ := mem_map.mp z
         obtain ⟨i, hi⟩ := List.mem_iff_getElem?.mp hc
         exact absurd rfl (hid_ob R.nd (hH _ q) hi)) fun q => let ⟨o, ho⟩ := R.ex a (sm.subset ha); ⟨o, k a o q ho⟩
    objs := fun i o c e e' => ObjR_mono x (fun ob q => k _ ob (fun z => hid_ob R.nd (hH _ z) e' rfl) q) (R.objs i o c e e')
    frs := fun i f p e e' => FrameR_mono x (fun _ z => z) (fun b hb ob q => k b ob (fun z => fr_off R.nd e' hb (mem_append_left _ (hH b z))) q) (R.frs i f p e e')
    tab := R.tab }, x⟩
noncomputable def ownedNames : List String := ["enumerate", "zip", "dict_itemiterator", "dict_reverseitemiterator", "odict_iterator", "itertools.zip_longest", "itertools.pairwise"]
noncomputable def ItO (o : Obj) : Prop := ∃ n, o.cls = .type n ∧ ownedNames.contains n = false
inductive SrcR (w : World) (h : Heap) (κ : Pl) : Src → Addr → List Addr → Prop
 | walk {l : List V} {I : Addr} {fp : List Addr} {n k : Nat} {Pv : Nat → Value → Prop} {St : Nat → Heap → Prop}
  (W : ∀ A : Around, A.handled = none → Walks PG w A I fp [I] n Pv St) (cls : ∀ i h', St i h' → ∃ o, h'.get? I = some o ∧ ItO o)
  (st : St k h) (len : n = k + l.length) (fps : ∀ b ∈ fp, b = I ∨ b ∉ κ.mt ∧ ∃ o, h.get? b = some o)
  (vals : ∀ j v cv, l[j]? = some v → Pv (k + j) cv → RV h κ v cv) : SrcR w h κ (.items l) I [I]
 | live {I a : Addr} {n k : Nat} (it : h.IsListIter I a k) (at_ : κ.ob[n]? = some (.obj a)) : SrcR w h κ (.live n k) I [I]
 | keys {I a : Addr} {n k m : Nat} (it : h.IsKeyIter I a k m m) (at_ : κ.ob[n]? = some (.obj a)) : SrcR w h κ (.keys n k m) I [I]
 | enum {e it l : Addr} {i : Nat} {items : Array Value} {vs : List V} {old : Value} (hei : e ≠ it)
  (he : IsEnum h e it i old) (hit : h.IsListIter it l i) (hl : h.PlainList l items) (o3 : l ∉ κ.mt)
  (vals : RVs h κ vs (items.toList.drop i)) : SrcR w h κ (.items ((vs.zipIdx i).map fun y => .tup [.int y.2, y.1])) e [e, it]
theorem SrcR.go {src : Src} {I : Addr} {H : List Addr} (S : SrcR w s.heap κ src I H) (x : Ext s.heap κ s1.heap κ1) (hk : ∀ a ∈ κ.hid, a ∈ κ1.hid ∧ ∀ o, s.heap.get? a = some o → s1.heap.get? a = some o) (hH : ∀ a ∈ H, a ∈ κ.hid) : SrcR w s1.heap κ1 src I H := by
 cases S with
 | walk W cls st len fps vals =>
  have hI := hH I (mem_cons_self ..)
  exact .walk W cls ((W {} rfl).frame _ _ _ st fun b hb ob hob => (fps b hb).elim (fun q => (hk b (q ▸ hI)).2 ob hob) fun q => x.keep b ob hob q.1) len
   (fun b hb => (fps b hb).imp id fun ⟨h1, ob, hob⟩ => ⟨x.off hob h1, ob, x.keep b ob hob h1⟩) fun j v cv hj hp => rM x (vals j v cv hj hp)
 | live it at_ =>
  obtain ⟨o, ho, r⟩ := it
  exact .live ⟨o, (hk I (hH I (mem_cons_self ..))).2 o ho, r⟩ (pre_get x.pre at_)
 | keys it at_ =>
  obtain ⟨o, ho, r⟩ := it
  exact .keys ⟨o, (hk I (hH I (mem_cons_self ..))).2 o ho, r⟩ (pre_get x.pre at_)
 | @enum e it l i items vs old hei he hit hl o3 vals =>
  obtain ⟨o, ho, r⟩ := hit
  obtain ⟨n, hn⟩ := hl
  exact .enum hei ((hk I (hH I (mem_cons_self ..))).2 _ he) ⟨o, (hk it (hH it (mem_cons_of_mem _ (mem_cons_self ..)))).2 _ ho, r⟩ ⟨n, x.keep _ _ hn o3⟩ (x.off hn o3) (rMs x vals)
structure Turn (w : World) (b : Nat) (FR : List FP) (κ : Pl) (O : Oj) (s : Shared) (src : Src) (I : Addr) (H : List Addr) (F1 : List Fr) (O1 : Oj) (κ1 : Pl) (s1 : Shared) : Prop where
 go : GoF w (HW w) b FR κ O s κ1 F1 O1 s1
 src : SrcR w s1.heap κ1 src I H
 new : ∀ a ∈ H, s.heap.get? a = none
 hid : ∀ a ∈ H, a ∈ κ1.hid
noncomputable def TgtOk (I : Addr) (H : List Addr) (tgt : Expr) : Prop := (∃ i, H = [I, i]) → isTup tgt = true
variable {src : Src} {I : Addr} {H : List Addr} {FR : List FP}
theorem Turn.on (T : Turn w b FR κ O s src I H F1 O1 κ1 s1) (g : GoW w b κ1 O1 s1 κ2 F2 O2 s2) : Turn w b FR κ O s src I H F2 O2 κ2 s2 := ⟨T.go.trans g, T.src.go g.ext g.hid T.hid, T.new, fun a h => (g.hid a (T.hid a h)).1⟩
theorem Turn.after (g : GoW w b κ O s κ1 F1 O1 s1) (T : Turn w b κ1.fr κ1 O1 s1 src I H F2 O2 κ2 s2) : Turn w b κ.fr κ O s src I H F2 O2 κ2 s2 := ⟨g.trans T.go, T.src, fun a h => g.old (T.new a h), T.hid⟩
theorem GoF.raw (g : GoF w (HW w) b FR κ O s κ1 F1 O1 s1) (new : ∀ a ∈ H, s.heap.get? a = none) (hH : ∀ a ∈ H, a ∈ κ1.hid) (R0 : RelW w κ F O s.heap) (sub : hid'.Sublist κ1.hid) (old : ∀ a ∈ κ1.hid, a ∉ H → a ∈ hid') (k : ∀ b o, b ∉ H → s1.heap.get? b = some o → s2.heap.get? b = some o) (hx : ∀ a ∈ hid', a ∈ H → ∃ o, s2.heap.get? a = some o) (q : SameRest s1 s2) :
 GoF w (HW w) b FR κ O s ⟨κ1.fr, κ1.ob, hid'⟩ F1 O1 s2 ∧ Ext s1.heap κ1 s2.heap ⟨κ1.fr, κ1.ob, hid'⟩ :=
 let ⟨R, x⟩ := g.rel.touch hH sub k hx
 ⟨⟨R, g.ext.trans x, g.frs, ⟨q.1.trans g.rest.1, q.2.1.trans g.rest.2.1, q.2.2.trans g.rest.2.2⟩, g.mono, fun a h =>
  have na : a ∉ H := fun z => let ⟨o, ho⟩ := R0.ex a (Pl.mt_hid h); nomatch (new a z).symm.trans ho
  ⟨old a (g.hid a h).1 na, fun o e => k a o na ((g.hid a h).2 o e)⟩⟩, x⟩
theorem Turn.drop (T : Turn w b FR κ O s src I H F1 O1 κ1 s1) (R0 : RelW w κ F O s.heap) (k : ∀ b o, b ∉ H → s1.heap.get? b = some o → s2.heap.get? b = some o) (q : SameRest s1 s2) : ∃ κ2, κ2.ob = κ1.ob ∧ GoF w (HW w) b FR κ O s κ2 F1 O1 s2 :=
 ⟨⟨κ1.fr, κ1.ob, κ1.hid.filter fun a => !H.contains a⟩, rfl, (T.go.raw T.new T.hid R0 (hid' := κ1.hid.filter fun a => !H.contains a) List.filter_sublist (fun a h hn => mem_filter.mpr ⟨h, by simpa using hn⟩) k (fun a h hH => absurd hH (by simpa using (mem_filter.mp h).2)) q).1⟩
theorem Turn.step' {src' : Src} (T : Turn w b FR κ O s src I H F1 O1 κ1 s1) (R0 : RelW w κ F O s.heap) (k : ∀ b o, b ∉ H → s1.heap.get? b = some o → s2.heap.get? b = some o) (hx : ∀ a ∈ H, ∃ o, s2.heap.get? a = some o) (q : SameRest s1 s2)
 (sr : Ext s1.heap κ1 s2.heap κ1 → SrcR w s2.heap κ1 src' I H ∧ RV s2.heap κ1 v cv) : Turn w b FR κ O s src' I H F1 O1 κ1 s2 ∧ RV s2.heap κ1 v cv :=
 let ⟨g, x⟩ := T.go.raw T.new T.hid R0 (hid' := κ1.hid) (Sublist.refl _) (fun a h _ => h) k (fun a _ h => hx a h) q
 ⟨⟨g, (sr x).1, T.new, T.hid⟩, (sr x).2⟩
theorem letGo_other {Q : Unit → Shared → Prop} (it : ∃ o, s.heap.get? I = some o ∧ ItO o) (h : Q () s) : wpAny (MW w) A (letOwnedTupleGo tgt (.ref I) cv) Q E s := by
 obtain ⟨o, ho, n, hn, hno⟩ := it
 have two : wpAny (MW w) A (letOwnedTupleGo (.Tuple [] 0 default) (.ref I) cv) Q E s := by
  cases cv with
  | ref a =>
   show wpAny _ _ (load I >>= _) _ _ _
   refine wpAny_bind (wpAny_load ho ?_)
   rw [hn]
   cases hd : o.data <;> first
    | exact wpAny_pure h
    | (show wpAny _ _ (if (ownedNames.contains n && _) = true then _ else _) _ _ _
       rw [hno, Bool.false_and, if_neg Bool.false_ne_true]
       exact wpAny_pure h)
  | _ => exact wpAny_pure h
 cases tgt with
 | Tuple => exact two
 | List => exact two
 | _ => exact wpAny_pure h
theorem It_of {o : Obj} {n : String} (ho : h.get? I = some o) (hc : o.cls = .type n) (h2 : ownedNames.contains n = false) : ∃ o, h.get? I = some o ∧ ItO o := ⟨o, ho, n, hc, h2⟩
theorem listIter_it (it : h.IsListIter I a k) : ∃ o, h.get? I = some o ∧ ItO o := by obtain ⟨_, ho, hc, _⟩ := it; exact It_of ho hc (by decide)
theorem keyIter_it {n ep : Nat} (it : h.IsKeyIter I a k n ep) : ∃ o, h.get? I = some o ∧ ItO o := by obtain ⟨_, ho, hc, _⟩ := it; exact It_of ho hc (by decide)
theorem off_one {b : Addr} (h : b ∉ [a]) : b ≠ a := fun q => h (q ▸ mem_cons_self ..)
theorem Turn.step {q : Option (V × Src) → Prop} {P : Option Value → Shared → Prop} (T : Turn w b FR κ O s src I H F1 O1 κ1 s1) (R0 : RelW w κ F O s.heap) (hh : A.handled = none) (ht : TgtOk I H tgt) (hn : Lf (nextOf O1 src) q)
 (kn : ∀ {κ2 s2}, q none → κ2.ob = κ1.ob → GoF w (HW w) b FR κ O s κ2 F1 O1 s2 → P none s2)
 (ks_ : ∀ {v src' cv s2}, q (some (v, src')) → wpAny (MW w) A (letOwnedTupleGo tgt (.ref I) cv) (fun _ s3 => Turn w b FR κ O s src' I H F1 O1 κ1 s3 ∧ RV s3.heap κ1 v cv) E s2 → P (some cv) s2) : wpAny (MW w) A (pyNext (.ref I)) P E s1 := by
 obtain ⟨x, h1, hq⟩ := hn.out
 have hT := T
 obtain ⟨_, S, _, hid⟩ := T
 cases S with
 | @walk l I fp n k Pv St W cls st len fps vals =>
  cases l with
  | nil => cases h1; exact (W A hh).done s1 _ _ (len ▸ st) fun h' tk hk => let ⟨_, e0, g⟩ := hT.drop (s2 := { s1 with heap := h', toks := tk }) R0 hk ⟨rfl, rfl, rfl⟩; kn hq e0 g
  | cons v l =>
   cases h1
   refine (W A hh).item k s1 _ _ (len ▸ Nat.lt_add_of_pos_right (succ_pos _)) st fun cv h' tk hp st' hk => ks_ hq (letGo_other (cls _ _ st') (hT.step' R0 hk (fun a h => let ⟨o, ho, _⟩ := cls _ _ st'; ⟨o, mem_singleton.mp h ▸ ho⟩) ⟨rfl, rfl, rfl⟩ fun x => ⟨?_, rM x (vals 0 v cv rfl hp)⟩))
   exact .walk W cls st' (len.trans (add_right_comm k l.length 1)) (fun b hb => (fps b hb).imp id fun ⟨h1, ob, hob⟩ => ⟨h1, ob, x.keep b ob hob h1⟩) fun j v' cv' hj hp' => rM x (vals (j + 1) v' cv' hj (add_right_comm k 1 j ▸ hp'))
 | @live I a n k it at_ =>
  obtain ⟨l, hl, e⟩ := mS h1
  obtain ⟨a', vals, e', hi, hpl, rs⟩ := hT.go.rel.list hl ⟨a, rfl, at_⟩
  cases e'
  cases hk : l[k]? with
  | none =>
   rw [hk] at e; cases e
   exact wpAny_pyNext_list_end hh it hpl.isList (getElem?_eq_none (RVs_size rs ▸ List.getElem?_eq_none_iff.mp hk)) fun h' he => let ⟨_, e0, g⟩ := hT.drop (s2 := { s1 with heap := h' }) R0 (fun b o hb e => he b o (off_one hb) e) ⟨rfl, rfl, rfl⟩; kn hq e0 g
  | some v =>
   rw [hk] at e; cases e
   obtain ⟨cv, hcv, rv⟩ := RVs_get rs hk
   refine wpAny_pyNext_list_item it hpl.isList (x := cv) (getElem?_toList ▸ hcv) fun h' hit' hs' => ks_ hq (letGo_other (listIter_it hit') (hT.step' R0 (fun b o hb e => hs'.extBut b o (off_one hb) e) (fun a h => let ⟨o, ho, _⟩ := hit'; ⟨o, mem_singleton.mp h ▸ ho⟩) ⟨rfl, rfl, rfl⟩ fun x => ⟨.live hit' at_, rM x rv⟩))
 | @keys I a n k m it at_ =>
  obtain ⟨l, hl, e⟩ := bS h1
  by_cases hlm : l.length = m
  case neg => rw [if_neg hlm] at e; exact nN e
  rw [if_pos hlm] at e
  cases e
  obtain ⟨a', e', D⟩ := hT.go.rel.dict hl
  cases Option.some.inj (e'.symm.trans at_)
  cases D with
  | @mk K _ knd g kvs da ks vs is =>
  have hkl := DictG.len (a := a) (h := s1.heap) ks
  have hm := da PG
  rw [hkl, hlm] at hm
  have it' : s1.heap.IsKeyIter I a k kvs.length m := by rw [hkl, hlm]; exact it
  cases hk : l[k]? with
  | none =>
   rw [hk] at hq
   exact wpAny_pyNext_dict_end hh it' hm (List.getElem?_eq_none (hkl ▸ List.getElem?_eq_none_iff.mp hk)) fun h' he => let ⟨_, e0, g⟩ := hT.drop (s2 := { s1 with heap := h' }) R0 (fun b o hb e => he b o (off_one hb) e) ⟨rfl, rfl, rfl⟩; kn hq e0 g
  | some v =>
   rw [hk] at hq
   have hkv : k < kvs.length := hkl ▸ (List.getElem?_eq_some_iff.mp hk).1
   have e1 : g kvs[k].1 = v.1 := by
    have := congrArg (fun z => z[k]?) ks
    simp only [getElem?_map] at this
    rw [hk, getElem?_eq_getElem hkv] at this
    exact Option.some.inj this
   refine wpAny_pyNext_dict_item (k := kvs[k].1) (v := kvs[k].2) it' hm (getElem?_eq_getElem hkv) fun key h' hkey hit' hs' => ks_ hq (letGo_other (keyIter_it hit') (hT.step' R0 (fun b o hb e => hs'.extBut b o (off_one hb) e) (fun a h => let ⟨o, ho, _⟩ := hit'; ⟨o, mem_singleton.mp h ▸ ho⟩) ⟨rfl, rfl, rfl⟩ fun x => ⟨.keys (by rw [hkl, hlm] at hit'; exact hit') at_, e1 ▸ is _ _ _ _ _ hkey⟩))
 | @enum e it l i items vs old hei he hit hl o3 vals =>
  have htu := ht ⟨_, rfl⟩
  cases tgt with
  | Tuple es kk p =>
   cases vs with
   | nil =>
    cases h1
    refine wpAny_pyNext_enum_end hh he hit hl.isList (getElem?_eq_none ?_) fun h' hx => let ⟨_, e0, g⟩ := hT.drop (s2 := { s1 with heap := h' }) R0 (fun b o hb e => hx b o (fun q => hb (q ▸ mem_cons_of_mem _ (mem_cons_self ..))) e) ⟨rfl, rfl, rfl⟩; kn hq e0 g
    exact drop_eq_nil_iff.mp vals
   | cons v vs =>
    cases h1
    obtain ⟨cv, r, er, rv, rvs⟩ := vals
    have hx : items[i]? = some cv := by
     have := getElem?_drop (xs := items.toList) (i := i) (j := 0)
     rw [er, add_zero] at this
     rw [← getElem?_toList]; exact this.symm
    have hr : items.toList.drop (i + 1) = r := by rw [← drop_drop, er]; rfl
    have hnew : s1.heap.get? s1.heap.objs.size = none := new_none (le_refl _)
    have hTe : s1.heap.objs.size ≠ I := fun q => nomatch (q ▸ hnew).symm.trans he
    have hle : l ≠ I := fun q => o3 (q ▸ Pl.mt_hid (hid _ (mem_cons_self ..)))
    have hli : l ≠ it := fun q => o3 (q ▸ Pl.mt_hid (hid _ (mem_cons_of_mem _ (mem_cons_self ..))))
    refine wpAny_pyNext_enum_item he hit hl.isList hx hei fun h' ho hit' hT' hsz hk => ks_ hq (wpAny_letOwnedTupleGo_enum ho fun h'' he'' hs'' => ?_)
    have hb' : ∀ {b o}, b ≠ I → h'.get? b = some o → h''.get? b = some o := fun hbe x => (hs''.2 _ hbe).trans x
    obtain ⟨nl, hnl⟩ := hl
    obtain ⟨oi, hoi, ri⟩ := hit'
    refine hT.step' R0 (fun b o hb x => hb' (fun q => hb (q ▸ mem_cons_self ..)) (hk b o (fun q => hb (q ▸ mem_cons_self ..)) (fun q => hb (q ▸ mem_cons_of_mem _ (mem_cons_self ..))) x)) (fun a h => ?_) ⟨rfl, rfl, rfl⟩ fun x => ⟨.enum hei he'' ⟨oi, hb' (Ne.symm hei) hoi, ri⟩ ⟨nl, hb' hle (hk l _ hle hli hnl)⟩ o3 (hr ▸ rMs x rvs), ?_⟩
    ·rcases mem_cons.mp h with h | h
     ·exact ⟨_, h ▸ he''⟩
     ·exact ⟨oi, mem_singleton.mp h ▸ hb' (Ne.symm hei) hoi⟩
    ·exact ⟨_, _, rfl, ⟨0, hb' hTe hT'⟩, hT.go.rel.size_off, RVs_cons ⟨_, rfl⟩ (RVs_cons (rM x rv) RVs_nil)⟩
  | _ => exact ff_ne htu
end
end
section
variable {o : Obj} {κ' : Pl} {h : Heap} {a : Addr} {l : List V} {v : V} {cv : Value} {P : Value → Shared → Prop} {pos : Pos} {Q : Fl → List Fr → Oj → Prop} {e tgt : Expr} {body orelse : List Stmt}
section
variable {w : World} {A : Around} {n b : Nat} {κ κ1 : Pl} {F F1 : List Fr} {O O1 : Oj} {s s1 s2 : Shared} {env : Env} {J : WI} {E : Value → Shared → Prop}
variable {src : Src} {I : Addr} {H : List Addr}
theorem Go.hide {new : List Addr} {h' : Heap} (R : RelW w κ F O s.heap) (k : ∀ b o, s.heap.get? b = some o → h'.get? b = some o) (hn : ∀ a ∈ new, s.heap.get? a = none ∧ ∃ o, h'.get? a = some o) (nd : new.Nodup) : GoW w b κ O s ⟨κ.fr, κ.ob, new ++ κ.hid⟩ F O { s with heap := h' } :=
 let ⟨R', x⟩ := R.addH k hn nd
 ⟨R', x, rfl, ⟨rfl, rfl, rfl⟩, Mono.refl _ _, fun a h => ⟨mem_append_right _ h, fun o e => k a o e⟩⟩
theorem made (R : RelW w κ F O s.heap) (f : o.isFreed = false)
 (h : ∀ κ', Ext s.heap κ (s.heap.push o) κ' → (s.heap.push o).get? s.heap.objs.size = some o → (∀ b, b ∈ κ'.mt → b = s.heap.objs.size ∨ b ∈ κ.mt) → SrcR w (s.heap.push o) κ' src s.heap.objs.size [s.heap.objs.size]) :
 ∃ κ', Turn w b κ.fr κ O s src s.heap.objs.size [s.heap.objs.size] F O κ' (pushS s o) := by
 have nn := new_none (h := s.heap) (le_refl _)
 have g : GoW w b κ O s ⟨κ.fr, κ.ob, [s.heap.objs.size] ++ κ.hid⟩ F O (pushS s o) := Go.hide R (push_keeps _ o) (fun a ha => (mem_singleton.mp ha) ▸ ⟨nn, _, get?_push_size _ f⟩) (nodup_cons.mpr ⟨not_mem_nil, nodup_nil⟩)
 refine ⟨_, g, h _ g.ext (get?_push_size _ f) fun b hb => ?_, fun a ha => (mem_singleton.mp ha) ▸ nn, fun a ha => mem_append_left _ ha⟩
 rcases mem_append.mp hb with z | z
 ·exact .inr (mem_append_left _ z)
 ·rcases mem_append.mp z with z | z
  ·exact (mem_cons.mp z).imp id Pl.mt_hid
  ·exact .inr (mem_append_right _ (mem_append_right _ z))
theorem mem_two {b c : Addr} (hb : b ∈ [a, c]) (h1 : c ∉ κ'.mt) (h2 : h.get? c = some o) : b = a ∨ b ∉ κ'.mt ∧ ∃ o, h.get? b = some o := by
 rcases mem_cons.mp hb with e | e
 ·exact .inl e
 ·cases mem_singleton.mp e; exact .inr ⟨h1, _, h2⟩
theorem got {r : List Value} {j : Nat} (rs : RVs h κ' l r) (hj : l[j]? = some v) (hp : r[0 + j]? = some cv) : RV h κ' v cv := by
 obtain ⟨c, hc, rc⟩ := RVs_get rs hj
 rw [zero_add] at hp
 exact Option.some.inj (hc.symm.trans hp) ▸ rc
theorem range_nn (x y z : Int) : ((Builtin.Range.rangeSize x y z).toNat : Int) = Builtin.Range.rangeSize x y z := by
 unfold Builtin.Range.rangeSize
 apply Int.toNat_of_nonneg
 split
 ·split
  ·have : 0 ≤ (y - x - 1) / z := Int.ediv_nonneg (by omega) (by omega)
   omega
  ·exact Int.le_refl _
 ·split
  ·by_cases hz : z = 0
   ·subst hz; simp
   ·have : 0 ≤ (x - y - 1) / (-z) := Int.ediv_nonneg (by omega) (by omega)
    omega
  ·exact Int.le_refl _
theorem sys_off (B : Base w) (R : RelW w κ F O s.heap) (h : a ∈ κ.mt) : (a == sysModules) = false := by
 obtain ⟨o, ho⟩ := B.sysm
 rw [beq_eq_false_iff_ne]
 rintro rfl
 exact nomatch (R.off _ h).symm.trans ho
theorem src_sound (B : Base w) {q : Src → Prop} (h : Lf (srcOf O v) q) (R : RelW w κ F O s.heap) (r : RV s.heap κ v cv) (k : ∀ {src I κ' s'}, q src → Turn w b κ.fr κ O s src I [I] F O κ' s' → P (.ref I) s') : wpAny (MW w) A (pyIter cv) P E s := by
 obtain ⟨src, h, hq⟩ := h.out
 have k' : ∀ {o : Obj}, (∃ κ', Turn w b κ.fr κ O s src s.heap.objs.size [s.heap.objs.size] F O κ' (pushS s o)) → P (.ref s.heap.objs.size) (pushS s o) := fun ⟨_, T⟩ => k hq T
 have nn := new_none (h := s.heap) (le_refl _)
 have off : ∀ {κ' : Pl} {a : Addr} {o : Obj}, (∀ b, b ∈ κ'.mt → b = s.heap.objs.size ∨ b ∈ κ.mt) → s.heap.get? a = some o → a ∉ κ.mt → a ∉ κ'.mt := fun f ho ha z => (f _ z).elim (fun e => nomatch (e ▸ nn).symm.trans ho) ha
 cases v with
 | lst l =>
  cases h
  obtain ⟨a, vals, rfl, hl, ha, rs⟩ := r
  obtain ⟨nl, hnl⟩ := id hl
  refine wpAny_pyIter_list hl.isList (k' (made R rfl fun κ' x e hn => ?_))
  exact .walk (n := vals.size) (k := 0) (fun A hA => Walks.list hA _ a (fun q => nomatch (q ▸ nn).symm.trans hnl) vals) (fun i h' st => listIter_it st.1) ⟨⟨_, e, rfl, rfl⟩, hl.isList.at fun o q => x.keep a o q ha⟩ ((RVs_size rs).symm.trans (zero_add _).symm)
   (fun b hb => mem_two hb (off hn hnl ha) (x.keep _ _ hnl ha)) fun j v cv hj hp => got (rMs x rs) hj (getElem?_toList.trans hp)
 | str l =>
  cases h
  obtain ⟨t, rfl⟩ := r
  have vals : ∀ {h' κ'} j v cv, (l.map fun c => V.str [c])[j]? = some v → SignAt (S l) (0 + j) cv → RV h' κ' v cv := by
   rintro h' κ' j v cv hj ⟨c, u, hc, rfl⟩
   rw [zero_add] at hc
   rw [getElem?_map, show l[j]? = some c from getElem?_toList.trans hc] at hj
   cases hj
   exact ⟨u, rfl⟩
  have len : (S l).cps.size = 0 + (l.map fun c => V.str [c]).length := by rw [zero_add, length_map]; rfl
  have fp : ∀ {κ' : Pl} {h' : Heap}, ∀ b ∈ [s.heap.objs.size], b = s.heap.objs.size ∨ b ∉ κ'.mt ∧ ∃ o, h'.get? b = some o := fun b hb => .inl (mem_singleton.mp hb)
  cases ha : (S l).cps.all (· < 128)
  ·refine wpAny_pyIter_wide ha (k' (made R rfl fun κ' x e hn => ?_))
   exact .walk (k := 0) (fun A hA => Walks.strWide hA _ (S l) t) (fun i h' st => let ⟨_, ho, hc, _⟩ := st; It_of ho hc (by decide)) ⟨_, e, rfl, rfl⟩ len fp vals
  ·refine wpAny_pyIter_ascii ha (k' (made R rfl fun κ' x e hn => ?_))
   exact .walk (k := 0) (fun A hA => Walks.strAscii hA _ (S l) t) (fun i h' st => let ⟨_, ho, hc, _⟩ := st; It_of ho hc (by decide)) ⟨_, e, rfl, rfl⟩ len fp vals
 | rng x y z =>
  obtain ⟨hc, h⟩ := iS h
  cases h
  obtain ⟨a, t1, t2, t3, rfl, ha, ho⟩ := r
  refine wpAny_pyIter_range ho (rngOk_small (aB hc).1) (k' (made R rfl fun κ' xx e hn => ?_))
  refine .walk (n := (Builtin.Range.rangeSize x y z).toNat) (k := 0) (fun A hA => Walks.range hA _ x z _) (fun i h' st => It_of st rfl (by decide)) ?_ (by rw [zero_add, length_map, rangeL, length_map, length_range]) (fun b hb => .inl (mem_singleton.mp hb)) fun j v cv hj hp => ?_
  ·show _ = _
   rw [e]
   simp
   rw [← Int.ofNat_toNat, range_nn]
  ·obtain ⟨t, rfl⟩ := hp
   rw [getElem?_map] at hj
   obtain ⟨i, hi, rfl⟩ := map_eq_some_iff.mp hj
   rw [rangeL, getElem?_map] at hi
   obtain ⟨k, hk, rfl⟩ := map_eq_some_iff.mp hi
   obtain ⟨h1, h2⟩ := List.getElem?_eq_some_iff.mp hk
   rw [List.getElem_range] at h2
   exact ⟨t, by rw [zero_add, h2]⟩
 | ref m =>
  dsimp only [srcOf] at h
  cases h1 : lA O m with
  | some l =>
   rw [h1] at h
   cases h
   obtain ⟨a, vals, rfl, hi, hl, rs⟩ := R.list h1 r
   exact wpAny_pyIter_list hl.isList (k' (made R rfl fun κ' x e hn => .live ⟨_, e, rfl, rfl⟩ (pre_get x.pre hi)))
  | none =>
   rw [h1] at h
   obtain ⟨l, h2, h⟩ := mS h
   cases h
   obtain ⟨a, hi, D⟩ := R.dict h2
   obtain ⟨a', rfl, hi'⟩ := r
   cases Option.some.inj (hi.symm.trans hi')
   cases D with
   | @mk K _ knd g kvs da ks vs is =>
   exact wpAny_pyIter_dict (sys_off B R (Pl.mt_ob hi)) (da PG) (k' (made R rfl fun κ' x e hn => .keys ⟨_, e, rfl, by rw [DictG.len (a := a) (h := s.heap) ks]; rfl⟩ (pre_get x.pre hi)))
 | _ => exact nN h
theorem starEach_plain (es : List Expr) (h : starFree es = true) : (backTo pos (starEach es env)).any (·.1) = false := by
 induction es with
 | nil => rfl
 | cons e es ih =>
  obtain ⟨h1, h2⟩ := starFree_cons (env := env) h
  rw [h2]
  exact ih h1
theorem starEach_shape (es : List Expr) (h : starFree es = true) : backTo pos (starEach es env) = [] ∨ ∃ x rest, backTo pos (starEach es env) = (false, x) :: rest := by
 cases es with
 | nil => exact .inl rfl
 | cons e es => rw [(starFree_cons (env := env) h).2]; exact .inr ⟨_, _, rfl⟩
theorem args_of {f : Value} {es : List Expr} {Q : Args → Shared → Prop} (hs : starFree es = true) (h : wpAny (MW w) A (spliced (backTo pos (starEach es env))) (fun vs s' => Q ⟨vs, []⟩ s') E s) :
 wpAny (MW w) A (evalArgs f true (backTo pos (starEach es env)) []) Q E s := by
 rcases starEach_shape (env := env) (pos := pos) es hs with e | ⟨x, rest, e⟩
 ·rw [e] at h ⊢
  unfold evalArgs
  show wpAny _ A (spliced [] >>= _) Q E s
  exact wpAny_bind (wpAny_mono h (fun vs s' h' => wpAny_holding (wpAny_bind (wpAny_pure (wpAny_bind (wpAny_pure (wpAny_pure h')))))) fun _ _ x => x)
 ·rw [e] at h ⊢; exact Calls.evalArgs_plain h
theorem noSet_pure (h : noSet e = true) : ∀ x, foldedSetIterable e env x = pure x := by
 intro x; cases e <;> first | rfl | exact ff_ne h
theorem isEnum_is {p : Str × Expr} (h : isEnum e = some p) : ∃ q r, e = .Call (.Name p.1 q) [p.2] [] r ∧ p.1 = ("enumerate" : Str) := by
 cases e with
 | Call f args ks r =>
  cases f with
  | Name x q =>
   obtain ⟨hx, h⟩ := iS h
   cases args with
   | nil => exact nN h
   | cons a as =>
    cases as with
    | nil =>
     obtain ⟨hk, h⟩ := iS h
     cases h
     cases isEmpty_iff.mp hk
     exact ⟨q, r, rfl, beq_iff_eq.mp hx⟩
    | cons => exact nN h
  | _ => exact nN h
 | _ => exact nN h
theorem isEnumT_is {f : V} (hf : isEnumT f = true) (r : RV h κ f cv) : cv = .type "enumerate" := by
 cases f with
 | cst d =>
  cases d with
  | type t => exact r.trans (congrArg Value.type (beq_iff_eq.mp hf))
  | _ => exact ff_ne hf
 | _ => exact ff_ne hf
theorem enum_sound (R : RelW w κ F O s.heap) (r : RV s.heap κ (.lst l) (.ref a)) (k : ∀ {I H κ' s'}, Turn w b κ.fr κ O s (.items (l.zipIdx.map fun y => .tup [.int y.2, y.1])) I H F O κ' s' → P (.ref I) s') :
 wpAny (MW w) A (call (.type "enumerate") [.ref a] []) (fun x s1 => wpAny (MW w) A (pyIter x) P E s1) E s := by
 obtain ⟨_, vals, e, hl, ha, rs⟩ := r
 cases e
 obtain ⟨nn, hnl⟩ := id hl
 refine call_enumerate_1 hnl fun h' he hit hsz hk => wpAny_pyIter_enum he ?_
 have n1 := new_none (h := s.heap) (le_refl _)
 have n2 := new_none (h := s.heap) (le_succ s.heap.objs.size)
 obtain ⟨oi, hoi, ri⟩ := id hit
 have g : GoW w b κ O s ⟨κ.fr, κ.ob, [s.heap.objs.size + 1, s.heap.objs.size] ++ κ.hid⟩ F O { s with heap := h' } := Go.hide R hk (fun a ha => by
  rcases mem_cons.mp ha with rfl | ha
  ·exact ⟨n2, _, he⟩
  ·exact (mem_singleton.mp ha) ▸ ⟨n1, _, hoi⟩) (nodup_cons.mpr ⟨fun q => Nat.succ_ne_self _ (mem_singleton.mp q), nodup_cons.mpr ⟨not_mem_nil, nodup_nil⟩⟩)
 refine k (κ' := ⟨κ.fr, κ.ob, [s.heap.objs.size + 1, s.heap.objs.size] ++ κ.hid⟩) (H := [s.heap.objs.size + 1, s.heap.objs.size]) ⟨g, .enum (i := 0) (Nat.succ_ne_self _) he hit ⟨nn, hk _ _ hnl⟩ (g.ext.off hnl ha) (rMs g.ext rs), fun a ha => ?_, fun a ha => mem_append_left _ ha⟩
 rcases mem_cons.mp ha with rfl | ha
 ·exact n2
 ·exact (mem_singleton.mp ha) ▸ n1
theorem wSrc_sound (B : Base w) (S : Snd w n J) {q : Src → Oj → Prop} (h : wSrc GG J tgt e F b q O) (t : St w A n b κ F O s env) (k : ∀ {src I H κ' O' s'}, q src O' → Turn w b κ.fr κ O s src I H F O' κ' s' → TgtOk I H tgt → P (.ref I) s') :
 (∀ x, foldedSetIterable e env x = pure x) ∧ wpAny (MW w) A (eval e env) (fun x s1 => wpAny (MW w) A (pyIter x) P E s1) E s := by
 unfold wSrc at h
 cases he : isEnum e with
 | none =>
  rw [he] at h
  exact ⟨noSet_pure h.out.1, End.seq (S.l h.out.2 t) fun q g r => src_sound B q g.rel r fun q T => k q (T.after g) fun ⟨i, e⟩ => nomatch e⟩
 | some p =>
  rw [he] at h
  obtain ⟨hc, h3⟩ := h.out
  obtain ⟨hst, htu⟩ := aB hc
  obtain ⟨p1, p2, rfl, hx⟩ := isEnum_is he
  refine ⟨fun _ => rfl, ?_⟩
  obtain ⟨f, hg, h5⟩ := h3.out
  obtain ⟨hf, h4⟩ := h5.out
  refine wpAny_Call_ofName (End.seq (name_sound (b := b) (Q := fun v O1 => v = f ∧ O1 = O) B t (Gd.of (hx ▸ rfl) (Lf.of hg ⟨rfl, rfl⟩))) fun {v κ1 O1 cv s1} q0 g r => ?_)
  obtain ⟨rfl, rfl⟩ := q0
  cases isEnumT_is hf r
  refine PySem.callWith_type (starEach_plain [p.2] hst) (args_of hst (wpAny_items_cons (End.seq (S.l h4 (t.next g)) fun {v2 κ2 O2 cv s2} q2 g2 rv => wpAny_items_nil ?_) (starFree_cons hst).2))
  obtain ⟨src, h6, hq⟩ := q2.out
  cases v2 with
  | lst l =>
   obtain ⟨_, h6⟩ := iS h6
   cases h6
   obtain ⟨a, vals, rfl, rest⟩ := id rv
   exact enum_sound (b := b) g2.rel rv fun T => k hq (T.after (g.trans g2)) fun _ => htu
  | _ => exact nN h6
theorem forW_sound (S : Snd w n J) (t : St w A n b κ F O s env) {k : Nat} (h : forW J tgt body orelse b Q k src F1 O1) (T : Turn w b κ.fr κ O s src I H F1 O1 κ1 s1) (ht : TgtOk I H tgt) :
 codeAny (MW w) A (.forLoop tgt (.ref I) body orelse env) (fun r s' => match r with | .ok g => EndS w b κ O s Q g s' | .error _ => False) s1 := by
 refine codeAny_forLoop_any (fun k s1 => ∃ src F1 O1 κ1, forW J tgt body orelse b Q k src F1 O1 ∧ Turn w b κ.fr κ O s src I H F1 O1 κ1 s1) (fun k s1 h => ?_) k ⟨src, F1, O1, κ1, h, T⟩
 obtain ⟨src, F1, O1, κ1, h, T⟩ := h
 cases k with
 | zero => exact False.elim h
 | succ k =>
  refine T.step t.rel t.ok.hd ht h (fun q _ g => EndS.on g (exs_sound S q (t.next g))) fun q hs => wpAny_mono hs (fun _ s3 T3 => ?_) fun _ _ e => e
  obtain ⟨T3, rv⟩ := T3
  obtain ⟨F2, h3, q⟩ := q.out
  refine setTgt_sound (t.next T3.go) h3 rv fun s4 g4 => EndS.seq (exs_sound S q ((t.next T3.go).next g4)) fun {f F5 κ5 O5 cf s5} q g5 r => ?_
  have T := (T3.on g4).on g5
  cases f with
  | brk => cases r; exact .mk q T.go rfl
  | ret v => obtain ⟨cv, rfl, rv⟩ := r; exact .mk q T.go ⟨cv, rfl, rv⟩
  | _ => cases r; exact ⟨k, lt_succ_self k, _, _, _, _, q, T⟩
theorem for_sound (B : Base w) (S : Snd w n J) {it : Expr} (h : wSrc GG J tgt it F b (fun src O1 => FOR J tgt body orelse b Q src F O1) O) (t : St w A n b κ F O s env) : wpAny (MW w) A (exec (.For tgt it body orelse pos) env) (EndS w b κ O s Q) noE s := by
 obtain ⟨h1, h2⟩ := wSrc_sound (E := noE) (P := fun x s1 => codeAny (MW w) A (.forLoop tgt x body orelse env) (fun r s' => match r with | .ok g => EndS w b κ O s Q g s' | .error _ => False) s1) B S h t fun q T ht => forW_sound S t q.is T ht
 refine wpAny_For (wpAny_mono h2 (fun x s1 h1 => wpAny_mono h1 (fun itv s2 h2 => codeAny_mono h2 fun r s' hr => ?_) fun _ _ e => e) fun _ _ e => e) h1
 cases r with
 | ok g => exact hr
 | error e => exact hr.elim
end
end
section
variable {v : V} {cv kd : Value} {c : Prop} {l a b cks : List (Str × Value)} {x : Str} {dv ca : List Value} {dfl : List V} {Q : List (Str × Value) → Shared → Prop} {al N : List Str} {o kwd ks vars slots : List (Str × V)}
theorem wpAny_forIn_rel {M : Model} {A : Around} {E : Value → Shared → Prop} {s : Shared} {α β : Type} {f : α → β → Sem (ForInStep β)} (P : List α → β → Prop)
 (step : ∀ x l b, P (x :: l) b → wpAny M A (f x b) (fun r s' => s' = s ∧ ∃ b', r = .yield b' ∧ P l b') E s) :
 ∀ (l : List α) (b : β) {Q : β → Shared → Prop}, P l b → (∀ b', P [] b' → Q b' s) → wpAny M A (forIn l b f) Q E s
 | [], b, Q, hP, hQ => by rw [forIn_nil]; exact wpAny_pure (hQ b hP)
 | x :: l, b, Q, hP, hQ => by
  rw [forIn_cons]
  refine wpAny_bind (wpAny_mono (step x l b hP) (fun r s' h => ?_) fun _ _ e => e)
  obtain ⟨rfl, b', rfl, hP'⟩ := h
  exact wpAny_forIn_rel P step l b' hP' hQ
section
variable {h : Heap} {κ : Pl}
theorem KsR_app : ∀ {l l' : List (Str × V)} {r r' : List (Str × Value)}, KsR h κ l r → KsR h κ l' r' → KsR h κ (l ++ l') (r ++ r')
 | [], _, _, _, rfl, e' => e'
 | _ :: _, _, _, _, q4, e' => by obtain ⟨cv, r', rfl, a, b⟩ := q4; exact ⟨cv, _, rfl, a, KsR_app b e'⟩
theorem KsR_lookup : ∀ {l : List (Str × V)} {r : List (Str × Value)} (x : Str), KsR h κ l r → OptR h κ (l.lookup x) (r.lookup x)
 | [], _, x, e => by cases e; trivial
 | (y, v) :: l, _, x, q3 => by
  obtain ⟨cv, r', rfl, a, b⟩ := q3
  rw [lookup_cons, lookup_cons]
  cases x == y
  ·exact KsR_lookup x b
  ·exact a
theorem OptR_none {v : Option V} {cv : Option Value} (r : OptR h κ v cv) : v.isNone = cv.isNone := by
 cases v <;> cases cv <;> first | rfl | exact absurd r (by intro q; exact q)
theorem KsR_zip : ∀ (ns : List Str) {l : List V} {r : List Value}, RVs h κ l r → KsR h κ (ns.zip l) (ns.zip r)
 | [], _, _, _ => by simp; exact rfl
 | n :: ns, [], _, e => by cases e; simp; exact rfl
 | n :: ns, v :: l, _, q3 => by obtain ⟨cv, r, rfl, a, b⟩ := q3; exact ⟨cv, _, rfl, a, KsR_zip ns b⟩
theorem KsR_filterMap {l : List (Str × V)} {r : List (Str × Value)} (k : KsR h κ l r) : ∀ (ns : List Str), KsR h κ (ns.filterMap fun n => (l.lookup n).map (n, ·)) (ns.filterMap fun n => (r.lookup n).map (n, ·))
 | [] => rfl
 | n :: ns => by
  have := KsR_lookup n k
  rw [filterMap_cons, filterMap_cons]
  cases h1 : l.lookup n with
  | none =>
   cases h2 : r.lookup n with
   | none => exact KsR_filterMap k ns
   | some cv => rw [h1, h2] at this; exact absurd this (by intro q; exact q)
  | some v =>
   cases h2 : r.lookup n with
   | none => rw [h1, h2] at this; exact absurd this (by intro q; exact q)
   | some cv => rw [h1, h2] at this; exact ⟨cv, _, rfl, this, KsR_filterMap k ns⟩
end
theorem wI {M : Model} {A : Around} {E : Value → Shared → Prop} {s : Shared} {α : Type} [Decidable c] {x y : Sem α} {Q : α → Shared → Prop} (h : c) (k : wpAny M A x Q E s) : wpAny M A (if c then x else y) Q E s := by rw [if_pos h]; exact k
theorem wE {M : Model} {A : Around} {E : Value → Shared → Prop} {s : Shared} {α : Type} [Decidable c] {x y : Sem α} {Q : α → Shared → Prop} (h : ¬ c) (k : wpAny M A y Q E s) : wpAny M A (if c then x else y) Q E s := by rw [if_neg h]; exact k
theorem KsR_nil {h : Heap} {κ : Pl} {l : List (Str × V)} (r : KsR h κ l []) : l = [] := match l, r with
 | [], _ => rfl
 | _ :: _, q1 => by obtain ⟨_, _, e, _⟩ := q1; exact nomatch e
theorem KsR_one {h : Heap} {κ : Pl} (r : RV h κ v cv) : KsR h κ [(x, v)] [(x, cv)] := ⟨cv, [], rfl, r, rfl⟩
inductive KsC (h : Heap) (κ : Pl) (x : Str) (cv : Value) (r : List (Str × Value)) : List (Str × V) → Prop where
 | mk {v : V} {l : List (Str × V)} (a : RV h κ v cv) (b : KsR h κ l r) : KsC h κ x cv r ((x, v) :: l)
theorem KsR_cons {h : Heap} {κ : Pl} {r : List (Str × Value)} : ∀ {l : List (Str × V)}, KsR h κ l ((x, cv) :: r) → KsC h κ x cv r l
 | [], e => nomatch e
 | (_, _) :: _, q1 => by obtain ⟨_, _, e, a, b⟩ := q1; cases e; exact .mk a b
theorem items_dfl {M : Model} {A : Around} {E : Value → Shared → Prop} {s : Shared} {κ : Pl} {dv : Value} (hd : dfl = [] ∧ dv = .none ∨ ∃ t cvals, dv = .ref t ∧ IsTup s.heap t cvals ∧ RVs s.heap κ dfl cvals.toList) {Q : Option (Array Value) → Shared → Prop}
 (hq : ∀ od : Option (Array Value), RVs s.heap κ dfl (od.getD #[]).toList → Q od s) : wpAny M A (seqItems? dv) Q E s := by
 rcases hd with ⟨rfl, rfl⟩ | ⟨t, cvals, rfl, ⟨o, ho, _, nn, hdt⟩, hr⟩
 ·exact wpAny_bind (wpAny_pure (wpAny_pure (hq none rfl)))
 ·exact wpAny_seqItems ho hdt (hq (some cvals) hr)
theorem any_none {β : Type} {l : List (Str × β)} (h : (l.lookup x).isNone = true) : ¬ (l.lookup x).isSome = true := by
 cases hq : l.lookup x with
 | none => exact fun e => nomatch e
 | some => rw [hq] at h; cases h
theorem addKw_cons {sl : List (Str × V)} {r : List (Str × V)} (h : addKw al sl ((x, v) :: r) = some o) : (al.contains x = true ∧ (sl.lookup x).isNone = true) ∧ addKw al (sl ++ [(x, v)]) r = some o := by
 unfold addKw at h
 obtain ⟨hc, h⟩ := iS h
 exact ⟨aB hc, h⟩
theorem addKwd_cons {sl : List (Str × V)} {r : List Str} (h : addKwd kwd sl (x :: r) = some o) : ((sl.lookup x).isNone = true ∧ ∃ v, kwd.lookup x = some v ∧ addKwd kwd (sl ++ [(x, v)]) r = some o) ∨ ((sl.lookup x).isNone = false ∧ addKwd kwd sl r = some o) := by
 unfold addKwd at h
 cases hq : (sl.lookup x).isNone with
 | true => rw [hq] at h; obtain ⟨v, h1, h2⟩ := bS h; exact .inl ⟨rfl, v, h1, h2⟩
 | false => rw [hq] at h; exact .inr ⟨rfl, h⟩
section
variable {M : Model} {A : Around} {E : Value → Shared → Prop} {s : Shared} {κ : Pl}
theorem forPP {α β γ δ : Type} {f : α × β → γ × δ → Sem (ForInStep (γ × δ))} (P : List (α × β) → γ × δ → Prop) (step : ∀ x y l a b, P ((x, y) :: l) (a, b) → wpAny M A (f (x, y) (a, b)) (fun r s' => s' = s ∧ ∃ b', r = .yield b' ∧ P l b') E s) (l : List (α × β)) (b : γ × δ) {Q : γ × δ → Shared → Prop} (h : P l b) (k : ∀ a b, P [] (a, b) → Q (a, b) s) : wpAny M A (forIn l b f) Q E s :=
 wpAny_forIn_rel P (fun ⟨x, y⟩ l ⟨a, b⟩ h => step x y l a b h) l b h fun ⟨a, b⟩ h => k a b h
theorem forPL {α β γ : Type} {f : α × β → γ → Sem (ForInStep γ)} (P : List (α × β) → γ → Prop) (step : ∀ x y l a, P ((x, y) :: l) a → wpAny M A (f (x, y) a) (fun r s' => s' = s ∧ ∃ b', r = .yield b' ∧ P l b') E s) (l : List (α × β)) (b : γ) {Q : γ → Shared → Prop} (h : P l b) (k : ∀ a, P [] a → Q a s) : wpAny M A (forIn l b f) Q E s :=
 wpAny_forIn_rel P (fun ⟨x, y⟩ l a h => step x y l a h) l b h k
theorem forLP {α γ δ : Type} {f : α → γ × δ → Sem (ForInStep (γ × δ))} (P : List α → γ × δ → Prop) (step : ∀ x l a b, P (x :: l) (a, b) → wpAny M A (f x (a, b)) (fun r s' => s' = s ∧ ∃ b', r = .yield b' ∧ P l b') E s) (l : List α) (b : γ × δ) {Q : γ × δ → Shared → Prop} (h : P l b) (k : ∀ a b, P [] (a, b) → Q (a, b) s) : wpAny M A (forIn l b f) Q E s :=
 wpAny_forIn_rel P (fun x l ⟨a, b⟩ h => step x l a b h) l b h fun ⟨a, b⟩ h => k a b h
noncomputable def P1 (s : Shared) (κ : Pl) (al : List Str) (o : List (Str × V)) (l : List (Str × Value)) (b : List (Str × Value) × List (Str × Value)) : Prop := b.2 = [] ∧ ∃ sl kv, KsR s.heap κ sl b.1 ∧ KsR s.heap κ kv l ∧ addKw al sl kv = some o
noncomputable def P2 (s : Shared) (κ : Pl) (o : List (Str × V)) (l : List (Str × Value)) (b : List (Str × Value)) : Prop := ∃ sl dv, KsR s.heap κ sl b ∧ KsR s.heap κ dv l ∧ addD sl dv = o
noncomputable def P3 (s : Shared) (κ : Pl) (kwd : List (Str × V)) (o : List (Str × V)) (l : List Str) (b : List (Str × Value) × List Str) : Prop := b.2 = [] ∧ ∃ sl, KsR s.heap κ sl b.1 ∧ addKwd kwd sl l = some o
theorem P1.end (h : P1 s κ al o [] (a, b)) : KsR s.heap κ o a := by
 obtain ⟨_, sl, kv, r1, r2, r3⟩ := h
 cases KsR_nil r2
 cases r3; exact r1
theorem P2.end (h : P2 s κ o [] a) : KsR s.heap κ o a := by
 obtain ⟨sl, kv, r1, r2, r3⟩ := h
 cases KsR_nil r2
 cases r3; exact r1
theorem P3.end {b : List Str} (h : P3 s κ kwd o [] (a, b)) : b = [] ∧ KsR s.heap κ o a := by
 obtain ⟨e, sl, r1, r3⟩ := h
 cases r3; exact ⟨e, r1⟩
theorem P1.step (h : P1 s κ al o ((x, cv) :: l) (a, b)) : al.contains x = true ∧ ¬ (a.lookup x).isSome = true ∧ P1 s κ al o l (a ++ [(x, cv)], b) := by
 obtain ⟨he, sl, kv, r1, r2, r3⟩ := h
 cases KsR_cons r2 with
 | mk rv r4 =>
  obtain ⟨⟨h1, h2⟩, h3⟩ := addKw_cons r3
  exact ⟨h1, any_none ((OptR_none (KsR_lookup x r1)).symm.trans h2), he, _, _, KsR_app r1 (KsR_one rv), r4, h3⟩
theorem P2.step (h : P2 s κ o ((x, cv) :: l) a) : P2 s κ o l (if (a.lookup x).isNone then a ++ [(x, cv)] else a) := by
 obtain ⟨sl, kv, r1, r2, r3⟩ := h
 cases KsR_cons r2 with
 | @mk v l' rv r4 =>
  have r3 : (if (sl.lookup x).isNone then addD (sl ++ [(x, v)]) l' else addD sl l') = _ := r3
  rw [← OptR_none (KsR_lookup x r1)]
  cases hq : (sl.lookup x).isNone with
  | true => rw [hq] at r3; exact ⟨_, _, KsR_app r1 (KsR_one rv), r4, r3⟩
  | false => rw [hq] at r3; exact ⟨_, _, r1, r4, r3⟩
inductive P3N (s : Shared) (κ : Pl) (kwd : List (Str × V)) (kd : Value) (o : List (Str × V)) (x : Str) (l : List Str) (a : List (Str × Value)) (b : List Str) : Prop where
 | new {d : Addr} {m : Str → Option Value} {cv : Value} (h1 : (a.lookup x).isNone = true) (e : kd = .ref d) (hm : s.heap.Ns d m) (hv : m x = some cv) (n : P3 s κ kwd o l (a ++ [(x, cv)], b))
 | old (h1 : ¬ (a.lookup x).isNone = true) (n : P3 s κ kwd o l (a, b))
theorem P3.step {l b : List Str} (h : P3 s κ kwd o (x :: l) (a, b)) (hk : kwd = [] ∧ kd = .none ∨ ∃ d m, kd = .ref d ∧ s.heap.Ns d m ∧ ∀ x, OptR s.heap κ (kwd.lookup x) (m x)) : P3N s κ kwd kd o x l a b := by
 obtain ⟨he, sl, r1, r3⟩ := h
 have hn := OptR_none (KsR_lookup x r1)
 rcases addKwd_cons r3 with ⟨h1, v, hv, h2⟩ | ⟨h1, h2⟩
 ·rcases hk with ⟨rfl, _⟩ | ⟨d, m, e, hm, hr⟩
  ·cases hv
  ·obtain ⟨cv, hmx, this⟩ := OptR.some (hv ▸ hr x)
   exact .new (hn.symm.trans h1) e hm hmx ⟨he, _, KsR_app r1 (KsR_one this), h2⟩
 ·exact .old (by rw [← hn, h1]; exact Bool.false_ne_true) ⟨he, _, r1, h2⟩
end
inductive BindI (ps : Arguments) (dfl : List V) (kwd : List (Str × V)) (a : List V) (ks : List (Str × V)) : List (Str × V) → Prop where
 | mk {slots fin : List (Str × V)} (po : ps.posonlyargs = []) (va : ps.vararg = none) (ka : ps.kwarg = none) (len : a.length ≤ (ps.args.map (·.arg)).length) (h6 : addKw (ps.args.map (·.arg) ++ ps.kwonlyargs.map (·.arg)) ((ps.args.map (·.arg)).zip a) ks = some slots)
  (hem : ((((ps.args.map (·.arg)).take ((ps.args.map (·.arg)).length - (dfl.drop (dfl.length - (ps.args.map (·.arg)).length)).length)).filter fun n => (slots.lookup n).isNone).isEmpty) = true)
  (h7 : addKwd kwd (addD slots (((ps.args.map (·.arg)).drop ((ps.args.map (·.arg)).length - (dfl.drop (dfl.length - (ps.args.map (·.arg)).length)).length)).zip (dfl.drop (dfl.length - (ps.args.map (·.arg)).length)))) (ps.kwonlyargs.map (·.arg)) = some fin) :
  BindI ps dfl kwd a ks ((ps.args.map (·.arg) ++ ps.kwonlyargs.map (·.arg)).filterMap fun n => (fin.lookup n).map (n, ·))
theorem bindV_inv {ps : Arguments} {a : List V} (h : bindV ps dfl kwd a ks = some vars) : BindI ps dfl kwd a ks vars := by
 unfold bindV at h
 obtain ⟨hc, h⟩ := iS h
 obtain ⟨slots, h6, h⟩ := bS h
 obtain ⟨hem, h⟩ := iS h
 obtain ⟨fin, h7, h⟩ := mS h
 subst h
 have hc := (aB hc).1
 have h3 := (aB hc).1
 have h2 := (aB h3).1
 exact .mk (isEmpty_iff.mp (aB h2).1) (Option.isNone_iff_eq_none.mp (aB h2).2) (Option.isNone_iff_eq_none.mp (aB h3).2) (of_decide_eq_true (aB hc).2) h6 hem h7
theorem miss_no {s : Shared} {κ : Pl} {sl : List (Str × Value)} (hod : dfl.length = dv.length) (r : KsR s.heap κ slots sl) (hem : (((N.take (N.length - (dfl.drop (dfl.length - N.length)).length)).filter fun n => (slots.lookup n).isNone).isEmpty) = true) :
 ¬ (!((N.take (N.length - (dv.drop (dv.length - N.length)).length)).filter fun n => (sl.lookup n).isNone).isEmpty) = true := by
 have e : (N.take (N.length - (dv.drop (dv.length - N.length)).length)).filter (fun n => (sl.lookup n).isNone) = (N.take (N.length - (dfl.drop (dfl.length - N.length)).length)).filter (fun n => (slots.lookup n).isNone) := by
  rw [length_drop, length_drop, ← hod]
  exact List.filter_congr fun n _ => (OptR_none (KsR_lookup n r)).symm
 rw [e, hem]; decide
theorem zip_dfl {s : Shared} {κ : Pl} (hod : dfl.length = dv.length) (rd : RVs s.heap κ dfl dv) : KsR s.heap κ ((N.drop (N.length - (dfl.drop (dfl.length - N.length)).length)).zip (dfl.drop (dfl.length - N.length))) ((N.drop (N.length - (dv.drop (dv.length - N.length)).length)).zip (dv.drop (dv.length - N.length))) := by
 rw [length_drop, length_drop, ← hod]
 exact KsR_zip _ (RVs_drop _ rd)
theorem binds_core {M : Model} {A : Around} {E : Value → Shared → Prop} {s : Shared} {κ : Pl} {nm qn : Str} {bd : FuncBody} {sc : Scope} {gl : Addr} {cl : List (Str × Addr)} {df dc pm : Value} {an : Option Addr} {co ct : Value} {bu : Addr} {ar ko : List Arg} {kdf : List (Option Expr)} {dfs : List Expr}
 {a : List V} {fin : List (Str × V)} (len : a.length ≤ (ar.map (·.arg)).length) (h6 : addKw (ar.map (·.arg) ++ ko.map (·.arg)) ((ar.map (·.arg)).zip a) ks = some slots)
 (hem : ((((ar.map (·.arg)).take ((ar.map (·.arg)).length - (dfl.drop (dfl.length - (ar.map (·.arg)).length)).length)).filter fun n => (slots.lookup n).isNone).isEmpty) = true)
 (h7 : addKwd kwd (addD slots (((ar.map (·.arg)).drop ((ar.map (·.arg)).length - (dfl.drop (dfl.length - (ar.map (·.arg)).length)).length)).zip (dfl.drop (dfl.length - (ar.map (·.arg)).length)))) (ko.map (·.arg)) = some fin)
 (Ra : RVs s.heap κ a ca) (Rk : KsR s.heap κ ks cks) (hd : dfl = [] ∧ df = .none ∨ ∃ t cvals, df = .ref t ∧ IsTup s.heap t cvals ∧ RVs s.heap κ dfl cvals.toList)
 (hk : kwd = [] ∧ kd = .none ∨ ∃ d m, kd = .ref d ∧ s.heap.Ns d m ∧ ∀ x, OptR s.heap κ (kwd.lookup x) (m x)) (hQ : ∀ binds, KsR s.heap κ ((ar.map (·.arg) ++ ko.map (·.arg)).filterMap fun n => (fin.lookup n).map (n, ·)) binds → Q binds s) :
 wpAny M A (bindArgs ⟨nm, qn, ⟨[], ar, none, ko, kdf, none, dfs⟩, bd, sc, gl, cl, df, kd, dc, pm, an, co, ct, bu⟩ ⟨ca, cks⟩) Q E s := by
 have hlen := RVs_length Ra
 refine wpAny_bind (forPP (P1 s κ (ar.map (·.arg) ++ ko.map (·.arg)) slots) (fun x cv l a b h => ?_) cks _ ⟨rfl, _, ks, KsR_zip _ Ra, Rk, h6⟩ fun sl ex hP => ?_)
 ·have h1 : ((ar.map (·.arg)).contains x || (ko.map (·.arg)).contains x) = true := by rw [← List.contains_append]; exact h.step.1
  exact wI h1 (wE h.step.2.1 (wpAny_pure ⟨rfl, _, rfl, h.step.2.2⟩))
 refine wpAny_bind (items_dfl hd fun od rd => ?_)
 have hod := RVs_length rd
 refine wE (fun e => absurd (of_decide_eq_true (aB e).1) (not_lt.mpr (hlen ▸ len))) (wE (miss_no hod hP.end hem) (wpAny_bind (forPL (P2 s κ _) (fun x cv l b h => ?_) _ _ ⟨slots, _, hP.end, zip_dfl hod rd, rfl⟩ fun sl2 hP2 => wpAny_bind (forLP (P3 s κ kwd fin) (fun x l b c h => ?_) _ _ ⟨rfl, _, hP2.end, h7⟩ fun sl5 ms hP3 => ?_))))
 ·have h2 := h.step
  by_cases hq : (b.lookup x).isNone = true
  ·rw [if_pos hq] at h2
   exact wI hq (wpAny_pure ⟨rfl, _, rfl, h2⟩)
  ·rw [if_neg hq] at h2
   exact wE hq (wpAny_pure ⟨rfl, _, rfl, h2⟩)
 ·cases h.step hk with
  | new h1 e hm hv n =>
   subst e
   exact wI h1 (wpAny_bind (wpAny_nsGet hm (hv ▸ wpAny_pure ⟨rfl, _, rfl, n⟩)))
  | old h1 n => exact wE h1 (wpAny_pure ⟨rfl, _, rfl, n⟩)
 ·exact wE (hP3.end.1 ▸ Bool.false_ne_true) (wpAny_pure (hQ _ (KsR_filterMap hP3.end.2 _)))
theorem binds_sound {M : Model} {A : Around} {E : Value → Shared → Prop} {s : Shared} {κ : Pl} {fd : FuncData} {a : List V} 
 (h : bindV fd.params dfl kwd a ks = some vars) (Ra : RVs s.heap κ a ca) (Rk : KsR s.heap κ ks cks)
 (hd : dfl = [] ∧ fd.defaults = .none ∨ ∃ t cvals, fd.defaults = .ref t ∧ IsTup s.heap t cvals ∧ RVs s.heap κ dfl cvals.toList)
 (hk : kwd = [] ∧ fd.kwdefaults = .none ∨ ∃ d m, fd.kwdefaults = .ref d ∧ s.heap.Ns d m ∧ ∀ x, OptR s.heap κ (kwd.lookup x) (m x)) (hQ : ∀ binds, KsR s.heap κ vars binds → Q binds s) :
 wpAny M A (bindArgs fd ⟨ca, cks⟩) Q E s := by
 cases fd with
 | mk nm qn ps bd sc gl cl df kd dc pm an co ct bu =>
  cases ps with
  | mk po ar va ko kdf ka dfs =>
   cases bindV_inv h with
   | mk e1 e2 e3 len h6 hem h7 =>
    cases e1
    cases e2
    cases e3
    exact binds_core len h6 hem h7 Ra Rk hd hk hQ
end
section
variable {x qual : Str} {h0 : Heap} {F2 r : List Fr} {f : Fr} {names : Names} {lam : Bool} {up : Nat} {cl : List (Str × Addr)} {scope : Scope} {binds : List (Str × Value)} {func : Option Addr} {code : Value} {Q : Env → Shared → Prop} {vars : List (Str × V)} {A0 : Around} {o : AObj} {κ0 : Pl} {p : FP} {O2 : Oj}
theorem cellsFrom_app : ∀ (names : Names) (n : Nat) (a c : List (Str × Addr)), cellsFrom n names (a ++ c) = cellsFrom n names a ++ c
 | [], _, _, _ => rfl
 | (x, k) :: r, n, a, c => by
  unfold cellsFrom
  split
  ·exact cellsFrom_app r (n + 1) ((x, n) :: a) c
  ·exact cellsFrom_app r n a c
theorem lookup_append' {α : Type} (c : List (Str × α)) (x : Str) : ∀ (a : List (Str × α)), (a ++ c).lookup x = (a.lookup x).or (c.lookup x)
 | [] => rfl
 | (k, v) :: r => by
  rw [cons_append, lookup_cons, lookup_cons]
  cases x == k
  ·exact lookup_append' c x r
  ·rfl
theorem cellsFrom_mem (names : Names) : ∀ {n : Nat} {a : List (Str × Addr)}, (x, NameKind.cell) ∈ names ∨ (∃ c, a.lookup x = some c) → ∃ c, (cellsFrom n names a).lookup x = some c := by
 induction names with
 | nil => exact fun h => h.elim (fun h => nomatch h) id
 | cons y r ih =>
  intro n a h
  unfold cellsFrom
  split
  ·rename_i hk
   refine ih (h.elim (fun h => (mem_cons.mp h).elim (fun q => .inr ⟨n, q ▸ List.lookup_cons_self⟩) .inl) fun ⟨c, hc⟩ => .inr ?_)
   rw [lookup_cons]
   split
   ·exact ⟨_, rfl⟩
   ·exact ⟨c, hc⟩
  ·rename_i hk
   exact ih (h.imp_left fun h => (mem_cons.mp h).elim (fun q => absurd (congrArg Prod.snd q.symm) (fun e => hk (beq_iff_eq.mpr e))) id)
theorem cellsFrom_names {c : Addr} (names : Names) : ∀ {n : Nat} {a : List (Str × Addr)}, (x, c) ∈ cellsFrom n names a → (x, NameKind.cell) ∈ names ∨ (x, c) ∈ a := by
 induction names with
 | nil => exact .inr
 | cons y r ih =>
  intro n a h
  unfold cellsFrom at h
  split at h
  ·rename_i hk
   have hk : y.2 = .cell := beq_iff_eq.mp hk
   exact (ih h).elim (fun q => .inl (mem_cons_of_mem _ q)) fun q => (mem_cons.mp q).imp (fun e => by cases e; obtain ⟨y1, y2⟩ := y; cases hk; exact mem_cons_self ..) id
  ·exact (ih h).imp_left fun q => mem_cons_of_mem _ q
noncomputable abbrev newFP (h : Heap) (names : Names) (lam : Bool) (up : Nat) : FP := ⟨names, h.objs.size, cellsFrom (h.objs.size + 1) names [], lam, up⟩
section
variable {w : World} {A : Around} {n b : Nat} {κ κ1 : Pl} {F F1 : List Fr} {O O1 : Oj} {s s1 s2 : Shared} {env : Env} {J : WI} {E : Value → Shared → Prop}
noncomputable abbrev layHeap (h : Heap) (cl : Value) (names : Names) : Heap := pushCells (h.push { cls := cl, data := .dict #[] }) names
theorem lay_keeps (h : Heap) (cl : Value) (names : Names) : ∀ b o, h.get? b = some o → (layHeap h cl names).get? b = some o := fun b o e => pushCells_keeps _ _ b o (get?_push_of_some _ e)
theorem Rel.lay {h : Heap} (R : Rel w h0 κ F O h) (names : Names) (cl : Value) (lam : Bool) (up : Nat) {κ' : Pl} {P2 : List FP} (ob : κ'.ob = κ.ob) (fr : κ'.fr = newFP h names lam up :: P2) (mt : κ'.mt = (newFP h names lam up).addrs ++ κ.mt) (len : P2.length = F2.length) (sf : ∀ q ∈ P2, ∀ r, q :: r <:+ κ.fr → q :: r <:+ κ'.fr)
 (old : ∀ (i : Nat) f q, F2[i]? = some f → P2[i]? = some q → FrameR h κ f q) : Rel w h0 κ' (⟨names, [], lam, up, none⟩ :: F2) O (layHeap h cl names) ∧ Ext h κ (layHeap h cl names) κ' := by
 have ok := cellsFrom_ok names (h.push { cls := cl, data := .dict #[] }) (h.objs.size + 1) [] ⟨fun _ _ hm => (nomatch hm), List.Pairwise.nil⟩ (by rw [Heap.size_push]; exact le_refl _)
 rw [Heap.size_push] at ok
 have kk := lay_keeps h cl names
 have hns := (Ns.new h cl).keeps (pushCells_keeps names _)
 refine R.more (List.Perm.of_eq mt) (ob ▸ prefix_rfl) kk (fun a ha => ?_) (nodup_cons.mpr ⟨fun hm => ?_, List.pairwise_map.mpr ok.apart⟩) (ob ▸ R.len) (by rw [fr, length_cons, length_cons, len]) (fun x i o c e e' => R.objs_mono kk x e (ob ▸ e')) fun x i f p e e' => ?_
 ·rcases mem_cons.mp ha with rfl | ha
  ·exact ⟨new_none (le_refl _), let ⟨o, _, _, ho, _⟩ := hns; ⟨o, ho⟩⟩
  ·obtain ⟨⟨x, c⟩, hm, rfl⟩ := mem_map.mp ha
   obtain ⟨⟨o, ho, _⟩, hlo⟩ := ok.empty x c hm
   exact ⟨new_none (Nat.le_of_succ_le hlo), o, ho⟩
 ·obtain ⟨⟨x, c⟩, hm, e⟩ := mem_map.mp hm
  exact absurd ((show c = h.objs.size from e) ▸ (ok.empty x c hm).2) (Nat.not_succ_le_self _)
 ·rw [fr] at e'
  cases i with
  | zero =>
   cases e; cases e'
   exact ⟨rfl, rfl, ⟨_, hns, fun y hy => trivial⟩, fun y hy => let ⟨c, hc⟩ := cellsFrom_mem names (n := h.objs.size + 1) (a := []) (.inl (mem_of_lookup hy)); ⟨c, none, hc, (ok.empty y c (mem_of_lookup hc)).1, trivial⟩, rfl, fun c hc => nomatch hc⟩
  | succ i => exact FrameR_mono x (sf _ (mem_of_getElem? e')) (fun b _ ob q => kk b ob q) (old i f p e e')
theorem Rel.relook {h : Heap} {f' : Fr} (R : Rel w h0 κ (f :: r) O h) (e1 : f'.names = f.names) (e2 : f'.lam = f.lam) (e3 : f'.up = f.up) (e4 : f'.clo = f.clo) (l : ∀ x, f.get x = f'.get x) : Rel w h0 κ (f' :: r) O h :=
 { R with frs := fun i g p e e' => match i, e, e' with
   | 0, rfl, e' => let q := R.frs 0 f p rfl e'; ⟨e1.trans q.nm, e2.trans q.lm, by obtain ⟨m, hm, hl⟩ := q.loc; exact ⟨m, hm, fun x hx => l x ▸ hl x (e1 ▸ hx)⟩, fun x hx => by obtain ⟨c, cv, h1, h2, h3⟩ := q.cell x (e1 ▸ hx); exact ⟨c, cv, h1, h2, l x ▸ h3⟩, e3.trans q.up, fun c hc => by obtain ⟨a, r, o, fd, cl, h1, h2, h3⟩ := (q.clo c (e4 ▸ hc)).is; exact ⟨a, r, o, fd, cl, (l c.name).symm.trans h1, e1 ▸ h2, h3⟩⟩
   | i + 1, e, e' => R.frs (i + 1) g p e e' }
theorem envT_new {h : Heap} {P2 : List FP} {env' : Env} (hL : env'.locals = h.objs.size) (hc : env'.cells = cellsFrom (h.objs.size + 1) names cl)
 (kinds : ∀ x k, names.lookup x = some k → (k ≠ .free → env'.kindOf x = some k) ∧ (k = .free → env'.kindOf x = some .cell ∨ env'.kindOf x = some .free))
 (frees : ∀ x, names.lookup x = some .free → (x, NameKind.cell) ∉ names ∧ ∃ c, cl.lookup x = some c ∧ cellAt P2 up x = some c) : EnvT (newFP h names lam up) P2 env' := by
 have hc' : env'.cells = cellsFrom (h.objs.size + 1) names [] ++ cl := hc.trans (cellsFrom_app names _ [] cl)
 refine ⟨hL, fun x hx => (kinds x _ hx).1 nofun, fun x hx => ⟨(kinds x _ hx).1 nofun, ?_⟩, fun x hx => ⟨(kinds x _ hx).2 rfl, ?_⟩, fun x hx => (kinds x _ hx).1 nofun⟩
 ·obtain ⟨c, hq⟩ := cellsFrom_mem names (n := h.objs.size + 1) (a := []) (.inl (mem_of_lookup hx))
  exact ⟨c, hq, by rw [hc', lookup_append', hq]; rfl⟩
 ·obtain ⟨hn, c, h1, h2⟩ := frees x hx
  refine ⟨c, ?_, h2⟩
  rw [hc', lookup_append']
  cases hq : (cellsFrom (h.objs.size + 1) names []).lookup x with
  | none => exact h1
  | some c' => exact (cellsFrom_names names (mem_of_lookup hq)).elim (fun q => absurd q hn) fun q => nomatch q
theorem wpAny_frame {globals : Addr} {around : Option Env} {builtins : Addr} {M : Model}
 (h : ∀ env', env' = newEnv scope s.heap.objs.size globals (cellsFrom (s.heap.objs.size + 1) scope.names cl) qual func code around builtins →
  wpAny M A (forIn binds PUnit.unit fun x (_ : PUnit) => do storeName env' x.1 x.2; pure (ForInStep.yield PUnit.unit)) (fun _ => Q env') E
   { s with heap := layHeap s.heap (.type (if around.isSome then "dict" else "frame")) scope.names }) :
 wpAny M A (newFunctionEnv scope globals cl binds qual func code around builtins) Q E s := by
 unfold newFunctionEnv
 refine wpAny_bind (wpAny_alloc ?_)
 refine wpAny_bind (wpAny_layCells _ (fun name kind cells => by cases hkc : kind == NameKind.cell <;> simp [hkc]) _ _ _ _ ?_)
 rw [show ({ s with heap := s.heap.push { cls := .type (if around.isSome then "dict" else "frame"), data := .dict #[] } } : Shared).heap.objs.size = s.heap.objs.size + 1 from Heap.size_push ..]
 have := h _ rfl
 cases around with
 | none => exact wpAny_bind (wpAny_mono this (fun _ _ q => wpAny_pure q) fun _ _ e => e)
 | some o => exact wpAny_bind (wpAny_mono this (fun _ _ q => wpAny_pure q) fun _ _ e => e)
theorem foldl_lookup (y : Str) : ∀ (vars : List (Str × V)) (acc : Vars), (vars.map (·.1)).Nodup → (vars.foldl (fun a x => setVar a x.1 x.2) acc).lookup y = ((vars.lookup y).map some).or (acc.lookup y)
 | [], acc, _ => rfl
 | (x, v) :: r, acc, nd => by
  obtain ⟨n1, n2⟩ := nodup_cons.mp nd
  rw [foldl_cons, foldl_lookup y r _ n2, lookup_cons, setVar_lookup]
  by_cases hyx : y = x
  ·subst hyx
   rw [if_pos rfl, beq_self_eq_true]
   cases hq : r.lookup y with
   | none => rfl
   | some z => exact absurd (mem_map_of_mem (f := (·.1)) (mem_of_lookup hq)) n1
  ·rw [if_neg hyx, beq_false_of_ne hyx]
theorem pad_get (names : Names) (y : Str) (lam : Bool) (up : Nat) (clo : Option Clo) : ∀ vars : List (Str × V), Fr.get ⟨names, pad names vars, lam, up, clo⟩ y = vars.lookup y := fun vars => by
 have h1 : (vars.map fun x => (x.1, some x.2)).lookup y = (vars.lookup y).map some := by
  induction vars with
  | nil => rfl
  | cons e r ih =>
   rw [map_cons, lookup_cons, lookup_cons, ih]
   cases y == e.1 <;> rfl
 have h2 : ∀ l : Names, gotv ((l.map fun x => (x.1, (none : Option V))).lookup y) = none := fun l => by
  induction l with
  | nil => rfl
  | cons e r ih =>
   rw [map_cons, lookup_cons]
   cases y == e.1
   ·exact ih
   ·rfl
 show gotv (List.lookup y (_ ++ _)) = _
 rw [List.lookup_append, h1]
 cases vars.lookup y with
 | none => exact h2 _
 | some v => rfl
theorem nodupB_filterMap {slots : List (Str × V)} : ∀ (ns : List Str), nodupB ns = true → ((ns.filterMap fun n => (slots.lookup n).map (n, ·)).map (·.1)).Nodup ∧ ∀ x ∈ (ns.filterMap fun n => (slots.lookup n).map (n, ·)).map (·.1), x ∈ ns
 | [], _ => ⟨nodup_nil, fun _ h => nomatch h⟩
 | n :: ns, h => by
  obtain ⟨h0, h⟩ := aB h
  obtain ⟨h1, h2⟩ := nodupB_filterMap ns h
  rw [filterMap_cons]
  cases hq : slots.lookup n with
  | none => exact ⟨h1, fun x hx => mem_cons_of_mem _ (h2 x hx)⟩
  | some v => exact ⟨nodup_cons.mpr ⟨fun hm => absurd (contains_iff_mem.mpr (h2 _ hm)) (by simpa using h0), h1⟩, fun x hx => (mem_cons.mp hx).elim (fun e => e ▸ mem_cons_self ..) fun hx => mem_cons_of_mem _ (h2 x hx)⟩
theorem bindV_nodup {ps : Arguments} {dfl : List V} {kwd : List (Str × V)} {a : List V} {ks : List (Str × V)} (h : bindV ps dfl kwd a ks = some vars) : (vars.map (·.1)).Nodup := by
 obtain ⟨hc, h⟩ := iS h
 obtain ⟨slots, h6, h⟩ := bS h
 obtain ⟨_, h⟩ := iS h
 obtain ⟨fin, h7, h⟩ := mS h
 exact h ▸ (nodupB_filterMap _ (aB hc).2).1
theorem binds_store (vars : List (Str × V)) : ∀ {binds : List (Str × Value)} {acc : Vars} {s : Shared}, KsR s.heap κ vars binds → okVars names vars = true → St w A n b κ (⟨names, acc, lam, up, none⟩ :: r) O s env →
 wpAny (MW w) A0 (forIn binds PUnit.unit fun x (_ : PUnit) => do storeName env x.1 x.2; pure (ForInStep.yield PUnit.unit))
  (fun _ s2 => GoW w b κ O s κ (⟨names, vars.foldl (fun a x => setVar a x.1 x.2) acc, lam, up, none⟩ :: r) O s2) E s := by
 induction vars with
 | nil => intro binds acc s k _ t; cases k; rw [forIn_nil]; exact wpAny_pure (Go.refl t.rel)
 | cons e vars ih =>
  intro binds acc s k okv t
  obtain ⟨cv, r, rfl, rv, k⟩ := k
  rw [forIn_cons]
  obtain ⟨h1, h2⟩ := aB okv
  have hx : setTop (⟨names, acc, lam, up, none⟩ :: ‹List Fr›) e.1 e.2 = some (⟨names, setVar acc e.1 e.2, lam, up, none⟩ :: ‹List Fr›) := if_pos (by
   rcases or_eq_true_iff.mp h1 with h | h
   ·rw [beq_iff_eq.mp h]; rfl
   ·rw [beq_iff_eq.mp h]; rfl)
  exact wpAny_bind (wpAny_bind (setTop_sound t hx rv fun s1 g => wpAny_pure (wpAny_mono (ih (KsR_mono g.ext k) h2 (t.next g)) (fun _ s2 g2 => g.trans g2) fun _ _ e => e)))
theorem Ok.deeper (h : Ok A (n + 1)) : Ok (A.deeper env) n := ⟨by have := h.dep; show A.depth + 1 + n ≤ 690; exact le_trans (le_of_eq (succ_add _ _)) this, by have := h.uni; show A.units + 3 + 10 * n ≤ 9800; exact le_trans (add_le_add_right (add_le_add_left (by decide : 3 ≤ 10) _) _) (le_trans (le_of_eq (add_right_comm _ 10 _)) this), h.hd⟩
noncomputable abbrev Pl.in (κ : Pl) (p : FP) : Pl := ⟨[p], κ.ob, κ.fr.flatMap FP.addrs ++ κ.hid⟩
theorem Pl.in_mt (κ : Pl) (p : FP) : (κ.in p).mt = p.addrs ++ κ.mt := by
 show (p.addrs ++ []) ++ ((_ ++ _) ++ _) = _
 rw [append_nil, Pl.mt, append_assoc]
theorem frame_sound (R : RelW w κ F O s.heap) (ok : ∀ env, Ok (A.deeper env) n) (ok0 : Ok A n) (hk : scope.kind = .function)
 (k : KsR s.heap κ vars binds) (okv : okVars scope.names vars = true) (hn : (vars.map (·.1)).Nodup) (nf : noFree scope.names = true)
 (hcode : lam = false → ∃ c p, code = .ref c ∧ CodeHd (HW w) c p ∧ p < (HW w).objs.size ∧ (HW w).get? p = none)
 (hQ : ∀ {env' s' p}, St w (A.deeper env') n O.length (κ.in p) [⟨scope.names, pad scope.names vars, lam, 0, none⟩] O s' env' → Ext s.heap κ s'.heap (κ.in p) → SameRest s s' → (∀ a ∈ (κ.in p).hid, ∀ o, s.heap.get? a = some o → s'.heap.get? a = some o) → Q env' s') :
 wpAny (MW w) A0 (newFunctionEnv scope mainGlobals [] binds qual func code none builtinsNs) Q E s := by
 refine wpAny_frame fun env' he => ?_
 obtain ⟨R1, x1⟩ := R.lay scope.names (.type "frame") lam 0 (κ' := κ.in (newFP s.heap scope.names lam 0)) (F2 := []) (P2 := []) rfl rfl (κ.in_mt _) rfl (fun _ q => nomatch q) fun i f q e => nomatch e
 have kk := lay_keeps s.heap (.type "frame") scope.names
 have hkind : ∀ x, env'.kindOf x = scope.names.lookup x := fun x => by rw [he]; rfl
 have noFr : ∀ {x}, scope.names.lookup x ≠ some .free := fun hx => absurd nf (by simp only [noFree, Bool.not_eq_true', Bool.not_eq_false]; exact any_eq_true.mpr ⟨_, mem_of_lookup hx, rfl⟩)
 have hc : env'.code = code := by rw [he]; rfl
 have ER : EnvR w (κ.in (newFP s.heap scope.names lam 0)).fr env' := {
  kind := by rw [he]; exact hk
  glob := by rw [he]; rfl
  blt := by rw [he]; rfl
  code := fun q => hc ▸ hcode (by cases lam with | false => rfl | true => exact ff_ne q)
  top := ⟨_, _, rfl, envT_new (cl := []) (by rw [he]; rfl) (by rw [he]; rfl) (fun x k hx => ⟨fun _ => (hkind x).trans hx, fun e => absurd (e ▸ hx) noFr⟩) fun x hx => absurd hx noFr⟩ }
 refine wpAny_mono (binds_store (b := O.length) (acc := []) vars (KsR_mono x1 k) okv ⟨ok0, R1, ER, le_refl _⟩) (fun _ s2 g => ?_) fun _ _ e => e
 have R3 := g.rel.relook (f' := ⟨scope.names, pad scope.names vars, lam, 0, none⟩) rfl rfl rfl rfl fun x => by
  rw [pad_get]
  show gotv _ = _
  rw [foldl_lookup x vars [] hn]
  cases vars.lookup x <;> rfl
 exact hQ ⟨ok _, R3, ER, le_refl _⟩ (x1.trans g.ext) ⟨g.rest.1, g.rest.2.1, g.rest.2.2⟩ fun a ha o e => (g.hid a ha).2 o (kk a o e)
end
mutual
theorem RV_under {h : Heap} {κ : Pl} : ∀ {v : V} {cv : Value}, RV h κ v cv → v.under κ.ob.length = true
 | .none, _, _ => rfl
 | .bool _, _, _ => rfl
 | .int _, _, _ => rfl
 | .str _, _, _ => rfl
 | .tup l, _, q2 => by obtain ⟨_, _, _, _, _, m⟩ := q2; exact RVs_under m
 | .lst l, _, q2 => by obtain ⟨_, _, _, _, _, m⟩ := q2; exact RVs_under m
 | .ref n, _, q2 => by obtain ⟨_, _, e⟩ := q2; exact decide_eq_true (List.getElem?_eq_some_iff.mp e).1
 | .rng _ _ _, _, _ => rfl
 | .lam _ _ _, _, _ => rfl
 | .cst _, _, _ => rfl
 | .opq _, _, _ => rfl
theorem RVs_under {h : Heap} {κ : Pl} : ∀ {l : List V} {r : List Value}, RVs h κ l r → belows κ.ob.length l = true
 | [], _, _ => rfl
 | _ :: _, _, q2 => by obtain ⟨_, _, _, a, b⟩ := q2; exact and_eq_true_iff.mpr ⟨RV_under a, RVs_under b⟩
end
theorem ObjR_under {h : Heap} {κ : Pl} {c : C} (r : ObjR w h κ o c) : o.Under κ.ob.length := by
 cases c with
 | obj a => cases o with
  | list l => exact let ⟨_, _, hv⟩ := r; RVs_under hv
  | iter l => exact let ⟨_, _, _, _, _, _, hv⟩ := r; RVs_under hv
  | dI l => exact let ⟨_, _, _, hv⟩ := r; RVs_under hv
  | dS l => exact let ⟨_, _, _, hv⟩ := r; RVs_under hv
  | dead => trivial
  | tab => trivial
 | tab a => cases o with
  | tab => trivial
  | _ => exact r.elim
structure Cut (κ κ2 : Pl) : Prop where
 pre : κ.ob <+: κ2.ob
 mt : ∀ a ∈ κ.mt, a ∈ κ2.mt
 off : ∀ (k : Nat) (a : Addr), κ.ob.length ≤ k → κ2.ob[k]? = some (.obj a) → a ∉ κ.mt
theorem pre_back {α : Type} {l l' : List α} (p : l <+: l') {i : Nat} {c : α} (h : i < l.length) (e : l'[i]? = some c) : l[i]? = some c := by
 obtain ⟨t, rfl⟩ := p
 rwa [getElem?_append_left h] at e
theorem Cut.of {κ κ2 : Pl} (nd : κ2.mt.Nodup) (pre : κ.ob <+: κ2.ob) (fh : ∀ a ∈ κ.fr.flatMap FP.addrs ++ κ.hid, a ∈ κ2.fr.flatMap FP.addrs ++ κ2.hid) : Cut κ κ2 where
 pre := pre
 mt a h := by
  obtain ⟨l, e⟩ := pre
  rw [Pl.mt, ← append_assoc] at h ⊢
  exact (mem_append.mp h).elim (fun h => mem_append_left _ (fh a h)) fun h => mem_append_right _ (by rw [← e, map_append]; exact mem_append_left _ h)
 off k a hk e h := by
  rw [Pl.mt, ← append_assoc] at h
  rw [Pl.mt, ← append_assoc] at nd
  have hm : a ∈ κ2.ob.map C.addr := mem_map.mpr ⟨_, mem_of_getElem? e, rfl⟩
  rcases mem_append.mp h with h | h
  ·exact (nodup_append.mp nd).2.2 a (fh a h) a hm rfl
  ·obtain ⟨c, hc, ea⟩ := mem_map.mp h
   obtain ⟨j, hj⟩ := List.mem_iff_getElem?.mp hc
   have hjl := (List.getElem?_eq_some_iff.mp hj).1
   refine absurd ((List.getElem?_inj (i := j) (j := k) ?_ (nodup_append.mp nd).2.1).mp ?_) (ne_of_lt (lt_of_lt_of_le hjl hk))
   ·rw [length_map]; exact lt_of_lt_of_le hjl pre.length_le
   ·rw [getElem?_map, getElem?_map, e, pre_get pre hj]; exact congrArg some ea
mutual
theorem pure_under {b : Nat} : ∀ {v : V}, v.pure = true → v.under b = true
 | .none, _ => rfl
 | .bool _, _ => rfl
 | .int _, _ => rfl
 | .str _, _ => rfl
 | .tup l, h => pures_belows (l := l) h
 | .lst l, h => pures_belows (l := l) h
 | .rng _ _ _, _ => rfl
 | .lam _ _ _, _ => rfl
 | .cst _, _ => rfl
 | .opq _, _ => rfl
theorem pures_belows {b : Nat} : ∀ {l : List V}, pures l = true → belows b l = true
 | [], _ => rfl
 | v :: l, h => and_eq_true_iff.mpr ⟨pure_under (aB h).1, pures_belows (aB h).2⟩
end
section
variable {h : Heap} {κ κ2 : Pl}
theorem CodeR_cut (C : Cut κ κ2) {cv : Value} (r : CodeR h κ2 cv) : CodeR h κ cv := by obtain ⟨c, oc, vs, q, t, e, a, r⟩ := r; exact ⟨c, oc, vs, q, t, e, fun z => a (C.mt _ z), r⟩
mutual
theorem RV_cut (C : Cut κ κ2) : ∀ {v : V} {cv : Value}, v.under κ.ob.length = true → RV h κ2 v cv → RV h κ v cv
 | .none, _, _, e => e
 | .bool _, _, _, e => e
 | .int _, _, _, e => e
 | .str _, _, _, e => e
 | .tup l, _, u, q3 => by obtain ⟨a, vals, e, ho, ha, m⟩ := q3; exact ⟨a, vals, e, ho, fun z => ha (C.mt _ z), RVs_cut C u m⟩
 | .lst l, _, u, q3 => by obtain ⟨a, vals, e, ho, ha, m⟩ := q3; exact ⟨a, vals, e, ho, fun z => ha (C.mt _ z), RVs_cut C u m⟩
 | .ref n, _, u, q3 => by obtain ⟨a, e, hi⟩ := q3; exact ⟨a, e, pre_back C.pre (of_decide_eq_true u) hi⟩
 | .rng _ _ _, _, u, q3 => by obtain ⟨a, t1, t2, t3, e, ha, r⟩ := q3; exact ⟨a, t1, t2, t3, e, fun z => ha (C.mt _ z), r⟩
 | .lam _ _ _, _, u, q3 => by obtain ⟨a, o, fd, e, ha, ho, l⟩ := q3; exact ⟨a, o, fd, e, fun z => ha (C.mt _ z), ho, { l with code := CodeR_cut C l.code }⟩
 | .cst _, _, _, e => e
 | .opq _, _, _, q3 => by obtain ⟨e, ha, q⟩ := q3; exact ⟨e, fun z => ha (C.mt _ z), q⟩
theorem RVs_cut (C : Cut κ κ2) : ∀ {l : List V} {r : List Value}, belows κ.ob.length l = true → RVs h κ2 l r → RVs h κ l r
 | [], _, _, e => e
 | v :: l, _, u, q3 => by obtain ⟨cv, r, e, a, b⟩ := q3; exact ⟨cv, r, e, RV_cut C (aB u).1 a, RVs_cut C (aB u).2 b⟩
end
theorem ObjR_cut (C : Cut κ κ2) {c : Mine.C} (u : o.Under κ.ob.length) (r : ObjR w h κ2 o c) : ObjR w h κ o c := by
 cases c with
 | obj a => cases o with
  | list l => exact let ⟨vals, hl, hv⟩ := r; ⟨vals, hl, RVs_cut C u hv⟩
  | iter l => exact let ⟨b, k, vals, h1, h2, h3, hv⟩ := r; ⟨b, k, vals, h1, h2, fun z => h3 (C.mt _ z), RVs_cut C u hv⟩
  | dI l => exact let ⟨kvs, h1, h2, hv⟩ := r; ⟨kvs, h1, h2, RVs_cut C u hv⟩
  | dS l => exact let ⟨kvs, h1, h2, hv⟩ := r; ⟨kvs, h1, h2, RVs_cut C u hv⟩
  | dead => trivial
  | tab => exact r.elim
 | tab a => cases o with
  | tab => exact let ⟨ps, h1, h2, h3⟩ := r; ⟨ps, h1, h2, fun p' cv e => CodeR_cut C (h3 p' cv e)⟩
  | _ => exact r.elim
theorem OptR_cut (C : Cut κ κ2) (e0 : κ0.ob = κ.ob) {o : Option V} {cv cv0 : Option Value} (r0 : OptR h0 κ0 o cv0) (r : OptR h κ2 o cv) : OptR h κ o cv := by
 cases o with
 | none => cases cv with
  | none => trivial
  | some _ => exact r.elim
 | some v =>
  obtain ⟨_, _, u⟩ := OptR.some r0
  obtain ⟨cv, rfl, r⟩ := OptR.some r
  exact RV_cut C (e0 ▸ RV_under u) r
theorem CloR_cut (C : Cut κ κ2) {c : Clo} (sf : ∀ r, p :: r <:+ κ2.fr → p :: r <:+ κ.fr) (y : CloR h κ2 f p c) : CloR h κ f p c :=
 by obtain ⟨a, r, o, fd, cl, h1, h2, h3, h4, h5, h6, h7⟩ := y.is; exact ⟨a, r, o, fd, cl, h1, h2, sf r h3, fun z => h4 (C.mt _ z), h5, { h6 with code := CodeR_cut C h6.code }, h7⟩
theorem FrameR_cut (C : Cut κ κ2) (e0 : κ0.ob = κ.ob) (sf : ∀ r, p :: r <:+ κ2.fr → p :: r <:+ κ.fr) (r0 : FrameR h0 κ0 f p) (r : FrameR h κ2 f p) : FrameR h κ f p where
 nm := r.nm
 lm := r.lm
 loc := by obtain ⟨_, _, h0⟩ := r0.loc; obtain ⟨m, hm, hl⟩ := r.loc; exact ⟨m, hm, fun x hx => OptR_cut C e0 (h0 x hx) (hl x hx)⟩
 cell x hx := by obtain ⟨_, _, _, _, h0⟩ := r0.cell x hx; obtain ⟨c, cv, h1, h2, h3⟩ := r.cell x hx; exact ⟨c, cv, h1, h2, OptR_cut C e0 h0 h3⟩
 up := r.up
 clo c hc := CloR_cut C sf (r.clo c hc)
theorem Rel.cutTo {F : List Fr} (R2 : Rel w h0 κ2 F2 O2 h) (C : Cut κ κ2) (nd : κ.mt.Nodup) (u : ∀ (i : Nat) o, i < κ.ob.length → O2[i]? = some o → o.Under κ.ob.length) (tab : ∀ p : Addr, p < h0.objs.size → h0.get? p = none → ∃ k : Nat, κ.ob[k]? = some (.tab p))
 (flen : κ.fr.length = F.length) (frs : ∀ (i : Nat) f p, F[i]? = some f → κ.fr[i]? = some p → FrameR h κ f p) : Rel w h0 κ F (O2.take κ.ob.length) h where
 len := by rw [length_take, ← R2.len]; exact (min_eq_left C.pre.length_le).symm
 flen := flen
 base := R2.base
 off a ha := R2.off a (C.mt a ha)
 nd := nd
 ex a ha := R2.ex a (C.mt a ha)
 objs i o c e e' := by
  have hi := (List.getElem?_eq_some_iff.mp e').1
  rw [List.getElem?_take, if_pos hi] at e
  exact ObjR_cut C (u i o hi e) (R2.objs i o c e (pre_get C.pre e'))
 frs := frs
 tab := tab
theorem freeze_sound (R2 : Rel w h0 κ2 F2 O2 h) (C : Cut κ κ2) (n : Nat) : ∀ {v v' : V} {cv : Value}, freeze O2 κ.ob.length n v = some v' → RV h κ2 v cv → RV h κ v' cv := by
 induction n with
 | zero => intro v v' cv e; exact nN e
 | succ n ih =>
  have ihs : ∀ {l l' : List V} {r : List Value}, l.mapM (freeze O2 κ.ob.length n) = some l' → RVs h κ2 l r → RVs h κ l' r := by
   intro l
   induction l with
   | nil => intro l' r e m; cases e; exact m
   | cons x l ihl =>
    intro l' r e m
    rw [List.mapM_cons] at e
    obtain ⟨y, e1, e⟩ := bS e
    obtain ⟨l'', e2, e⟩ := bS e
    cases e
    obtain ⟨c, r, rfl, a, b⟩ := m
    exact ⟨c, r, rfl, ih e1 a, ihl e2 b⟩
  intro v v' cv e r
  cases v with
  | ref k =>
   dsimp only [freeze] at e
   by_cases hk : k < κ.ob.length
   ·rw [if_pos hk] at e; cases e
    exact RV_cut C (decide_eq_true hk) r
   ·rw [if_neg hk] at e
    obtain ⟨l, h1, e⟩ := bS e
    obtain ⟨l', e1, e⟩ := mS e
    cases e
    obtain ⟨a, vals, rfl, hi, hl, hv⟩ := R2.list h1 r
    exact ⟨a, vals, rfl, hl, C.off k a (Nat.le_of_not_lt hk) hi, ihs e1 hv⟩
  | tup l =>
   obtain ⟨l', e1, e⟩ := mS e
   cases e
   exact let ⟨a, vals, e, ho, ha, m⟩ := r; ⟨a, vals, e, ho, fun z => ha (C.mt _ z), ihs e1 m⟩
  | lst l =>
   obtain ⟨l', e1, e⟩ := mS e
   cases e
   exact let ⟨a, vals, e, ho, ha, m⟩ := r; ⟨a, vals, e, ho, fun z => ha (C.mt _ z), ihs e1 m⟩
  | _ => cases e; exact RV_cut C rfl r
end
end
section
variable {Q : V → Oj → Prop} {a : List V} {ca : List Value} {sc : Scope}
section
variable {w : World} {A : Around} {n b : Nat} {κ κ2 : Pl} {F F2 : List Fr} {O O2 : Oj} {s s1 s2 : Shared} {env : Env} {J : WI} {E : Value → Shared → Prop} {p : FP}
theorem back (R : RelW w κ F O s.heap) (hb : b ≤ O.length) (x : Ext s.heap κ s1.heap (κ.in p)) (q : SameRest s s1) (kh : ∀ a ∈ (κ.in p).hid, ∀ o, s.heap.get? a = some o → s1.heap.get? a = some o) (g : GoW w O.length (κ.in p) O s1 κ2 F2 O2 s2) : GoW w b κ O s κ F (O2.take O.length) s2 ∧ Cut κ κ2 := by
 have hid : ∀ a ∈ (κ.in p).hid, a ∈ κ2.hid ∧ ∀ o, s.heap.get? a = some o → s2.heap.get? a = some o := fun a ha => ⟨(g.hid a ha).1, fun o e => (g.hid a ha).2 o (kh a ha o e)⟩
 have C : Cut κ κ2 := Cut.of g.rel.nd g.ext.pre fun a ha => mem_append_right _ (hid a ha).1
 have y := x.trans g.ext
 have z : Ext s.heap κ s2.heap κ := ⟨prefix_rfl, y.keep, fun b hb hn => absurd hb hn⟩
 have u : ∀ (i : Nat) o, i < κ.ob.length → O2[i]? = some o → o.Under κ.ob.length := fun i o hi e => by
  have hi' : i < O.length := R.len ▸ hi
  obtain ⟨c, _, r⟩ := R.get (getElem?_eq_getElem hi')
  obtain ⟨o', e', k⟩ := g.mono i _ hi' (getElem?_eq_getElem hi')
  cases e.symm.trans e'
  exact k _ (ObjR_under r)
 have R3 := g.rel.cutTo C R.nd u R.tab R.flen fun i f p e e' => FrameR_mono z (fun _ q => q) (fun b hb o ho => (hid b (mem_append_left _ (mem_flatMap.mpr ⟨p, mem_of_getElem? e', hb⟩))).2 o ho) (R.frs i f p e e')
 rw [R.len] at R3
 refine ⟨⟨R3, z, rfl, ⟨g.rest.1.trans q.1, g.rest.2.1.trans q.2.1, g.rest.2.2.trans q.2.2⟩, fun i o hi e => ?_, fun a ha => ⟨ha, (hid a (mem_append_right _ ha)).2⟩⟩, C⟩
 have hi' := lt_of_lt_of_le hi hb
 obtain ⟨o', e', k⟩ := g.mono i o hi' e
 exact ⟨o', by rw [List.getElem?_take, if_pos hi']; exact e', k⟩
theorem back_val {v v' : V} {cv : Value} (R : RelW w κ F O s.heap) (hb : b ≤ O.length) (x : Ext s.heap κ s1.heap (κ.in p)) (q : SameRest s s1) (kh : ∀ a ∈ (κ.in p).hid, ∀ o, s.heap.get? a = some o → s1.heap.get? a = some o) (g : GoW w O.length (κ.in p) O s1 κ2 F2 O2 s2)
 (h : leave O.length v O2 = some v') (r : RV s2.heap κ2 v cv) (hq : Q v' (O2.take O.length)) : End w b κ F O s RV Q cv s2 :=
 let ⟨g', C⟩ := back R hb x q kh g
 .mk hq g' (freeze_sound g.rel C 4 (R.len ▸ h) r)
theorem topVs {h : Heap} : ∀ l : List Value, RVs h κ (l.map topV) l
 | [] => rfl
 | x :: l => ⟨x, l, rfl, topV_is _ _ _, topVs l⟩
theorem Ok.room (h : Ok A n) : A.depth < recursionLimit := lt_of_le_of_lt (le_trans (le_add_right _ _) h.dep) (by decide)
theorem callF_sound (B : Base w) (S : Snd w n J) {ad : Addr} {ks : List (Str × V)} {cks : List (Str × Value)} (h : Lf (GG.fns.lookup ad) fun fi => Lf (bindV fi.params fi.dfl fi.kwd a ks) fun vars => wFn J fi vars Q O) (ok : Ok A (n + 1)) (R : RelW w κ F O s.heap) (hb : b ≤ O.length)
 (Ra : RVs s.heap κ a ca) (Rk : KsR s.heap κ ks cks) : wpAny (MW w) A (call (.ref ad) ca cks) (End w b κ F O s RV Q) E s := by
 obtain ⟨fi, h1, h⟩ := h.out
 obtain ⟨vars, h2, h⟩ := h.out
 obtain ⟨hch, hx⟩ := h.out
 obtain ⟨okv, hnf⟩ := aB hch
 obtain ⟨o, fd, K⟩ := B.fns ad fi h1
 refine wpAny_call (codeAny_call_function ok.room (R.base _ _ K.get) K.data (K.scope.symm ▸ K.cor) (K.scope.symm ▸ K.gen) K.body (K.crec.keeps R.base) ?_)
 refine binds_sound (K.params.symm ▸ h2) Ra Rk ?_ ?_ fun binds kb => ?_
 ·exact K.dfl.imp id fun ⟨t, vals, q1, ⟨ot, hot, r⟩, q3⟩ => ⟨t, vals, q1, ⟨ot, R.base _ _ hot, r⟩, q3 ▸ topVs _⟩
 ·refine K.kwd.imp id fun ⟨d, m, q1, q2, q3⟩ => ⟨d, m, q1, q2.keeps R.base, fun x => ?_⟩
  rw [← q3]
  cases m x with
  | none => trivial
  | some cv => exact topV_is _ _ _
 rw [K.glob, K.blt, K.clos, K.scope]
 refine frame_sound (A := A) (n := n) R (fun env => ok.deeper) ok.dn K.kind kb okv (bindV_nodup h2) hnf (fun _ => K.code) fun {env' s1 p} t x q kh => ⟨B.nolimit.keeps t.rel.base, codeAny_func (EndS.seq (exs_sound S hx t) fun {f F2 κ2 O2 cf s2} hq g r => ?_)⟩
 cases f with
 | next => cases r; exact .mk hq (back R hb x q kh g).1 rfl
 | ret v => obtain ⟨cv, rfl, rv⟩ := r; obtain ⟨v', h3, hq⟩ := hq.out; exact back_val R hb x q kh g h3 rv hq
 | _ => exact hq.elim
theorem codeAny_callE {R : Result → Shared → Prop} {a : Addr} {args : Args} {o oc : Obj} {fd : FuncData} {body : Expr} {c : Addr} {vs : Array Value} {q : Str} {t : Tok} (hroom : A.depth < recursionLimit)
 (ho : s.heap.get? a = some o) (hd' : o.data = .func fd) (hco : fd.scope.isCoroutine = false) (hgen : fd.scope.isGenerator = false) (hbody : fd.body = .expr body)
 (hc : fd.code = .ref c) (hoc : s.heap.get? c = some oc) (hdc : oc.data = .fields vs) (hq : vs[1]? = some (.str q t))
 (h : wpAny (MW w) A.in1 (bindArgs fd args) (fun binds s₁ =>
  wpAny (MW w) A.in1 (newFunctionEnv fd.scope fd.globals fd.closure binds (q ++ ".<locals>.") (some a) fd.code none fd.builtins)
   (fun env s₂ => s₂.heap.NoLimit ∧ codeAny (MW w) A (.expr body env) R s₂) (fun e s' => R (.error e) s') s₁) (fun e s' => R (.error e) s') s) :
 codeAny (MW w) A (.call (.ref a) args) R s := by
 refine codeAny_of_tree ?_
 show wpAny _ A.in1 (callAny (.ref a) args) _ _ s
 refine wpAny_bind (m := load a) (wpAny_load ho ?_)
 rw [hd']
 show wpAny _ _ (callFunction a fd args) _ _ _
 delta callFunction
 rw [hco, hgen, hbody, hc]
 rw [hc] at h
 refine wpAny_bind (m := field (.ref c) 1) (wpAny_field hoc hdc hq (wpAny_bind (wpAny_pure ?_)))
 exact wpAny_bind (wpAny_mono h (fun binds s₁ h₁ => wpAny_bind (wpAny_mono h₁ (fun env s₂ h₂ => wpAny_bind (wpAny_enterFrame h₂.1 hroom
  (wpAny_pure (And.intro rfl h₂.2)))) fun _ _ h' => h')) fun _ _ h' => h')
theorem okScope_is (h : okScope sc = true) : sc.kind = .function ∧ sc.isGenerator = false ∧ sc.isCoroutine = false := by
 obtain ⟨h, _⟩ := aB h
 obtain ⟨h, h3⟩ := aB h
 obtain ⟨h1, h2⟩ := aB h
 exact ⟨beq_iff_eq.mp h1, by simpa using h2, by simpa using h3⟩
theorem callL_sound (B : Base w) (S : Snd w n J) {as : Arguments} {bd : Expr} {cf : Value} 
 (h : Lf (bindV as [] [] a []) fun vars => Gd (okVars sc.names vars && okScope sc && noFree sc.names) (J.e bd [⟨sc.names, pad sc.names vars, true, 0, none⟩] O.length (fun v O1 => Lf (leave O.length v O1) fun r => Q r (O1.take O.length)) O)) (ok : Ok A (n + 1))
 (R : RelW w κ F O s.heap) (hb : b ≤ O.length) (rf : RV s.heap κ (.lam as bd sc) cf) (Ra : RVs s.heap κ a ca) : wpAny (MW w) A (call cf ca []) (End w b κ F O s RV Q) E s := by
 obtain ⟨vars, h2, h⟩ := h.out
 obtain ⟨hch, hx⟩ := h.out
 obtain ⟨hch, hnf⟩ := aB hch
 obtain ⟨okv, hsc⟩ := aB hch
 obtain ⟨s1, s2, s3⟩ := okScope_is hsc
 obtain ⟨ad, o, fd, rfl, ha, ho, K⟩ := rf
 obtain ⟨c, oc, vs, q, t, k1, k2, k3, k4, k5⟩ := K.code
 refine wpAny_call (codeAny_callE ok.room ho K.data (K.sc.symm ▸ s3) (K.sc.symm ▸ s2) K.bd k1 k3 k4 k5 ?_)
 refine binds_sound (K.params.symm ▸ h2) Ra (show KsR _ _ [] _ from rfl) (.inl ⟨rfl, K.dfl⟩) (.inl ⟨rfl, K.kwd⟩) fun binds kb => ?_
 rw [K.glob, K.blt, K.clos, K.sc]
 exact frame_sound (A := A) (n := n) (lam := true) R (fun env => ok.deeper) ok.dn s1 kb okv (bindV_nodup h2) hnf nofun fun {env' s1 p} t x q kh => ⟨B.nolimit.keeps t.rel.base, kla_codeExpr (End.seq (S.e hx t) fun {v κ2 O2 cv s2} hq g r => let ⟨v', h3, hq⟩ := hq.out; back_val R hb x q kh g h3 r hq)⟩
end
end
section
variable {x : Str} {scope : Scope} {v : V} {f : Fr} {r : List Fr}
noncomputable def clFrom (env : Env) : Names → List (Str × Addr) → List (Str × Addr)
 | [], acc => acc
 | y :: r, acc => if y.2 == .free then clFrom env r ((y.1, (env.cells.lookup y.1).getD 0) :: acc) else clFrom env r acc
theorem clFrom_lookup {env : Env} (names : Names) : ∀ {acc : List (Str × Addr)}, (x, NameKind.free) ∈ names ∨ acc.lookup x = some ((env.cells.lookup x).getD 0) → (clFrom env names acc).lookup x = some ((env.cells.lookup x).getD 0) := by
 induction names with
 | nil => exact fun h => h.elim (fun h => nomatch h) id
 | cons y r ih =>
  intro acc h
  unfold clFrom
  split
  ·rename_i hk
   refine ih (h.elim (fun h => (mem_cons.mp h).elim (fun q => .inr (by rw [← q, List.lookup_cons_self])) .inl) fun h => .inr ?_)
   rw [lookup_cons]
   split
   ·rename_i hxy; rw [beq_iff_eq.mp hxy]
   ·exact h
  ·rename_i hk
   exact ih (h.imp_left fun h => (mem_cons.mp h).elim (fun q => absurd (congrArg Prod.snd q.symm) (fun e => hk (beq_iff_eq.mpr e))) id)
theorem clFrom_none {env : Env} (names : Names) (h : noFree names = true) : ∀ acc, clFrom env names acc = acc := by
 induction names with
 | nil => exact fun _ => rfl
 | cons y r ih =>
  intro acc
  simp only [noFree, any_cons, Bool.not_eq_true', Bool.or_eq_false_iff] at h
  rw [clFrom, h.1, if_neg Bool.false_ne_true]
  exact ih (by rw [noFree, h.2]; rfl) acc
theorem closureFor_eq {env : Env} (h : ∀ x ∈ scope.names, x.2 = .free → ∃ c, env.cells.lookup x.1 = some c) : closureFor scope env = pure (clFrom env scope.names []) := by
 unfold closureFor
 have : ∀ (names : Names) (acc : List (Str × Addr)), (∀ x ∈ names, x.2 = .free → ∃ c, env.cells.lookup x.1 = some c) →
  (forIn names acc fun x (cs : List (Str × Addr)) => (if x.2 == NameKind.free then do let a ← cellOf env x.1; pure (ForInStep.yield ((x.1, a) :: cs)) else pure (ForInStep.yield cs) : Sem _)) = pure (clFrom env names acc) := by
  intro names
  induction names with
  | nil => intro acc _; rfl
  | cons x r ih =>
   intro acc hx
   rw [forIn_cons]
   unfold clFrom
   split
   ·rename_i hk
    obtain ⟨c, hc⟩ := hx x mem_cons_self (beq_iff_eq.mp hk)
    unfold cellOf
    rw [hc, pure_bind, pure_bind]
    exact ih _ fun y hy => hx y (mem_cons_of_mem _ hy)
   ·rw [pure_bind]
    exact ih _ fun y hy => hx y (mem_cons_of_mem _ hy)
 dsimp only
 rw [bind_pure]
 exact this scope.names [] h
theorem lookup_mapIf (c : Str → NameKind → Bool) (d : NameKind) (x : Str) (names : Names) : (names.map fun y => if c y.1 y.2 = true then (y.1, d) else (y.1, y.2)).lookup x = (names.lookup x).map fun k => if c x k = true then d else k := by
 induction names with
 | nil => rfl
 | cons y r ih =>
  have e : (if c y.1 y.2 = true then (y.1, d) else (y.1, y.2)) = (y.1, if c y.1 y.2 = true then d else y.2) := by split <;> rfl
  rw [map_cons, e, lookup_cons, ih, lookup_cons (k := y.1)]
  by_cases hx : x = y.1
  ·rw [← hx, beq_self_eq_true]; rfl
  ·rw [beq_false_of_ne hx]
section
variable {w : World} {A : Around} {n b m : Nat} {κ κ1 κ2 : Pl} {F F1 F2 : List Fr} {O O1 O2 : Oj} {s s1 s2 : Shared} {env : Env} {J : WI} {E : Value → Shared → Prop} {p : FP} {FR : List FP} {src : Src} {I D : Addr} {H : List Addr}
theorem okScope_names {sc : Scope} (h : okScope sc = true) : ∀ x ∈ sc.names, x.2 = .free ∨ x.2 = .globalImplicit ∨ ((x.2 = .local ∨ x.2 = .cell) ∧ sc.names.lookup x.1 = some x.2) := fun x hx => by
 have := all_eq_true.mp (aB h).2 x hx
 rcases or_eq_true_iff.mp this with h | h
 ·exact (or_eq_true_iff.mp h).imp beq_iff_eq.mp fun h => .inl (beq_iff_eq.mp h)
 ·exact .inr (.inr ⟨(or_eq_true_iff.mp (aB h).1).imp beq_iff_eq.mp beq_iff_eq.mp, beq_iff_eq.mp (aB h).2⟩)
theorem free_cells (R : RelW w κ F O s.heap) (ER : EnvR w κ.fr env) {names : Names} (hf : freeOk F names = true) : ∀ x ∈ names, x.2 = .free → ∃ c, env.cells.lookup x.1 = some c ∧ cellAt κ.fr 0 x.1 = some c := by
 intro x hx hk
 have hfa := all_eq_true.mp hf x hx
 rw [hk] at hfa
 have hfa : freeAt F x.1 = true := hfa
 obtain ⟨p, r, hp, T⟩ := ER.top
 cases F with
 | nil => exact ff_ne hfa
 | cons f rF =>
  have fr : FrameR s.heap κ f p := R.frs 0 f p rfl (hp ▸ rfl)
  dsimp only [freeAt] at hfa
  rw [fr.nm] at hfa
  rw [hp]
  cases hn : p.names.lookup x.1 with
  | none => rw [hn] at hfa; exact ff_ne hfa
  | some kd =>
   rw [hn] at hfa
   cases kd with
   | cell =>
    obtain ⟨_, c, h1, h2⟩ := T.cell _ hn
    exact ⟨c, h2, by unfold cellAt; rw [hn]; exact h1⟩
   | free =>
    obtain ⟨_, c, h1, h2⟩ := T.free _ hn
    exact ⟨c, h1, by unfold cellAt; rw [hn]; exact h2⟩
   | _ => exact ff_ne hfa
theorem comp_env {h : Heap} (ER : EnvR w FR env) (hs : okScope scope = true) (hf : ∀ x ∈ scope.names, x.2 = .free → ∃ c, env.cells.lookup x.1 = some c ∧ cellAt FR 0 x.1 = some c) {cenv : Env} (e1 : cenv.scope = relabel scope env) (e2 : cenv.globals = env.globals) (e3 : cenv.builtins = env.builtins) (e4 : cenv.locals = h.objs.size)
 (e5 : cenv.cells = cellsFrom (h.objs.size + 1) scope.names (clFrom env scope.names [])) (e6 : cenv.code = env.code) : EnvR w (newFP h scope.names false 0 :: FR) cenv := by
 have hkd : ∀ x, cenv.kindOf x = (scope.names.lookup x).map fun k => if (k == NameKind.free && env.scope.kind == .function && env.kindOf x == some .cell) then NameKind.cell else k := fun x => by
  unfold Env.kindOf; rw [e1]; exact lookup_mapIf (fun n k => k == NameKind.free && env.scope.kind == .function && env.kindOf n == some .cell) .cell x scope.names
 refine ⟨by rw [e1]; exact (okScope_is hs).1, e2.trans ER.glob, e3.trans ER.blt, fun q => e6 ▸ ER.code q, _, _, rfl, envT_new e4 e5 (fun x k hx => ?_) fun x hx => ⟨fun hm => ?_, ?_⟩⟩
 ·rw [hkd, hx]
  refine ⟨fun hk => ?_, fun hk => ?_⟩
  ·have : (k == NameKind.free) = false := beq_false_of_ne hk
   show some (if (k == NameKind.free && _ && _) = true then NameKind.cell else k) = some k
   rw [this]; rfl
  ·subst hk
   show some (if (_ : Bool) = true then NameKind.cell else .free) = _ ∨ some (if (_ : Bool) = true then NameKind.cell else .free) = _
   split
   ·exact .inl rfl
   ·exact .inr rfl
 ·rcases okScope_names hs _ hm with q | q | ⟨_, q⟩
  ·cases q
  ·cases q
  ·exact nomatch hx.symm.trans q
 ·obtain ⟨c, h1, h2⟩ := hf (x, .free) (mem_of_lookup hx) rfl
  exact ⟨c, by rw [clFrom_lookup scope.names (.inl (mem_of_lookup hx)), h1]; rfl, h2⟩
theorem Mono.low (hb : b ≤ m) (g : Mono m O O1) : Mono b O O1 := fun i o hi e => g i o (lt_of_lt_of_le hi hb) e
theorem GoF.low (hb : b ≤ m) (g : GoF w (HW w) m FR κ O s κ1 F1 O1 s1) : GoF w (HW w) b FR κ O s κ1 F1 O1 s1 := { g with mono := g.mono.low hb }
theorem append_sound {cv : Value} {P : Value → Shared → Prop} (R : RelW w κ F O s.heap) (h : pushAt O m v = some O1) (hD : κ.ob[m]? = some (.obj D)) (r : RV s.heap κ v cv) (k : ∀ s', GoW w m κ O s κ F O1 s' → P .none s') : wpAny (MW w) A (call (.builtin "list.append") [.ref D, cv]) P E s := by
 obtain ⟨l, hl, h⟩ := bS h
 obtain ⟨hlen, h⟩ := iS h
 cases h
 obtain ⟨vals, hp, rs⟩ := R.at' (listAt_some hl) hD
 refine wpAny_list_append_plain (hsz := RVs_size rs ▸ le_trans (lenOk_le hlen) (by decide)) hp fun h' hp' hs' => ?_
 obtain ⟨R', x', hk⟩ := R.setO (o' := .list (l ++ [v])) (listAt_some hl) hD (fun b ob hn e => (hs'.2 b hn).trans e) (let ⟨n, hn⟩ := hp'; ⟨_, hn⟩) fun x => ⟨_, hp', by
  rw [Array.toList_push]; exact RVs_app (rMs x rs) (RVs_cons (rM x r) RVs_nil)⟩
 exact k { s with heap := h' } ⟨R', x', rfl, ⟨rfl, rfl, rfl⟩, Mono.set_high (le_refl _), hk⟩
theorem setTop_tail (h : setTop (f :: r) x v = some F1) : ∃ f', F1 = f' :: r := by obtain ⟨_, h⟩ := iS h; exact ⟨_, (Option.some.inj h).symm⟩
theorem setTgt_tail {tgt : Expr} (h : setTgt (f :: r) tgt v = some F1) : ∃ f', F1 = f' :: r := by
 cases tgt with
 | Name x p => exact setTop_tail h
 | Tuple es _ p =>
  cases v with
  | tup l =>
   have : ∀ (es : List Expr) {l : List V} {f : Fr}, setAll (f :: r) es l = some F1 → ∃ f', F1 = f' :: r := by
    intro es
    induction es with
    | nil => intro l f h; cases l with | nil => cases h; exact ⟨_, rfl⟩ | cons => exact nN h
    | cons e es ih =>
     intro l f h
     obtain ⟨x, p, v, r', F2, rfl, rfl, h1, h2⟩ := setAll_cons h
     obtain ⟨f', rfl⟩ := setTop_tail h1
     exact ih h2
   exact this es h
  | _ => exact nN h
 | _ => exact nN h
theorem forIn_false : ∀ {ifs : List Expr}, (forIn ifs false fun c r => if r = true then do let ok ← isTrue c env (eval c env); pure (ForInStep.yield ok) else pure (ForInStep.yield r)) = (pure false : Sem Bool)
 | [] => rfl
 | c :: ifs => by
  rw [forIn_cons, if_neg Bool.false_ne_true, pure_bind]
  exact forIn_false
theorem tests_sound (S : Snd w n J) {Q : Bool → Oj → Prop} (ifs : List Expr) : ∀ {κ : Pl} {O : Oj} {s : Shared}, wIfs J ifs F b Q O → St w A n b κ F O s env →
 wpAny (MW w) A (forIn ifs true fun c r => if r = true then do let ok ← isTrue c env (eval c env); pure (ForInStep.yield ok) else pure (ForInStep.yield r)) (End w b κ F O s EqR Q) noE s := by
 induction ifs with
 | nil => intro κ O s h t; rw [forIn_nil]; exact wpAny_pure (End.here t.rel h rfl)
 | cons e es ih =>
  intro κ O s h t
  rw [forIn_cons, if_pos rfl]
  refine wpAny_bind (wpAny_bind (End.seq (S.t h t) fun {u _ _ _ _} q g r => wpAny_pure ?_))
  cases r
  cases u with
  | true => exact End.on g (ih q (t.next g))
  | false => dsimp only; rw [forIn_false]; exact wpAny_pure (.mk q g rfl)
end
end
section
variable {scope : Scope} {pos : Pos} {g : Comprehension} {gs : List Comprehension} {use : Option (Value → Sem Unit)} {Q : Value → Shared → Prop} {elt iter tgt : Expr} {ifs : List Expr} {acc : Value}
section
variable {w : World} {A : Around} {n b m : Nat} {κ κ1 κ2 : Pl} {F F1 F2 : List Fr} {O O1 O2 OF : Oj} {s s1 s2 : Shared} {env : Env} {J : WI} {E : Value → Shared → Prop} {p : FP} {FR : List FP} {src : Src} {I D : Addr} {H : List Addr}
noncomputable def compEnd (w : World) (A : Around) (E : Value → Shared → Prop) (use : Option (Value → Sem Unit)) (Q : Value → Shared → Prop) (acc : Value) (C : Addr) (s' : Shared) : Prop :=
 match use with
 | none => ∃ m, s'.heap.Ns C m ∧ ∀ h' m', h'.Ns C m' → SameBut C s'.heap h' → Q acc { s' with heap := h' }
 | some u => wpAny (MW w) A (u acc) (fun _ s'' => ∃ m, s''.heap.Ns C m ∧ ∀ h' m', h'.Ns C m' → SameBut C s''.heap h' → Q .none { s'' with heap := h' }) E s'
theorem wpAny_comp {e : Expr} {pos : Pos} {newAcc first : Sem Value} {cl : List (Str × Addr)} {use : Option (Value → Sem Unit)}
 {Q : Value → Shared → Prop}
 (hcl : clausesOf e = g :: gs) (hs : ∀ x, foldedSetIterable g.iter env x = pure x) (hclos : closureFor scope env = pure cl)
 (hkind : scope.kind = .function) (hnames : ∀ x ∈ scope.names, x.2 = .local → scope.names.lookup x.1 = some .local)
 (h : wpAny (MW w) A first (fun x s₁ => wpAny (MW w) A (pyIter x) (fun it s₂ => wpAny (MW w) A newAcc (fun acc s₃ =>
  wpAny (MW w) A (newFunctionEnv scope env.globals cl [] env.qual none .none (some env)) (fun cenv s₄ =>
   codeAny (MW w) A (.compStart e 0 it acc { cenv with scope := relabel scope env }) (fun r s' => match r with | .ok _ => compEnd w A E use Q acc cenv.locals s' | .error _ => False) s₄) E s₃) E s₂) E s₁) E s) :
 wpAny (MW w) A (comprehension e scope env pos newAcc false first use) Q E s := by
 unfold comprehension
 rw [hclos, hcl]
 refine wpAny_bind (wpAny_mono h (fun x s₁ h₁ => wpAny_bind (wpAny_standAt (wpAny_bind (wpAny_of_eq (hs x) (wpAny_bind (wpAny_holding (wpAny_mono h₁ (fun it s₂ h₂ =>
  wpAny_standIf (wpAny_bind (wpAny_mono h₂ (fun acc s₃ h₃ => wpAny_bind (wpAny_pure (wpAny_bind (wpAny_mono h₃ (fun cenv s₄ h₄ => ?_) fun _ _ h' => h')))) fun _ _ h' => h')))
   fun _ _ h' => h'))))))) fun _ _ h' => h')
 dsimp only
 have hv : ∀ x ∈ (scope.names.filter fun x => (x.2 == .local || x.2 == .cell) && x.1 != (".0" : Str)).reverse, x.2 = .local →
  Env.kindOf { cenv with scope := relabel scope env } x.1 = some .local := fun x hx hl => lookup_relabel_local (hnames x (mem_filter.mp (List.mem_reverse.mp hx)).1 hl)
 have hv' : ∀ x ∈ (scope.names.filter fun x => (x.2 == .local || x.2 == .cell) && x.1 != (".0" : Str)).reverse.drop 1 ++ (scope.names.filter fun x => (x.2 == .local || x.2 == .cell) && x.1 != (".0" : Str)).reverse.take 1,
  x.2 = .local → Env.kindOf { cenv with scope := relabel scope env } x.1 = some .local := fun x hx hl => by
  rcases mem_append.mp hx with h1 | h1
  ·exact hv x (List.mem_of_mem_drop h1) hl
  ·exact hv x (mem_of_mem_take h1) hl
 refine wpAny_holding (wpAny_bind (wpAny_attempt (wpAny_holding (wpAny_run (codeAny_mono h₄ fun r s' hr => ?_)))))
 cases r with
 | ok f =>
  cases use with
  | none =>
   obtain ⟨m, hn, hr⟩ := hr
   exact wpAny_bind (wpAny_holding (wpAny_comp_letGo (cenv := { cenv with scope := relabel scope env }) hkind _ s' m hv hn fun h' m' hn' hs' => wpAny_pure (hr h' m' hn' hs')))
  | some u =>
   refine wpAny_bind (wpAny_rule (wpAny_bind (wpAny_holding (wpAny_mono hr (fun _ s'' hr' => ?_) fun _ _ h' => h'))))
   obtain ⟨m, hn, hr'⟩ := hr'
   exact wpAny_bind (wpAny_comp_letGo (cenv := { cenv with scope := relabel scope env }) hkind _ s'' m hv' hn fun h' m' hn' hs' => wpAny_pure (hr' h' m' hn' hs'))
 | error x => exact hr.elim
theorem compTurn_one {target : Expr} {it : Value} :
 compTurn (.ListComp elt [⟨target, iter, ifs, 0⟩] scope pos) 0 it acc env = (do
  standAt iter.pos
  match ← pyNext it with
  | none => pure (.done .next)
  | some v =>
   letOwnedTupleGo target it v
   assign target env v
   let mut ok := true
   for c in ifs do
    if ok then ok ← isTrue c env (eval c env)
   if ok then
    match ([⟨target, iter, ifs, 0⟩] : List Comprehension)[0 + 1]? with
    | some g' =>
     let x ← eval g'.iter env
     standAt g'.iter.pos
     let x ← if g'.is_async != 0 then foldedIterable g'.iter x else foldedSetIterable g'.iter env x
     let _ ← runOwn (.compStart (.ListComp elt [⟨target, iter, ifs, 0⟩] scope pos) (0 + 1) (← holding [x] (if g'.is_async != 0 then asyncIter x else pyIter x)) acc env) env
    | none => (do let _ ← call (.builtin "list.append") [acc, ← eval elt env])
   again (.compLoop (.ListComp elt [⟨target, iter, ifs, 0⟩] scope pos) 0 it acc env)) := by
 unfold compTurn
 rfl
theorem SrcR.self {h : Heap} (x : SrcR w s.heap κ src I H) (hh : A.handled = none) (h : Q (.ref I) s) : wpAny (MW w) A (pyIter (.ref I)) Q E s := by
 cases x with
 | walk W cls st len fps vals => exact (W A hh).self _ _ _ _ st h
 | live it at_ => exact wpAny_pyIter_listiter it h
 | keys it at_ => exact wpAny_pyIter_keyiter it h
 | enum hei he hit hl o3 vals => exact wpAny_pyIter_enum he h
theorem compStart_any {R : Result → Shared → Prop} (hg : g.is_async = 0)
 (sr : SrcR w s.heap κ src I H) (hh : A.handled = none) (h : codeAny (MW w) A (.compLoop (.ListComp elt [g] scope pos) 0 (.ref I) acc env) R s) :
 codeAny (MW w) A (.compStart (.ListComp elt [g] scope pos) 0 (.ref I) acc env) R s := by
 refine codeAny_of_tree ?_
 show wpAny _ _ ((compStart (.ListComp elt [g] scope pos) 0 (.ref I) acc env).onRaise (fun x => do noteFrame x env; standAt theWindowsPlace)) _ _ s
 refine wpAny_notedAt ?_
 unfold compStart
 show wpAny _ _ (if (g.is_async != 0) = true then _ else _) _ _ s
 rw [hg, if_neg (by decide)]
 refine wpAny_bind (wpAny_askSetting (wpAny_ite ?_))
 split
 ·first
   | exact wpAny_bind (wpAny_pure (wpAny_pure (And.intro rfl h)))
   | exact wpAny_pure (And.intro rfl h)
 ·refine wpAny_bind (wpAny_rule ?_)
  show wpAny _ _ (do
   standAt g.iter.pos
   again (.compLoop (.ListComp elt [g] scope pos) 0 (← pyIter (.ref I)) acc env)) _ _ s
  exact wpAny_bind (wpAny_standAt (wpAny_bind (sr.self (h := s.heap) hh (wpAny_pure (And.intro rfl h)))))
inductive CI (w : World) (b : Nat) (FR : List FP) (κ : Pl) (O : Oj) (s : Shared) (I : Addr) (H : List Addr) (m : Nat) (obF : List C) (OF : Oj) (F' : List Fr) (P : Src → List Fr → Oj → Prop) : Shared → Prop
 | mk {src : Src} {f : Fr} {κ1 : Pl} {O1 : Oj} {s1 : Shared} (h : P src (f :: F') O1) (T : Turn w b FR κ O s src I H (f :: F') O1 κ1 s1) (mF : Mono m OF O1) (hm : m ≤ O1.length) (pF : obF <+: κ1.ob) : CI w b FR κ O s I H m obF OF F' P s1
inductive CE (w : World) (b : Nat) (FR : List FP) (κ : Pl) (O : Oj) (s : Shared) (m : Nat) (obF : List C) (OF : Oj) (F' : List Fr) (Q : Oj → Prop) : Shared → Prop
 | mk {f : Fr} {κ2 : Pl} {O2 : Oj} {s2 : Shared} (q : Q O2) (g : GoF w (HW w) b FR κ O s κ2 (f :: F') O2 s2) (mF : Mono m OF O2) (pF : obF <+: κ2.ob) : CE w b FR κ O s m obF OF F' Q s2
theorem comp_loop (S : Snd w n J) (ok : Ok A n) (R0 : RelW w κ F O s.heap) (ER : EnvR w FR env) {Q : Oj → Prop} {obF : List C} (hD : obF[m]? = some (.obj D)) (hb : b ≤ m) (ht : TgtOk I H tgt) {k : Nat} {F' : List Fr}
 (h : CI w b FR κ O s I H m obF OF F' (compW J tgt ifs elt m Q k) s1) :
 codeAny (MW w) A (.compLoop (.ListComp elt [⟨tgt, iter, ifs, 0⟩] scope pos) 0 (.ref I) (.ref D) env) (fun r s' => match r with | .ok f => CE w b FR κ O s m obF OF F' Q s' | .error _ => False) s1 := by
 refine codeAny_loop rfl (fun k => CI w b FR κ O s I H m obF OF F' (compW J tgt ifs elt m Q k)) (fun k s1 h => ?_) k h
 obtain ⟨h, T, mF, hm, pF⟩ := h
 cases k with
 | zero => exact False.elim h
 | succ k =>
  show wpAny _ A ((compTurn (.ListComp elt [⟨tgt, iter, ifs, 0⟩] scope pos) 0 (.ref I) (.ref D) env).onRaise (fun x => do noteFrame x env; theTreesLotGoes x)) _ _ _
  refine wpAny_noted ?_
  rw [compTurn_one]
  refine wpAny_bind (wpAny_standAt (wpAny_bind (T.step R0 ok.hd ht h (fun q e0 g => wpAny_pure (.mk q g mF (e0 ▸ pF))) fun q hs => wpAny_bind (wpAny_mono hs (fun _ s3 T3 => ?_) fun _ _ e => e))))
  obtain ⟨T3, rv⟩ := T3
  obtain ⟨F2, h3, q⟩ := q.out
  obtain ⟨f2, rfl⟩ := setTgt_tail h3
  have t3 : St w A n m _ _ _ s3 env := ⟨ok, T3.go.rel, T3.go.frs.symm ▸ ER, hm⟩
  refine wpAny_bind (setTgt_sound t3 h3 rv fun s4 g4 => wpAny_bind (End.seq (tests_sound S ifs q (t3.next g4)) fun {u κ5 O5 cb s5} q5 g5 r5 => ?_))
  cases r5
  have t5 := (t3.next g4).next g5
  have T5 := (T3.on (g4.low hb)).on (g5.low hb)
  have m5 := mF.trans (g4.trans g5).mono
  have p5 := pF.trans (g4.trans g5).ext.pre
  cases u with
  | false => exact wpAny_pure ⟨rfl, k, lt_succ_self k, .mk q5 T5 m5 t5.le p5⟩
  | true =>
   refine wpAny_bind (wpAny_bind (End.seq (S.e q5 t5) fun {v κ6 O6 ce s6} q6 g6 r6 => wpAny_bind ?_))
   obtain ⟨O7, h7, q7⟩ := q6.out
   have p6 := p5.trans g6.ext.pre
   refine append_sound g6.rel h7 (pre_get p6 hD) r6 fun s7 g7 => wpAny_pure (wpAny_pure ⟨rfl, k, lt_succ_self k, .mk q7 ((T5.on (g6.low hb)).on (g7.low hb)) (m5.trans (g6.trans g7).mono) ((t5.next g6).next g7).le (p6.trans g7.ext.pre)⟩)
theorem Rel.pop {h0 h : Heap} {f : Fr} {r : List FP} (R : Rel w h0 κ (f :: F) O h) (e : κ.fr = p :: r) : Rel w h0 ⟨r, κ.ob, p.addrs ++ κ.hid⟩ F O h ∧ Ext h κ h ⟨r, κ.ob, p.addrs ++ κ.hid⟩ ∧ (∀ a, a ∈ κ.mt → a ∈ (Pl.mt ⟨r, κ.ob, p.addrs ++ κ.hid⟩)) := by
 have pm : (r.flatMap FP.addrs ++ ((p.addrs ++ κ.hid) ++ κ.ob.map C.addr)).Perm κ.mt := by
  rw [Pl.mt, e, flatMap_cons, append_assoc p.addrs κ.hid, append_assoc p.addrs (r.flatMap _)]
  exact List.perm_append_comm_assoc _ _ _
 have x : Ext h κ h ⟨r, κ.ob, p.addrs ++ κ.hid⟩ := ⟨prefix_rfl, fun _ _ e _ => e, fun b hb hn => absurd (pm.mem_iff.mp hb) hn⟩
 have fl := R.flen
 rw [e] at fl
 exact ⟨{ R with
  flen := Nat.succ.inj fl
  off := fun a ha => R.off a (pm.mem_iff.mp ha)
  nd := pm.nodup_iff.mpr R.nd
  ex := fun a ha => R.ex a (pm.mem_iff.mp ha)
  objs := fun i o c e e' => ObjR_mono x (fun _ e => e) (R.objs i o c e e')
  frs := fun i f q e1 e2 => FrameR_mono x (fun r1 z => (List.suffix_cons_iff.mp (e ▸ z)).elim (fun z => nomatch fr_inj (fr_nd R.nd) (show κ.fr[0]? = some p by rw [e]; rfl) (show κ.fr[i + 1]? = some q by rw [e]; exact e2) (mem_cons_self ..) (by rw [(List.cons.inj z).1]; exact mem_cons_self ..)) id) (fun _ _ _ e => e) (R.frs (i + 1) f q e1 (e ▸ e2)) }, x, fun a h => pm.mem_iff.mpr h⟩
set_option tactic.hygienic true in
theorem comp_rest (S : Snd w n J) (ok : Ok A n) (R0 : RelW w κ F O s.heap) {Q : V → Oj → Prop} {cenv : Env} {κ2 : Pl} (T : Turn w b κ.fr κ O s src I H F O1 κ1 s1) (g2 : GoW w b κ1 O1 s1 κ2 F (O1 ++ [.list []]) s2)
 (hD : κ2.ob[O1.length]? = some (.obj D)) (hb : b ≤ O1.length) (ht : TgtOk I H tgt) (EC : EnvR w (newFP s2.heap scope.names false 0 :: κ.fr) cenv) (q : compW J tgt ifs elt O1.length (lcEnd O1.length Q) 300 src (⟨scope.names, pad scope.names [], false, 0, none⟩ :: F) (O1 ++ [.list []]))
 {P : Shared → Prop} (fin : ∀ {v κ' O' s'}, Q v O' → GoW w b κ O s κ' F O' s' → RV s'.heap κ' v (.ref D) → s2.heap.objs.size ∈ κ'.hid → s.heap.get? s2.heap.objs.size = none → (∃ m, s'.heap.Ns s2.heap.objs.size m) → P s') :
 codeAny (MW w) A (.compStart (.ListComp elt [⟨tgt, iter, ifs, 0⟩] scope pos) 0 (.ref I) (.ref D) cenv) (fun r s' => match r with | .ok _ => P s' | .error _ => False) { s2 with heap := layHeap s2.heap (.type "dict") scope.names } := by
 have T2 := T.on g2
 have kk := lay_keeps s2.heap (.type "dict") scope.names
 obtain ⟨R3, x3⟩ := T2.go.rel.lay scope.names (.type "dict") false 0 (κ' := ⟨newFP s2.heap scope.names false 0 :: κ2.fr, κ2.ob, κ2.hid⟩) (F2 := F) (P2 := κ2.fr) rfl rfl (append_assoc ..) T2.go.rel.flen (fun q _ r z => z.trans (List.suffix_cons ..)) fun i f q e e' => T2.go.rel.frs i f q e e'
 have T3 : Turn w b (newFP s2.heap scope.names false 0 :: κ.fr) κ O s src I H (⟨scope.names, pad scope.names [], false, 0, none⟩ :: F) (O1 ++ [.list []]) ⟨newFP s2.heap scope.names false 0 :: κ2.fr, κ2.ob, κ2.hid⟩ { s2 with heap := layHeap s2.heap (.type "dict") scope.names } :=
  ⟨⟨R3.relook (f' := ⟨scope.names, pad scope.names [], false, 0, none⟩) rfl rfl rfl rfl fun x => (pad_get _ x _ _ _ []).symm, T2.go.ext.trans x3, congrArg (_ :: ·) T2.go.frs, T2.go.rest, T2.go.mono, fun a h => ⟨(T2.go.hid a h).1, fun o e => kk a o ((T2.go.hid a h).2 o e)⟩⟩, T2.src.go x3 (fun a h => ⟨h, fun o e => kk a o e⟩) T2.hid, T2.new, T2.hid⟩
 refine compStart_any rfl T3.src ok.hd (codeAny_mono (comp_loop S ok R0 EC hD hb ht (.mk q T3 (Mono.refl _ _) (by rw [length_append]; exact le_add_right _ _) prefix_rfl)) fun r s' hr => ?_)
 cases r with
 | error e => exact hr.elim
 | ok f =>
  obtain ⟨q, g, mF, pF⟩ := hr
  rename_i fe κe Oe
  obtain ⟨l, hl, q⟩ := q.out
  obtain ⟨R4, x4, mt4⟩ := g.rel.pop g.frs
  have hDe := pre_get pF hD
  have nC : s.heap.get? s2.heap.objs.size = none := Go.old T2.go (new_none (le_refl _))
  obtain ⟨m, hm, _⟩ := (g.rel.frs 0 fe (newFP s2.heap scope.names false 0) rfl (by rw [g.frs]; rfl)).loc
  obtain ⟨a, vals, ea, _, hp, rs⟩ := g.rel.list hl ⟨D, rfl, hDe⟩
  cases ea
  cases hpu : pures l with
  | false =>
   rw [hpu] at q
   exact fin q ⟨R4, g.ext.trans x4, rfl, g.rest, g.mono, fun a h => ⟨mem_append_right _ (g.hid a h).1, (g.hid a h).2⟩⟩ ⟨_, rfl, hDe⟩ (mem_cons_self ..) nC ⟨m, hm⟩
  | true =>
   rw [hpu] at q
   have p1 := g2.ext.pre.trans pF
   have C5 : Cut ⟨κ.fr, κ1.ob, (newFP s2.heap scope.names false 0).addrs ++ κe.hid⟩ ⟨κ.fr, κe.ob, (newFP s2.heap scope.names false 0).addrs ++ κe.hid⟩ := Cut.of R4.nd p1 fun a h => h
   have len := T.go.rel.len
   have R5 := R4.cutTo C5 (R4.nd.sublist ((Sublist.refl _).append ((Sublist.refl _).append (p1.sublist.map _)))) (fun i o hi e => by
    have hi' : i < O1.length := len ▸ hi
    obtain ⟨c, _, r⟩ := T.go.rel.get (getElem?_eq_getElem hi')
    obtain ⟨o', e', k⟩ := mF i _ hi' (by rw [getElem?_append_left hi']; exact getElem?_eq_getElem hi')
    cases e.symm.trans e'
    have u := ObjR_under r
    exact k _ u) T.go.rel.tab R4.flen fun i f p e e' => FrameR_cut C5 (κ0 := κ1) rfl (fun _ z => z) (T.go.rel.frs i f p e (T.go.frs.symm ▸ e')) (R4.frs i f p e e')
   rw [show (Pl.ob ⟨κ.fr, κ1.ob, (newFP s2.heap scope.names false 0).addrs ++ κe.hid⟩).length = O1.length from len] at R5
   refine fin q ⟨R5, ⟨T.go.ext.pre, g.ext.keep, fun b hb hn => (g.ext.trans x4).fresh b (C5.mt b hb) hn⟩, rfl, g.rest, fun i o hi e => ?_, fun a h => ⟨mem_append_right _ (g.hid a h).1, (g.hid a h).2⟩⟩ ⟨_, vals, rfl, hp, C5.off _ _ (le_of_eq len) hDe, RVs_cut C5 (pures_belows hpu) (rMs x4 rs)⟩ (mem_cons_self ..) nC ⟨m, hm⟩
   obtain ⟨o', e', k⟩ := g.mono i o hi e
   exact ⟨o', by rw [List.getElem?_take, if_pos (lt_of_lt_of_le hi hb)]; exact e', k⟩
theorem lc_sound (B : Base w) (S : Snd w n J) {Q : V → Oj → Prop} (h : wLc GG J elt gs scope F b Q O) (t : St w A n b κ F O s env) {P : Value → Shared → Prop}
 (fin : ∀ {v acc C κ' O' s'}, Q v O' → GoW w b κ O s κ' F O' s' → RV s'.heap κ' v acc → C ∈ κ'.hid → s.heap.get? C = none → (∃ m, s'.heap.Ns C m) → compEnd w A E use P acc C s') :
 wpAny (MW w) A (comprehension (.ListComp elt gs scope pos) scope env (firstIterPos gs pos) (newList []) (firstAsync gs) (firstIter gs env) use) P E s := by
 cases gs with
 | nil => exact h.elim
 | cons g gs =>
  cases gs with
  | cons => exact h.elim
  | nil =>
   obtain ⟨tgt, iter, ifs, a⟩ := g
   obtain ⟨hc, h⟩ := h.out
   obtain ⟨hc, hfr⟩ := aB hc
   obtain ⟨ha, hsc⟩ := aB hc
   cases show a = 0 from beq_iff_eq.mp ha
   have hfc := free_cells t.rel t.env hfr
   obtain ⟨hfs, hw⟩ := wSrc_sound (E := E) (P := fun it s₂ => wpAny (MW w) A (newList []) (fun acc s₃ =>
    wpAny (MW w) A (newFunctionEnv scope env.globals (clFrom env scope.names []) [] env.qual none .none (some env)) (fun cenv s₄ =>
     codeAny (MW w) A (.compStart (.ListComp elt [⟨tgt, iter, ifs, 0⟩] scope pos) 0 it acc { cenv with scope := relabel scope env }) (fun r s' => match r with | .ok _ => compEnd w A E use P acc cenv.locals s' | .error _ => False) s₄) E s₃) E s₂) B S h t (fun {src I H κ1 O1 s1} q T ht => by
    refine wpAny_newList ?_ (by show 0 ≤ 16777216; omega)
    obtain ⟨q2, g2, r2⟩ := new_list (b := b) (Q := fun v O2 => v = .ref O1.length ∧ O2 = O1 ++ [.list []]) (vs := []) (cvs := []) T.go.rel ⟨rfl, rfl⟩ RVs_nil
    obtain ⟨rfl, rfl⟩ := q2
    obtain ⟨D, e, hD⟩ := r2
    cases e
    refine wpAny_frame fun cenv hcenv => ?_
    rw [forIn_nil]
    refine wpAny_pure ?_
    exact comp_rest (cenv := { cenv with scope := relabel scope env }) S t.ok t.rel T g2 hD (le_trans t.le (Go.le t.rel T.go)) ht (comp_env t.env hsc hfc rfl (by rw [hcenv]; rfl) (by rw [hcenv]; rfl) (by rw [hcenv]; rfl) (by rw [hcenv]; rfl) (by rw [hcenv]; rfl)) q.is fun q g r hC nC m => by
     rw [show cenv.locals = (pushS s1 { cls := .type "list", data := .seq ([] : List Value).toArray }).heap.objs.size by rw [hcenv]; rfl]
     exact fin q g r hC nC m)
   exact wpAny_comp (g := ⟨tgt, iter, ifs, 0⟩) (gs := []) rfl hfs (closureFor_eq fun x hx hk => let ⟨c, hc, _⟩ := hfc x hx hk; ⟨c, hc⟩) (okScope_is hsc).1 (fun x hx hl => by
    rcases okScope_names hsc x hx with q | q | ⟨_, q⟩
    ·rw [hl] at q; cases q
    ·rw [hl] at q; cases q
    ·rw [hl] at q; exact q) hw
end
end
section
variable {pos : Pos} {cv : Value} {args : Arguments} {body : Expr} {scope : Scope} {cl : List (Str × Addr)} {P : Value → Shared → Prop}
theorem codeAmong_app {a b : Int} {c : Value} (l : List Value) (h : TriplesOk l) (hn : codeAmong pos (l ++ [rawInt a, rawInt b, c]) = some cv) : codeAmong pos l = some cv ∨ cv = c := by
 fun_induction TriplesOk l with
 | case1 =>
  right
  simp only [nil_append, codeAmong, rawInt] at hn
  split at hn
  ·cases hn; rfl
  ·cases hn
 | case2 a' t b' u x rest ih =>
  simp only [cons_append, codeAmong] at hn ⊢
  split at hn
  ·rename_i hc; rw [if_pos hc]; exact .inl hn
  ·rename_i hc; rw [if_neg hc]; exact ih h hn
 | case3 l h1 h2 => exact h.elim
theorem noFree_no {names : Names} (h : noFree names = true) {x : Str × NameKind} (hx : x ∈ names) : x.2 ≠ .free := fun e => by
 have : (names.any fun x => x.2 == .free) = true := any_eq_true.mpr ⟨x, hx, beq_iff_eq.mpr e⟩
 rw [noFree, this] at h
 cases h
theorem set_same {O : Oj} {j : Nat} {o : AObj} (h : O[j]? = some o) : O.set j o = O := by
 apply List.ext_getElem?
 intro i
 by_cases hij : j = i
 ·subst hij; rw [List.getElem?_set_self (List.getElem?_eq_some_iff.mp h).1, h]
 ·rw [getElem?_set_ne hij]
section
variable {w : World} {A : Around} {n b m : Nat} {κ κ1 κ2 : Pl} {F F1 F2 : List Fr} {O O1 O2 OF : Oj} {s s1 s2 : Shared} {env : Env} {J : WI} {E : Value → Shared → Prop}
theorem lamFree_of (R : RelW w κ F O s.heap) (h : lamFree F = true) : lamFreeP κ.fr = true := all_eq_true.mpr fun p hp => by
 obtain ⟨i, hi⟩ := List.mem_iff_getElem?.mp hp
 have hl : i < F.length := R.flen ▸ (List.getElem?_eq_some_iff.mp hi).1
 have e := getElem?_eq_getElem hl
 rw [← (R.frs i _ p e hi).lm]
 exact all_eq_true.mp h _ (mem_of_getElem? e)
theorem Rel.tabAt {k : Nat} {p : Addr} (R : RelW w κ F O s.heap) (hk : κ.ob[k]? = some (.tab p)) : O[k]? = some .tab ∧ ObjR w s.heap κ .tab (.tab p) := by
 have hlt : k < O.length := R.len ▸ (List.getElem?_eq_some_iff.mp hk).1
 have e := getElem?_eq_getElem hlt
 have r := R.objs k _ _ e hk
 cases ho : O[k] with
 | tab => rw [ho] at r e; exact ⟨e, r⟩
 | _ => rw [ho] at r; exact r.elim
theorem lam_made {h' : Heap} {tk : Tok} {cv ctv pm : Value} {q : Str} {nm : Str} (k : ∀ {a s2 o fd}, GoW w b κ O s κ F O s2 → a ∉ κ.mt → s2.heap.get? a = some o → IsLam s2.heap κ args body scope cl o fd → P (.ref a) s2) (g : GoW w b κ O s κ F O { s with heap := h' }) (cr : CodeR h' κ cv) :
 P (.ref h'.objs.size) { s with heap := h'.push { cls := .type "function", data := .func (kla_fn nm q args body scope cl pm cv ctv) }, toks := tk } :=
 have g2 : GoW w b κ O { s with heap := h' } κ F O { s with heap := h'.push { cls := .type "function", data := .func (kla_fn nm q args body scope cl pm cv ctv) }, toks := tk } := Go.grow g.rel (push_keeps _ _) ⟨rfl, rfl, rfl⟩
 k (g.trans g2) g.rel.size_off (get?_push_size _ rfl) ⟨rfl, rfl, rfl, rfl, rfl, rfl, rfl, rfl, rfl, CodeR_mono g2.ext cr, rfl⟩
theorem lam_core (B : Base w) (hcl : closureFor scope env = pure cl) (hc : okLam0 args scope = true) (hlf : lamFree F = true) (t : St w A n b κ F O s env)
 (k : ∀ {a s2 o fd}, GoW w b κ O s κ F O s2 → a ∉ κ.mt → s2.heap.get? a = some o → IsLam s2.heap κ args body scope cl o fd → P (.ref a) s2) : wpAny (MW w) A (eval (.Lambda args body scope pos) env) P noE s := by
 obtain ⟨c, p, hcd, hcd', hp, hpn⟩ := t.env.code (lamFree_of t.rel hlf)
 obtain ⟨kk, hk⟩ := t.rel.tab p hp hpn
 obtain ⟨hσ, ps, hP, htr, hcs⟩ := t.rel.tabAt hk
 have hdef : defaultsOf args env = ([], []) := by
  obtain ⟨hc, _⟩ := aB hc
  obtain ⟨hc, _⟩ := aB hc
  obtain ⟨hc, _⟩ := aB hc
  obtain ⟨hc, _⟩ := aB hc
  obtain ⟨hc, _⟩ := aB hc
  obtain ⟨h1, h2⟩ := aB hc
  obtain ⟨a1, a2, a3, a4, a5, a6, a7⟩ := args
  cases isEmpty_iff.mp h1
  cases isEmpty_iff.mp h2
  rfl
 obtain ⟨mg, hmg, hbm⟩ := B.bmain
 have hgs := hmg.keeps t.rel.base
 obtain ⟨bm, ob, b1, b2, b3, b4, b5, b6⟩ := hbm p hpn
 have hbs : s.heap.BuiltinsAt mg p := ⟨bm, ob, b1, b2, b3, b4, t.rel.base _ _ b5, b6⟩
 have hgp : mainGlobals ≠ p := fun q => by
  obtain ⟨o, _, _, ho, _⟩ := hmg
  rw [q, hpn] at ho; cases ho
 refine kla_eval hdef ?_
 cases hca : codeAmong pos ps.toList with
 | some cv =>
  refine kla_makeFunctionHit (mg := mg) hcl t.env.glob hgs hcd (hcd'.keeps t.rel.base) hP htr hca hbs fun ctv h' tk hk' hsz => ?_
  have g : GoW w b κ O s κ F O { s with heap := h' } := Go.grow t.rel hk' ⟨rfl, rfl, rfl⟩
  exact lam_made k g (CodeR_mono g.ext (hcs _ _ hca))
 | none =>
  refine kla_makeFunction (mg := mg) hcl t.env.glob hgs hcd (hcd'.keeps t.rel.base) hP htr hca hgp hbs fun c' ctv h' tk hx hge hlt hrec htb => ?_
  obtain ⟨c2, oc, vs, t', e2, hoc, hd, hv⟩ := hrec
  cases e2
  have crn : CodeR h' κ (.ref c') := ⟨c', oc, vs, _, t', rfl, fun z => let ⟨o, ho⟩ := t.rel.ex _ z; absurd (lt_size ho) (not_lt.mpr hge), hoc, hd, hv⟩
  obtain ⟨R', x', hh⟩ := t.rel.setO (o' := .tab) hσ hk (fun b ob hn e => hx b ob hn e) ⟨_, htb⟩ fun x => ⟨_, htb, by
   rw [toList_append]; exact TriplesOk_snoc _ _ _ _ htr, fun pos' cv hcv => by
   rw [toList_append] at hcv
   exact (codeAmong_app ps.toList htr hcv).elim (fun q => CodeR_mono x (hcs _ _ q)) fun e => e ▸ crn⟩
  rw [set_same hσ] at R'
  exact lam_made k ⟨R', x', rfl, ⟨rfl, rfl, rfl⟩, Mono.refl _ _, hh⟩ crn
theorem lam_sound (B : Base w) {Q : V → Oj → Prop} (h : Gd (okLam args scope && lamFree F) (Q (.lam args body scope) O)) (t : St w A n b κ F O s env) :
 wpAny (MW w) A (eval (.Lambda args body scope pos) env) (End w b κ F O s RV Q) noE s := by
 obtain ⟨hc, hq⟩ := h.out
 obtain ⟨hc, hlf⟩ := aB hc
 obtain ⟨hc, hnf⟩ := aB hc
 exact lam_core B (by rw [closureFor_eq fun x hx hk => absurd hk (noFree_no hnf hx), clFrom_none _ hnf]) hc hlf t fun g ha ho l => .mk hq g ⟨_, _, _, rfl, ha, ho, l⟩
end
end
section
variable {a e it l : Addr} {items : Array Value}
theorem en_nolen : typeLookup (.type "enumerate") "__len__" = pure none := by rw [typeLookup_type, builtinLookup_eq_fast]; kernel_rfl
theorem en_nohint : typeLookup (.type "enumerate") "__length_hint__" = pure none := by rw [typeLookup_type, builtinLookup_eq_fast]; kernel_rfl
section
variable {prog : Program} {w : World} {A : Around} {E : Value → Shared → Prop} {s : Shared}
theorem alive_some {o : Obj} {Q : Option Obj → Shared → Prop} (ho : s.heap.get? a = some o) (h : Q (some o) s) : wpAny (model prog w) A (loadIfAlive a) Q E s :=
 have h' : Q (s.heap.get? a) s := ho ▸ h
 fun _ _ _ => h'
noncomputable abbrev EnObj (f0 f1 : Value) (it : Addr) (i : Int) (old : Value) : Obj := { cls := .type "enumerate", dict := none, data := .fields #[f0, f1, .ref it, rawInt i, .none, old], slots := #[] }
theorem en_next {t : Bool} {i : Nat} {x old : Value} {oa : Obj} {Q : Option Value → Shared → Prop} (he : s.heap.get? e = some (EnObj (rawInt a) (.bool t) it i old)) (ha : s.heap.get? a = some oa) (hae : a ≠ e) (hai : a ≠ it)
 (hit : s.heap.IsListIter it l i) (hl : s.heap.IsList l items) (hx : items[i]? = some x) (hne : e ≠ it)
 (hQ : ∀ h', h'.get? e = some (EnObj (rawInt a) (.bool true) it ((i : Int) + 1) old) → h'.IsListIter it l (i + 1) → h'.get? s.heap.objs.size = some { cls := .type "tuple", data := .seq #[.int i s.toks, x] } → (∀ b o, b ≠ e → b ≠ it → s.heap.get? b = some o → h'.get? b = some o) → Q (some (.ref s.heap.objs.size)) { s with heap := h', toks := s.toks + 1 }) :
 wpAny (model prog w) A (pyNext (.ref e)) Q E s := by
 have hT : s.TypeIs (.ref e) "enumerate" := ⟨_, he, rfl⟩
 unfold pyNext
 refine wpAny_bind (wpAny_attempt (wpAny_callSpecial?_slot (name := ofString "__next__") hT F.slot_enumerate_next
  (wpAny_call_entry F.slot_enumerate_next hT F.entry_enumerate_next ?_ (F.args_enumerate_next_1 _))))
 obtain ⟨hp, g, d, tk, os⟩ := s
 show wpAny _ _ (field (.ref e) 2 >>= _) _ _ _
 refine wpAny_bind (wpAny_field he rfl (x := .ref it) rfl ?_)
 refine wpAny_bind (wpAny_nextOf_list_item hit hl hx fun h₁ hit₁ hs₁ => ?_)
 replace hs₁ : SameBut it hp h₁ := hs₁
 have he₁ := (hs₁.2 e hne).trans he
 show wpAny _ _ (field (.ref e) 3 >>= _) _ _ ⟨h₁, g, d, tk, os⟩
 refine wpAny_bind (wpAny_field he₁ rfl (x := rawInt i) rfl ?_)
 show wpAny _ _ (field (.ref e) 4 >>= _) _ _ ⟨h₁, g, d, tk, os⟩
 refine wpAny_bind (wpAny_field he₁ rfl (x := .none) rfl ?_)
 show wpAny _ _ (mkInt i >>= _) _ _ ⟨h₁, g, d, tk, os⟩
 refine wpAny_bind (wpAny_mkInt ?_)
 show wpAny _ _ (setField (.ref e) 3 (rawInt ((i : Int) + 1)) >>= _) _ _ ⟨h₁, g, d, tk + 1, os⟩
 refine wpAny_bind (wpAny_setField_rec he₁ (by simp) fun h₂ he₂ hs₂ => ?_)
 replace hs₂ : SameBut e h₁ h₂ := hs₂
 replace he₂ : h₂.get? e = some (EnObj (rawInt a) (.bool t) it ((i : Int) + 1) old) := he₂
 show wpAny _ _ (setField (.ref e) 4 .none >>= _) _ _ ⟨h₂, g, d, tk + 1, os⟩
 refine wpAny_bind (wpAny_setField_rec he₂ (by simp) fun h₃ he₃ hs₃ => ?_)
 replace hs₃ : SameBut e h₂ h₃ := hs₃
 replace he₃ : h₃.get? e = some (EnObj (rawInt a) (.bool t) it ((i : Int) + 1) old) := he₃
 show wpAny _ _ (newTuple [.int i tk, x] >>= _) _ _ ⟨h₃, g, d, tk + 1, os⟩
 have hsz : h₃.objs.size = hp.objs.size := by rw [hs₃.1, hs₂.1, hs₁.1]
 have hel : e < hp.objs.size := lt_size he
 have kk : ∀ b o, b ≠ e → b ≠ it → hp.get? b = some o → h₃.get? b = some o := fun b o hbe hbi hb => hs₃.extBut b o hbe (hs₂.extBut b o hbe (hs₁.extBut b o hbi hb))
 have hit₃ : h₃.IsListIter it l (i + 1) := (hit₁.extBut hs₂.extBut (Ne.symm hne)).extBut hs₃.extBut (Ne.symm hne)
 refine wpAny_bind (wpAny_newTuple ?_)
 rw [hsz]
 have he₄ : (h₃.push { cls := .type "tuple", data := .seq #[.int i tk, x] }).get? e = _ := get?_push_of_some _ he₃
 have ht₄ : (h₃.push { cls := .type "tuple", data := .seq #[.int i tk, x] }).get? hp.objs.size = _ := hsz ▸ get?_push_size h₃ rfl
 have kk₄ : ∀ b o, b ≠ e → b ≠ it → hp.get? b = some o → (h₃.push { cls := .type "tuple", data := .seq #[.int i tk, x] }).get? b = some o := fun b o hbe hbi hb => get?_push_of_some _ (kk b o hbe hbi hb)
 have hit₄ : (h₃.push { cls := .type "tuple", data := .seq #[.int i tk, x] }).IsListIter it l (i + 1) := hit₃.at fun o e => get?_push_of_some _ e
 generalize h₃.push { cls := .type "tuple", data := .seq #[.int i tk, x] } = h₄ at he₄ ht₄ kk₄ hit₄
 show wpAny _ _ (Builtin.SmallTypes.ownedTupleIsFree (.ref e) >>= _) _ _ ⟨h₄, g, d, tk + 1, os⟩
 refine wpAny_bind ?_
 unfold Builtin.SmallTypes.ownedTupleIsFree
 refine wpAny_bind (wpAny_field he₄ rfl (x := rawInt a) rfl ?_)
 show wpAny _ _ (loadIfAlive ((a : Int).toNat) >>= _) _ _ _
 rw [Int.toNat_natCast]
 refine wpAny_bind (alive_some (s := ⟨h₄, g, d, tk + 1, os⟩) (kk₄ a oa hae hai ha) ?_)
 simp only [Option.isNone_some, false_eq_true, if_false]
 refine wpAny_bind (wpAny_field he₄ rfl (x := .bool t) rfl ?_)
 cases t with
 | true =>
  rw [if_neg (show ¬ ((Value.bool true != Value.bool true) = true) from Bool.false_ne_true)]
  refine wpAny_pure ?_
  simp only [false_eq_true, if_false]
  exact wpAny_pure ⟨_, rfl, wpAny_pure (hQ h₄ he₄ hit₄ ht₄ kk₄)⟩
 | false =>
  rw [if_pos (show (Value.bool false != Value.bool true) = true from rfl)]
  refine wpAny_bind (wpAny_setField_rec he₄ (by simp) fun h₅ he₅ hs₅ => ?_)
  replace hs₅ : SameBut e h₄ h₅ := hs₅
  refine wpAny_pure ?_
  simp only [false_eq_true, if_false]
  exact wpAny_pure ⟨_, rfl, wpAny_pure (hQ h₅ he₅ (hit₄.extBut hs₅.extBut (Ne.symm hne)) (hs₅.extBut _ _ (ne_of_gt hel) ht₄) fun b o hbe hbi hb => hs₅.extBut b o hbe (kk₄ b o hbe hbi hb))⟩
structure EnSt (h0 h : Heap) (S e it l : Addr) (items acc : Array Value) (i c : Nat) : Prop where
 en : ∃ f0 f1 old, h.get? e = some (EnObj f0 f1 it i old) ∧ (i = 0 ∧ f0 = .none ∧ f1 = .bool false ∨ ∃ (a : Addr) (oa : Obj) (t : Bool), f0 = rawInt a ∧ f1 = .bool t ∧ a ≠ e ∧ a ≠ it ∧ a ≠ S ∧ h.get? a = some oa)
 iter : h.IsListIter it l i
 lst : h.IsList l items
 mk' : h.get? S = some { cls := .type "list", dict := none, data := .seq acc c, slots := #[] }
 len : acc.size = i
 tup : ∀ j x, j < i → items[j]? = some x → ∃ (a : Addr) (t : Tok), acc[j]? = some (.ref a) ∧ S < a ∧ h.get? a = some { cls := .type "tuple", data := .seq #[.int j t, x] }
 old : ∀ b o, b < it → h0.get? b = some o → h.get? b = some o
theorem en_loop {R : Result → Shared → Prop} {h0 : Heap} {S : Addr} (hh : A.handled = none) (hie : it < e) (heS : e < S) (hli : l < it) (hn : items.size ≤ sizeLine) (res : Value)
 (hR : ∀ h' tk acc c, (∀ b o, b < it → h0.get? b = some o → h'.get? b = some o) → h'.get? S = some { cls := .type "list", dict := none, data := .seq acc c, slots := #[] } → acc.size = items.size →
  (∀ (j : Nat) (x : Value), items[j]? = some x → ∃ (a : Addr) (t : Tok), acc[j]? = some (.ref a) ∧ S < a ∧ h'.get? a = some { cls := .type "tuple", data := .seq #[.int j t, x] }) → R (.ok (.ret res)) { s with heap := h', toks := tk }) :
 ∀ (k i : Nat) (h : Heap) (tk c : Nat) (acc : Array Value), items.size - i = k → i ≤ items.size → EnSt h0 h S e it l items acc i c →
  codeAny (model prog w) A (.builtin "list.extend.loop" ⟨[.ref S, .ref e, res], []⟩) R { s with heap := h, toks := tk } := by
 have nSe : S ≠ e := ne_of_gt heS
 have nSi : S ≠ it := ne_of_gt (lt_trans hie heS)
 have nSl : S ≠ l := ne_of_gt (lt_trans hli (lt_trans hie heS))
 have nei : e ≠ it := ne_of_gt hie
 have off : ∀ {b}, b < it → b ≠ e ∧ b ≠ it ∧ b ≠ S := fun {b} q => by
  exact ⟨ne_of_lt (lt_trans q hie), ne_of_lt q, ne_of_lt (lt_trans q (lt_trans hie heS))⟩
 intro k
 induction k with
 | zero =>
  intro i h tk c acc hk hi st
  cases Nat.le_antisymm hi (Nat.le_of_sub_eq_zero hk)
  obtain ⟨f0, f1, old, he, hf⟩ := st.en
  refine codeAny_builtin F.entry_extend_loop ?_
  rw [Around.under_plainId F.plain_extend_loop _]
  show wpAny _ A.in1 (pyNext (.ref e) >>= _) _ _ _
  have hT : Shared.TypeIs { s with heap := h, toks := tk } (.ref e) "enumerate" := ⟨_, he, rfl⟩
  refine wpAny_bind ?_
  unfold pyNext
  refine wpAny_bind (wpAny_attempt (wpAny_callSpecial?_slot (name := ofString "__next__") hT F.slot_enumerate_next
   (wpAny_call_entry F.slot_enumerate_next hT F.entry_enumerate_next ?_ (F.args_enumerate_next_1 _))))
  show wpAny _ _ (field (.ref e) 2 >>= _) _ _ _
  refine wpAny_bind (wpAny_field (s := { s with heap := h, toks := tk }) he rfl (x := .ref it) rfl ?_)
  refine wpAny_bind (wpAny_nextOf_list_end (s := { s with heap := h, toks := tk }) hh st.iter st.lst (getElem?_eq_none (le_refl _)) fun h' y he' hx' => ?_)
  obtain ⟨o, ho, hc⟩ := hx'
  refine wpAny_bind (wpAny_isInstance (T := "StopIteration") (b := true) ⟨o, ho, hc⟩ isSubtype_stop ?_)
  refine wpAny_pure (wpAny_pure (hR h' tk acc c (fun b o q z => he' b o (off q).2.1 (st.old b o q z)) (he' _ _ nSi st.mk') st.len fun j x hx => ?_))
  obtain ⟨a, t, e1, e2, e3⟩ := st.tup j x (Array.getElem?_eq_some_iff.mp hx).1 hx
  exact ⟨a, t, e1, e2, he' a _ (ne_of_gt (lt_trans hie (lt_trans heS e2))) e3⟩
 | succ k ih =>
  intro i h tk c acc hk hi st
  have hlt : i < items.size := Nat.lt_of_sub_pos (hk ▸ succ_pos k)
  obtain ⟨x, hx⟩ : ∃ x, items[i]? = some x := ⟨items[i], Array.getElem?_eq_getElem hlt⟩
  obtain ⟨f0, f1, old, he, hf⟩ := st.en
  refine codeAny_builtin F.entry_extend_loop ?_
  rw [Around.under_plainId F.plain_extend_loop _]
  show wpAny _ A.in1 (pyNext (.ref e) >>= _) _ _ _
  have go : ∀ h' tk' f0' f1' old', h'.get? e = some (EnObj f0' f1' it ((i : Int) + 1) old') → (∃ (a : Addr) (oa : Obj) (t : Bool), f0' = rawInt a ∧ f1' = .bool t ∧ a ≠ e ∧ a ≠ it ∧ a ≠ S ∧ h'.get? a = some oa) → h'.IsListIter it l (i + 1) → h'.get? h.objs.size = some { cls := .type "tuple", data := .seq #[.int i tk, x] } → (∀ b o, b ≠ e → b ≠ it → h.get? b = some o → h'.get? b = some o) →
   wpAny (model prog w) A.in1 (updateSeq S (·.push (Value.ref h.objs.size)) >>= fun _ => again (.builtin "list.extend.loop" ⟨[.ref S, .ref e, res], []⟩)) (fun fin s' => match fin with | .done f => R (.ok f) s' | .again c' => c'.quiet = true ∧ codeAny (model prog w) A c' R s') (fun e s' => R (.error e) s') { s with heap := h', toks := tk' } := by
   intro h' tk' f0' f1' old' he' hf' hit' ht' kk
   have hS' := kk S _ nSe nSi st.mk'
   have up : ∀ b o, b ≠ S → h'.get? b = some o → (h'.update S (Obj.mapSeq (·.push (Value.ref h.objs.size)))).get? b = some o := fun b o hb z => (Heap.get?_update_other _ _ (Ne.symm hb)).trans z
   have hSl : S < h.objs.size := lt_size st.mk'
   refine wpAny_bind (wpAny_updateSeq hS' rfl (wpAny_pure ⟨plainId_quiet F.plain_extend_loop _, ih (i + 1) _ tk' _ (acc.push (Value.ref h.objs.size)) (by rw [Nat.sub_succ, hk]; rfl) hlt ⟨?_, ?_, ?_, get?_update_self _ hS' rfl, by rw [Array.size_push, st.len], ?_, ?_⟩⟩) (by rw [st.len]; exact le_trans hi hn) (by show (acc.push (Value.ref h.objs.size)).size ≤ sizeLine + 1; rw [Array.size_push, st.len]; exact succ_le_succ (le_trans hi hn)))
   ·obtain ⟨a, oa, t, e1, e2, e3, e4, e5, e6⟩ := hf'
    exact ⟨f0', f1', old', up _ _ nSe.symm he', .inr ⟨a, oa, t, e1, e2, e3, e4, e5, up a oa e5 e6⟩⟩
   ·exact hit'.at fun o z => up _ _ nSi.symm z
   ·exact st.lst.at fun o z => up _ _ nSl.symm (kk _ _ (ne_of_lt (lt_trans hli hie)) (ne_of_lt hli) z)
   ·intro j y hj hy
    rcases lt_or_ge j i with h1 | h1
    ·obtain ⟨a, t, e1, e2, e3⟩ := st.tup j y h1 hy
     exact ⟨a, t, by rw [Array.getElem?_push_lt (st.len.symm ▸ h1)]; exact (Array.getElem?_eq_getElem (st.len.symm ▸ h1)).symm.trans e1, e2, up a _ (ne_of_gt e2) (kk a _ (ne_of_gt (lt_trans heS e2)) (ne_of_gt (lt_trans hie (lt_trans heS e2))) e3)⟩
    ·cases Nat.le_antisymm h1 (le_of_lt_succ hj)
     cases Option.some.inj (hx.symm.trans hy)
     exact ⟨_, tk, by rw [← st.len]; exact Array.getElem?_push_size, hSl, up _ _ (ne_of_gt hSl) ht'⟩
   ·exact fun b o q z => let ⟨q1, q2, q3⟩ := off q; up b o q3 (kk b o q1 q2 (st.old b o q z))
  have nz := lt_size he
  have nzi : it < h.objs.size := lt_trans hie nz
  have nzS : S < h.objs.size := lt_size st.mk'
  rcases hf with ⟨rfl, rfl, rfl⟩ | ⟨a, oa, t, rfl, rfl, ha1, ha2, ha3, ha4⟩
  ·exact wpAny_bind (wpAny_pyNext_enum_item (s := { s with heap := h, toks := tk }) he st.iter st.lst hx nei fun h' he' hit' ht' _ kk => go h' _ _ _ _ he' ⟨_, _, false, rfl, rfl, ne_of_gt nz, ne_of_gt nzi, ne_of_gt nzS, ht'⟩ hit' ht' kk)
  ·exact wpAny_bind (en_next (s := { s with heap := h, toks := tk }) he ha4 ha1 ha2 st.iter st.lst hx nei fun h' he' hit' ht' kk => go h' _ _ _ _ he' ⟨a, oa, true, rfl, rfl, ha1, ha2, ha3, kk a oa ha1 ha2 ha4⟩ hit' ht' kk)
theorem call_list_enum {Q : Value → Shared → Prop} (hh : A.handled = none) (hie : it < e) (hli : l < it) (he : IsEnum s.heap e it 0 .none) (hit : s.heap.IsListIter it l 0) (hl : s.heap.IsList l items) (hn : items.size ≤ sizeLine)
 (hQ : ∀ h' tk acc c, (∀ b o, b < it → s.heap.get? b = some o → h'.get? b = some o) → h'.get? s.heap.objs.size = some { cls := .type "list", dict := none, data := .seq acc c, slots := #[] } → acc.size = items.size →
  (∀ (j : Nat) (x : Value), items[j]? = some x → ∃ (a : Addr) (t : Tok), acc[j]? = some (.ref a) ∧ s.heap.objs.size < a ∧ h'.get? a = some { cls := .type "tuple", data := .seq #[.int j t, x] }) → Q (.ref s.heap.objs.size) { s with heap := h', toks := tk }) :
 wpAny (model prog w) A (call (.type "list") [.ref e] []) Q E s := by
 have hel : e < s.heap.objs.size := lt_size he
 refine callType_codes (Q₁ := fun obj s₁ => obj = .ref s.heap.objs.size ∧ s₁ = { s with heap := s.heap.push { cls := .type "list", data := .seq #[] } }) F.called_list (F.typeCall_list_1 _) F.entry_list_init
  (code_list_new _ ⟨rfl, rfl⟩) fun obj s₁ h₁ => ?_
 obtain ⟨rfl, rfl⟩ := h₁
 have hS : (s.heap.push { cls := .type "list", data := .seq #[] }).get? s.heap.objs.size = some { cls := .type "list", data := .seq #[] } := get?_push_size _ rfl
 refine ⟨⟨_, hS, rfl⟩, F.args_list_init_2 _ _, ?_⟩
 show wpAny _ _ (do let old ← Builtin.List.listItems (.ref s.heap.objs.size); Builtin.List.listUpdate (.ref s.heap.objs.size) (fun _ => #[]); letGo old.toList.reverse; Builtin.List.listExtendWith (.ref s.heap.objs.size) (.ref e) .none) _ _ _
 refine wpAny_bind ?_
 unfold Builtin.List.listItems
 refine wpAny_bind (wpAny_seqItems hS rfl (wpAny_pure ?_))
 show wpAny _ _ (updateSeq s.heap.objs.size (fun _ => #[]) >>= fun _ => letGo (#[] : Array Value).toList.reverse >>= fun _ => Builtin.List.listExtendWith (.ref s.heap.objs.size) (.ref e) .none) _ _ _
 refine wpAny_bind (wpAny_updateSeq hS rfl ?_)
 have hS₂ := get?_update_self (Obj.mapSeq (fun _ => (#[] : Array Value))) hS rfl
 have oth : ∀ b o, s.heap.get? b = some o → ((s.heap.push { cls := .type "list", data := .seq #[] }).update s.heap.objs.size (Obj.mapSeq (fun _ => (#[] : Array Value)))).get? b = some o :=
  fun b o z => (Heap.get?_update_other _ _ (Ne.symm (ne_of_lt (lt_size z)))).trans (get?_push_of_some _ z)
 refine wpAny_bind (wpAny_letGo ?_)
 generalize (s.heap.push { cls := .type "list", data := .seq #[] }).update s.heap.objs.size (Obj.mapSeq (fun _ => (#[] : Array Value))) = h1 at hS₂ oth
 have he1 := oth _ _ he
 have hT : Shared.TypeIs { s with heap := h1 } (.ref e) "enumerate" := ⟨_, he1, rfl⟩
 unfold Builtin.List.listExtendWith
 refine wpAny_bind (wpAny_typeOf (T := "enumerate") hT ?_)
 have q1 : Builtin.List.listSameRef (.ref s.heap.objs.size) (.ref e) = false := by simp [Builtin.List.listSameRef, ne_of_gt hel]
 have q2 : (Value.type "enumerate" == Value.type "list") = false := by decide
 have q3 : (Value.type "enumerate" == Value.type "tuple") = false := by decide
 simp only [q1, q2, q3, Bool.or_false, false_eq_true, if_false]
 refine wpAny_bind (wpAny_pyIter_enum (s := { s with heap := h1 }) he1 ?_)
 refine wpAny_bind (wpAny_holding ?_)
 unfold Builtin.List.listLengthHint
 refine wpAny_bind (wpAny_specialOf hT en_nolen ?_)
 show wpAny _ _ (specialOf (Value.ref e) (ofString "__length_hint__") >>= _) _ _ _
 refine wpAny_bind (wpAny_specialOf hT en_nohint ?_)
 refine wpAny_pure ?_
 show wpAny _ _ (rule "list.extend.makes-room" >>= fun _ => Builtin.List.listTouch (.ref s.heap.objs.size) >>= fun _ =>
  again (.builtin "list.extend.loop" ⟨[.ref s.heap.objs.size, .ref e, .none], []⟩)) _ _ _
 refine wpAny_bind (wpAny_rule ?_)
 refine wpAny_bind ?_
 show wpAny _ _ (updateSeq s.heap.objs.size (·.push .none) >>= fun _ => updateSeq s.heap.objs.size (·.pop)) _ _ _
 refine wpAny_bind (wpAny_updateSeq hS₂ rfl ?_)
 have hS₃ := get?_update_self (Obj.mapSeq (·.push Value.none)) hS₂ rfl
 refine wpAny_updateSeq (hz := by seq_fits) hS₃ rfl ?_
 have hS₄ := get?_update_self (Obj.mapSeq (·.pop)) hS₃ rfl
 have oth2 : ∀ b o, s.heap.get? b = some o → ((h1.update s.heap.objs.size (Obj.mapSeq (·.push Value.none))).update s.heap.objs.size (Obj.mapSeq (·.pop))).get? b = some o :=
  fun b o z => have nb := Ne.symm (ne_of_lt (lt_size z)); (Heap.get?_update_other _ _ nb).trans ((Heap.get?_update_other _ _ nb).trans (oth b o z))
 refine wpAny_pure ⟨plainId_quiet F.plain_extend_loop _, en_loop (s := s) (A := A.in1) (h0 := s.heap) (R := wants (fun r s₂ => r = .none ∧ Q (.ref s.heap.objs.size) s₂) E) hh hie hel hli hn .none (fun h' tk acc c k1 k2 k3 k4 => ⟨rfl, hQ h' tk acc c k1 k2 k3 k4⟩) items.size 0 _ s.toks _ #[] rfl (zero_le _)
  ⟨⟨.none, .bool false, .none, oth2 _ _ he, .inl ⟨rfl, rfl, rfl⟩⟩, hit.at fun o z => oth2 _ o z, hl.at fun o z => oth2 _ o z, hS₄, rfl, fun j x hj _ => absurd hj (not_lt_zero _), fun b o _ z => oth2 b o z⟩⟩
end
section
variable {w : World} {A : Around} {b : Nat} {κ : Pl} {Fs : List Fr} {O : Oj} {s : Shared} {E : Value → Shared → Prop} {Q : V → Oj → Prop}
theorem RVs_of {h : Heap} : ∀ {l : List V} {r : List Value}, r.length = l.length → (∀ (j : Nat) v, l[j]? = some v → ∃ c, r[j]? = some c ∧ RV h κ v c) → RVs h κ l r
 | [], r, e, _ => List.length_eq_zero_iff.mp e
 | v :: l, [], e, _ => nomatch e
 | v :: l, c :: r, e, k => by
  obtain ⟨c', e1, rv⟩ := k 0 v rfl
  cases e1
  exact ⟨c, r, rfl, rv, RVs_of (Nat.succ.inj e) fun j v' hj => k (j + 1) v' hj⟩
theorem enum_list_sound {u : V} {l : List V} {cu : Value} (hh : A.handled = none) (h : enumL u = some l) (R : RelW w κ Fs O s.heap) (r : RV s.heap κ u cu) (q : Q (.ref O.length) (O ++ [.list l])) :
 wpAny (MW w) A (call (.type "enumerate") [cu] []) (fun x s1 => wpAny (MW w) A (call (.type "list") [x] []) (End w b κ Fs O s RV Q) E s1) E s := by
 cases u with
 | lst l' =>
  obtain ⟨hc, h⟩ := iS h
  cases h
  obtain ⟨a, vals, rfl, hl, ha, rs⟩ := r
  obtain ⟨nn, hnl⟩ := id hl
  refine call_enumerate_1 hnl fun h' he hit hsz hk => call_list_enum (s := { s with heap := h' }) hh (lt_succ_self _) (lt_size hnl) he hit ⟨_, hk _ _ hnl, rfl, nn, rfl⟩ (RVs_size rs ▸ le_trans (lenOk_le hc) (by decide)) fun h2 tk acc c k1 k2 k3 k4 => ?_
  have hz : s.heap.objs.size ≤ h'.objs.size := hsz ▸ le_add_right _ _
  have k0 : ∀ b o, s.heap.get? b = some o → h2.get? b = some o := fun b o z => k1 b o (lt_size z) (hk b o z)
  refine new_objA (a := h'.objs.size) (new_none hz) R q k0 ⟨_, k2⟩ fun κ' x hm => ⟨acc, ⟨c, k2⟩, RVs_of (by rw [length_toList, k3, length_map, List.length_zipIdx, RVs_size rs]) fun j v hj => ?_⟩
  rw [getElem?_map, List.getElem?_zipIdx, zero_add, Option.map_map] at hj
  obtain ⟨y, hy, rfl⟩ := map_eq_some_iff.mp hj
  obtain ⟨cy, hcy, ry⟩ := RVs_get rs hy
  obtain ⟨p, t, e1, e2, e3⟩ := k4 j cy (getElem?_toList.symm.trans hcy)
  refine ⟨.ref p, getElem?_toList.trans e1, p, _, rfl, ⟨_, e3⟩, fun z => (hm p z).elim (ne_of_gt e2) fun z => ?_, _, _, rfl, ⟨t, rfl⟩, _, _, rfl, rM x ry, rfl⟩
  obtain ⟨o, ho⟩ := R.ex p z
  exact Nat.lt_irrefl p (lt_of_lt_of_le (lt_size ho) (le_trans hz (le_of_lt e2)))
 | _ => exact nN h
end
end
section
variable {f : Fr} {rF : List Fr} {c : Clo} {h : Heap} {scope : Scope} {Q : V → Oj → Prop} {x : Str} {a : List V} {ca : List Value}
noncomputable abbrev Pl.push (κ : Pl) (p : FP) : Pl := ⟨p :: κ.fr, κ.ob, κ.hid⟩
section
variable {w : World} {A : Around} {n b : Nat} {κ κ2 : Pl} {F F2 : List Fr} {O O2 : Oj} {s s1 s2 : Shared} {env : Env} {J : WI} {E : Value → Shared → Prop} {p : FP}
theorem clo_top (R : RelW w κ (f :: rF) O h) (hc : f.clo = some c) : ∃ p r a o fd cl, κ.fr = p :: r ∧ f.get c.name = some (.opq a) ∧ f.names.lookup c.name = some .local ∧ a ∉ κ.mt ∧ h.get? a = some o ∧ IsLam h κ c.args c.body c.scope cl o fd ∧
 ∀ x, (x, NameKind.free) ∈ c.scope.names → ∃ b, cl.lookup x = some b ∧ cellAt κ.fr c.up x = some b := by
 cases hf : κ.fr with
 | nil => exact nomatch (hf ▸ R.flen)
 | cons p r =>
  have h0 : κ.fr[0]? = some p := by rw [hf]; rfl
  obtain ⟨a, r', o, fd, cl, h1, h2, h3, h4, h5, h6, h7⟩ := ((R.frs 0 f p rfl h0).clo c hc).is
  have e : r' = r := by
   rcases List.suffix_cons_iff.mp (hf ▸ h3) with z | z
   ·exact (List.cons.inj z).2
   ·obtain ⟨j, hj⟩ := List.mem_iff_getElem?.mp (z.subset (mem_cons_self ..))
    exact nomatch fr_inj (j := j + 1) (fr_nd R.nd) h0 (by rw [hf]; exact hj) (mem_cons_self ..) (mem_cons_self ..)
  exact ⟨p, r, a, o, fd, cl, rfl, h1, h2, h4, h5, h6, e ▸ h7⟩
theorem frame_push {A0 : Around} {qual : Str} {func : Option Addr} {code : Value} {lam : Bool} {up : Nat} {cl : List (Str × Addr)} {vars : List (Str × V)} {binds : List (Str × Value)} {Q : Env → Shared → Prop} (R : RelW w κ F O s.heap) (ok : ∀ env, Ok (A.deeper env) n) (ok0 : Ok A n) (hk : scope.kind = .function)
 (k : KsR s.heap κ vars binds) (okv : okVars scope.names vars = true) (hn : (vars.map (·.1)).Nodup) (frees : ∀ x, scope.names.lookup x = some .free → (x, NameKind.cell) ∉ scope.names ∧ ∃ c, cl.lookup x = some c ∧ cellAt κ.fr up x = some c)
 (hcode : lam = false → ∃ c p, code = .ref c ∧ CodeHd (HW w) c p ∧ p < (HW w).objs.size ∧ (HW w).get? p = none)
 (hQ : ∀ {env' s' p}, St w (A.deeper env') n O.length (κ.push p) (⟨scope.names, pad scope.names vars, lam, up, none⟩ :: F) O s' env' → Ext s.heap κ s'.heap (κ.push p) → SameRest s s' → (∀ a ∈ κ.hid, ∀ o, s.heap.get? a = some o → s'.heap.get? a = some o) → Q env' s') :
 wpAny (MW w) A0 (newFunctionEnv scope mainGlobals cl binds qual func code none builtinsNs) Q E s := by
 refine wpAny_frame fun env' he => ?_
 obtain ⟨R1, x1⟩ := R.lay scope.names (.type "frame") lam up (κ' := κ.push (newFP s.heap scope.names lam up)) (F2 := F) (P2 := κ.fr) rfl rfl (append_assoc ..) R.flen (fun q _ r z => z.trans (List.suffix_cons ..)) R.frs
 have kk := lay_keeps s.heap (.type "frame") scope.names
 have hkind : ∀ x, env'.kindOf x = scope.names.lookup x := fun x => by rw [he]; rfl
 have hc : env'.code = code := by rw [he]; rfl
 have ER : EnvR w (κ.push (newFP s.heap scope.names lam up)).fr env' := {
  kind := by rw [he]; exact hk
  glob := by rw [he]; rfl
  blt := by rw [he]; rfl
  code := fun q => hc ▸ hcode (by cases lam with | false => rfl | true => exact ff_ne q)
  top := ⟨_, _, rfl, envT_new (cl := cl) (by rw [he]; rfl) (by rw [he]; rfl) (fun x k hx => ⟨fun _ => (hkind x).trans hx, fun e => .inr ((hkind x).trans (e ▸ hx))⟩) frees⟩ }
 refine wpAny_mono (binds_store (b := O.length) (acc := []) vars (KsR_mono x1 k) okv ⟨ok0, R1, ER, le_refl _⟩) (fun _ s2 g => ?_) fun _ _ e => e
 have R3 := g.rel.relook (f' := ⟨scope.names, pad scope.names vars, lam, up, none⟩) rfl rfl rfl rfl fun x => by
  rw [pad_get]
  show gotv _ = _
  rw [foldl_lookup x vars [] hn]
  cases vars.lookup x <;> rfl
 exact hQ ⟨ok _, R3, ER, le_refl _⟩ (x1.trans g.ext) ⟨g.rest.1, g.rest.2.1, g.rest.2.2⟩ fun a ha o e => (g.hid a ha).2 o (kk a o e)
theorem back_push {f' : Fr} {v v' : V} {cv : Value} (R : RelW w κ F O s.heap) (hb : b ≤ O.length) (x : Ext s.heap κ s1.heap (κ.push p)) (q : SameRest s s1) (kh : ∀ a ∈ κ.hid, ∀ o, s.heap.get? a = some o → s1.heap.get? a = some o) (g : GoW w O.length (κ.push p) O s1 κ2 (f' :: F) O2 s2)
 (h : leave O.length v O2 = some v') (r : RV s2.heap κ2 v cv) (hq : Q v' (O2.take O.length)) : End w b κ F O s RV Q cv s2 := by
 obtain ⟨R4, x4, mt4⟩ := g.rel.pop g.frs
 have C : Cut ⟨κ.fr, κ.ob, p.addrs ++ κ2.hid⟩ ⟨κ.fr, κ2.ob, p.addrs ++ κ2.hid⟩ := Cut.of R4.nd g.ext.pre fun a h => h
 have len := R.len
 have R5 := R4.cutTo C (R4.nd.sublist ((Sublist.refl _).append ((Sublist.refl _).append (g.ext.pre.sublist.map _)))) (fun i o hi e => by
  have hi' : i < O.length := len ▸ hi
  obtain ⟨c, _, r⟩ := R.get (getElem?_eq_getElem hi')
  obtain ⟨o', e', k⟩ := g.mono i _ hi' (getElem?_eq_getElem hi')
  cases e.symm.trans e'
  have u := ObjR_under r
  exact k _ u) R.tab R4.flen fun i f p e e' => FrameR_cut C (κ0 := κ) rfl (fun _ z => z) (R.frs i f p e e') (R4.frs i f p e e')
 rw [show (Pl.ob ⟨κ.fr, κ.ob, p.addrs ++ κ2.hid⟩).length = O.length from len] at R5
 have y := x.trans g.ext
 refine .mk hq ⟨R5, ⟨prefix_rfl, y.keep, fun b hb hn => (y.trans x4).fresh b (C.mt b hb) hn⟩, rfl, ⟨g.rest.1.trans q.1, g.rest.2.1.trans q.2.1, g.rest.2.2.trans q.2.2⟩, fun i o hi e => ?_, fun a ha => ⟨mem_append_right _ (g.hid a ha).1, fun o e => (g.hid a ha).2 o (kh a ha o e)⟩⟩ (freeze_sound R4 C 4 ((show (Pl.ob ⟨κ.fr, κ.ob, p.addrs ++ κ2.hid⟩).length = O.length from len).symm ▸ h) (rM x4 r))
 have hi' := lt_of_lt_of_le hi hb
 obtain ⟨o', e', k⟩ := g.mono i o hi' e
 exact ⟨o', by rw [List.getElem?_take, if_pos hi']; exact e', k⟩
theorem Rel.reclo {r : List Fr} (R : RelW w κ (f :: r) O h) (hp : κ.fr[0]? = some p) (C : CloR h κ f p c) : RelW w κ (⟨f.names, f.vars, f.lam, f.up, some c⟩ :: r) O h :=
 { R with frs := fun i g q e e' => match i, e, e' with
   | 0, rfl, e' => let z := R.frs 0 f q rfl e'; ⟨z.nm, z.lm, z.loc, z.cell, z.up, fun c' hc => by
    cases hc
    cases hp.symm.trans e'
    exact ⟨C.is⟩⟩
   | i + 1, e, e' => R.frs (i + 1) g q e e' }
theorem cloAt_is (h : cloAt F x = some c) : ∃ f r, F = f :: r ∧ f.clo = some c ∧ c.name = x := by
 cases F with
 | nil => exact nN h
 | cons f r =>
  unfold cloAt at h
  cases hf : f.clo with
  | none => simp only [hf] at h; exact nN h
  | some d =>
   simp only [hf] at h
   obtain ⟨e, h⟩ := iS h
   cases h
   exact ⟨f, r, rfl, hf, beq_iff_eq.mp e⟩
theorem callK_sound (B : Base w) (S : Snd w n J) {ad : Addr} {ks : List (Str × V)} {nm : Str} {cks : List (Str × Value)} (h : Lf (GG.fns.lookup ad) fun fi => Lf (bindV fi.params fi.dfl fi.kwd a ks) fun vars => wFnK J fi vars nm c F Q O) (hc0 : cloAt F c.name = some c) (ok : Ok A (n + 1)) (R : RelW w κ F O s.heap) (hb : b ≤ O.length)
 (Ra : RVs s.heap κ a ca) (Rk : KsR s.heap κ ks cks) : wpAny (MW w) A (call (.ref ad) ca cks) (End w b κ F O s RV Q) E s := by
 obtain ⟨fi, h1, h⟩ := h.out
 obtain ⟨vars, h2, h⟩ := h.out
 obtain ⟨hch, hv, hx⟩ := h.out
 obtain ⟨hch, hloc⟩ := aB hch
 obtain ⟨okv, hnf⟩ := aB hch
 obtain ⟨f, rF, rfl, hf, _⟩ := cloAt_is hc0
 obtain ⟨p0, r0, a0, oc, fdc, cl, hfr, g1, g2, g4, g5, g6, g7⟩ := clo_top R hf
 obtain ⟨o, fd, K⟩ := B.fns ad fi h1
 refine wpAny_call (codeAny_call_function ok.room (R.base _ _ K.get) K.data (K.scope.symm ▸ K.cor) (K.scope.symm ▸ K.gen) K.body (K.crec.keeps R.base) ?_)
 refine binds_sound (K.params.symm ▸ h2) Ra Rk ?_ ?_ fun binds kb => ?_
 ·exact K.dfl.imp id fun ⟨t, vals, q1, ⟨ot, hot, r⟩, q3⟩ => ⟨t, vals, q1, ⟨ot, R.base _ _ hot, r⟩, q3 ▸ topVs _⟩
 ·refine K.kwd.imp id fun ⟨d, m, q1, q2, q3⟩ => ⟨d, m, q1, q2.keeps R.base, fun x => ?_⟩
  rw [← q3]
  cases m x with
  | none => trivial
  | some cv => exact topV_is _ _ _
 rw [K.glob, K.blt, K.clos, K.scope]
 refine frame_push (A := A) (n := n) R (fun env => ok.deeper) ok.dn K.kind kb okv (bindV_nodup h2) (fun x hx => absurd rfl (noFree_no hnf (mem_of_lookup hx))) (fun _ => K.code) fun {env' s1 p} t x q kh => ⟨B.nolimit.keeps t.rel.base, codeAny_func (EndS.seq (exs_sound S hx { t with rel := t.rel.reclo rfl ⟨a0, κ.fr, oc, fdc, cl, (pad_get _ _ _ _ _ vars).trans (hv.trans g1), beq_iff_eq.mp hloc, List.suffix_refl _, x.off g5 g4, x.keep _ _ g5 g4, { g6 with code := CodeR_mono x g6.code }, fun y hy => g7 y hy⟩ }) fun {f F2 κ2 O2 cf s2} hq g r => ?_)⟩
 obtain ⟨hF, hq⟩ := hq
 cases F2 with
 | nil => exact nomatch hF
 | cons f' F2 =>
  cases (show F2 = _ from hF)
  cases f with
  | next => cases r; exact back_push (v := .none) R hb x q kh g rfl rfl hq
  | ret v => obtain ⟨cv, rfl, rv⟩ := r; obtain ⟨v', h3, hq⟩ := hq.out; exact back_push R hb x q kh g h3 rv hq
  | _ => exact hq.elim
theorem clo_call (B : Base w) (S : Snd w n J) {cf : Value} (hF : F = f :: rF) (hf : f.clo = some c) (hcf : RV s.heap κ ((f.get c.name).getD .none) cf)
 (h : Lf (bindV c.args [] [] a []) fun vars => Gd (okVars c.scope.names vars && okScope c.scope) (J.e c.body (⟨c.scope.names, pad c.scope.names vars, true, c.up, none⟩ :: F) O.length (fun v O2 => Lf (leave O.length v O2) fun r => Q r (O2.take O.length)) O)) (ok : Ok A (n + 1))
 (R : RelW w κ F O s.heap) (hb : b ≤ O.length) (Ra : RVs s.heap κ a ca) : wpAny (MW w) A (call cf ca []) (End w b κ F O s RV Q) E s := by
 subst hF
 obtain ⟨vars, h2, h⟩ := h.out
 obtain ⟨hch, hx⟩ := h.out
 obtain ⟨okv, hsc⟩ := aB hch
 obtain ⟨s1, s2, s3⟩ := okScope_is hsc
 obtain ⟨p0, r0, a0, o, fd, cl, hfr, g1, g2, g4, g5, K, g7⟩ := clo_top R hf
 rw [g1] at hcf
 obtain ⟨rfl, _⟩ := hcf
 obtain ⟨cc, oc, vs, q, t, k1, k2, k3, k4, k5⟩ := K.code
 refine wpAny_call (codeAny_callE ok.room g5 K.data (K.sc.symm ▸ s3) (K.sc.symm ▸ s2) K.bd k1 k3 k4 k5 ?_)
 refine binds_sound (K.params.symm ▸ h2) Ra (show KsR _ _ [] _ from rfl) (.inl ⟨rfl, K.dfl⟩) (.inl ⟨rfl, K.kwd⟩) fun binds kb => ?_
 rw [K.glob, K.blt, K.clos, K.sc]
 exact frame_push (A := A) (n := n) (lam := true) (up := c.up) R (fun env => ok.deeper) ok.dn s1 kb okv (bindV_nodup h2) (fun x hx => ⟨fun hm => (okScope_names hsc _ hm).elim nofun fun z => z.elim nofun fun z => (nomatch hx.symm.trans z.2), g7 x (mem_of_lookup hx)⟩) nofun fun {env' s1 p} t x q kh => ⟨B.nolimit.keeps t.rel.base, kla_codeExpr (End.seq (S.e hx t) fun {v κ2 O2 cv s2} hq g r => let ⟨v', h3, hq⟩ := hq.out; back_push R hb x q kh g h3 r hq)⟩
theorem assign_clo_sound (B : Base w) {p pos q : Pos} {args : Arguments} {body : Expr} {Q : Fl → List Fr → Oj → Prop} (h : Gd (okLam0 args scope && lamFree F && freeOk F scope.names) (∀ a, Lf (setTop F x (.opq a)) fun F1 => Lf (withClo F1 ⟨x, args, body, scope, 0⟩) fun F2 => Q .next F2 O)) (t : St w A n b κ F O s env) :
 wpAny (MW w) A (exec (.Assign [.Name x p] (.Lambda args body scope q) pos) env) (EndS w b κ O s Q) noE s := by
 obtain ⟨hc, h⟩ := h.out
 obtain ⟨hc, hfo⟩ := aB hc
 obtain ⟨hc, hlf⟩ := aB hc
 have fc := free_cells t.rel t.env hfo
 refine wpAny_Assign_Name (lam_core B (closureFor_eq fun y hy hk => let ⟨c, h1, _⟩ := fc y hy hk; ⟨c, h1⟩) hc hlf t fun {a s2 o fd} g ha ho l => ?_) rfl
 obtain ⟨F1, h1, h⟩ := (h a).out
 obtain ⟨F2, h2, hq⟩ := h.out
 refine setTop_sound (t.next g) h1 ⟨rfl, ha, o, fd, ho, l.data⟩ fun s1 g2 => ?_
 cases F1 with
 | nil => exact nN h2
 | cons f1 r1 =>
  obtain ⟨hl, h2⟩ := iS h2
  cases h2
  have g3 := g.trans g2
  cases hfr : κ.fr with
  | nil => exact nomatch (hfr ▸ g3.rel.flen)
  | cons p0 r0 =>
   have gx : f1.get x = some (.opq a) := by
    cases F with
    | nil => exact nN h1
    | cons f0 r' =>
     obtain ⟨_, h1⟩ := iS h1
     cases h1
     show gotv ((setVar f0.vars x (.opq a)).lookup x) = _
     rw [setVar_lookup, if_pos rfl]; rfl
   exact .mk hq { g3 with rel := g3.rel.reclo (p := p0) (by rw [hfr]; rfl) ⟨a, r0, o, fd, _, gx, beq_iff_eq.mp hl, by rw [hfr]; exact List.suffix_refl _, ha, g2.ext.keep _ _ ho ha, { l with code := CodeR_mono g2.ext l.code }, fun y hy => by
    obtain ⟨c, e1, e2⟩ := fc (y, .free) hy rfl
    exact ⟨c, by rw [clFrom_lookup scope.names (.inl hy), e1]; rfl, hfr ▸ e2⟩⟩ } rfl
end
end
section
variable {pos : Pos} {ks : List Keyword} {Q : V → Oj → Prop} {c : Clo} {x name : Str} {fv : V} {cf : Value} {o e : Expr} {args : List Expr}
structure OpsM (w : World) : Prop where
 slot : ∀ {T name id}, methId name T = some id → PlainAttrs T.ty ∧ Slot T.ty name id ∧ typeOf (.builtin id) = pure (.type "method_descriptor")
 meth : ∀ {A s κ F O O1 b name x a r T id cx ca Q}, methV GG name x a b O = some r → selfTy GG O1 x = some T → methId name T = some id → Ok A 1 → RelW w κ F O s.heap → b ≤ O.length → RV s.heap κ x cx → RVs s.heap κ a ca → Q r.1 r.2 → wpAny (MW w) A (call (.builtin id) (cx :: ca) []) (End w b κ F O s RV Q) noE s
 tabO : ∀ ad, (GG.tabs.lookup ad).isSome = true → ∃ o, (HW w).get? ad = some o ∧ o.cls = .type "dict" ∧ o.dict = none
section
variable {w : World} {A : Around} {n b m : Nat} {κ κ1 κ2 : Pl} {F F1 F2 : List Fr} {O O1 O2 OF : Oj} {s s1 s2 : Shared} {env : Env} {J : WI} {E : Value → Shared → Prop}
theorem args_kw {f : Value} {es : List Expr} {Q : Args → Shared → Prop} (hs : starFree es = true) (hall : (backToKw pos (keywordEach ks env)).all (·.1.isSome) = true)
 (h : wpAny (MW w) A (spliced (backTo pos (starEach es env))) (fun vs s' => wpAny (MW w) A (evalAll ((backToKw pos (keywordEach ks env)).map (·.2))) (fun cs s'' => Q ⟨vs, ((backToKw pos (keywordEach ks env)).filterMap (·.1)).zip cs⟩ s'') E s') E s) :
 wpAny (MW w) A (evalArgs f true (backTo pos (starEach es env)) (backToKw pos (keywordEach ks env))) Q E s := by
 rcases starEach_shape (env := env) (pos := pos) es hs with e | ⟨x, rest, e⟩
 ·rw [e] at h ⊢
  exact evalArgs_kw_nil hall fun Γ p hΓ => (h Γ p hΓ) Γ p hΓ
 ·rw [e] at h ⊢; exact evalArgs_kw hall h
theorem cloOr_is {n m : Str} {r : Option (Str × Clo)} (h : cloOr m (cloAt F x) r = some (n, c)) (k : r = some (n, c) → cloAt F c.name = some c) : cloAt F c.name = some c := by
 cases hc : cloAt F x with
 | none => rw [hc] at h; exact k h
 | some d =>
  rw [hc] at h
  cases h
  obtain ⟨f, r', rfl, _, e⟩ := cloAt_is hc
  rw [e]; exact hc
theorem cloKw_is {n : Str} (ks : List Keyword) : cloKw F ks = some (n, c) → cloAt F c.name = some c := by
 induction ks with
 | nil => exact fun h => nN h
 | cons k r ih =>
  intro h
  obtain ⟨m, _, h⟩ := bS (show (k.arg).bind (fun n => cloKw1 F n k.value (cloKw F r)) = some (n, c) from h)
  cases k with
  | mk arg value pos => cases value <;> first | exact cloOr_is h ih | exact ih h
theorem callFn_sound (S : Snd w n J) {a : Addr} {o : Obj} {fd : FuncData} {pos : Pos} {Q : V → Oj → Prop} (hs : starFree args = true) (hk : (ks.all fun k => k.arg.isSome) = true) (rf : RV s.heap κ fv cf) (hcf : cf = .ref a) (hd : o.data = .func fd)
 (hfd : ∀ {h' κ'}, Ext s.heap κ h' κ' → (∀ b o, (HW w).get? b = some o → h'.get? b = some o) → h'.get? a = some o) (h : wes J.e args F b (fun a O2 => wks J ks F b (fun k O3 => match cloKw F ks with
  | some e => CALLK J fv a k e.1 e.2 F b Q O3
  | none => CALL J fv a k b Q O3) O2) O) (t : St w A n b κ F O s env) :
 wpAny (MW w) A (callWith pos cf [] (backTo pos (starEach args env)) (backToKw pos (keywordEach ks env))) (End w b κ F O s RV Q) noE s := by
 subst hcf
 refine callWith_function_kw (o := o) (fd := fd) (args_kw hs (wks_all ks hk) (End.seq (wes_sound S.e h hs t) fun q g r => End.seq (wks_sound S ks q (t.next g)) fun q2 g2 r2 => ?_))
 have g3 := g.trans g2
 refine ⟨⟨hfd g3.ext g3.rel.base, hd⟩, End.on g3 ?_⟩
 cases hq : cloKw F ks with
 | none => simp only [hq] at q2; exact S.c (q2.is) t.ok g2.rel (t.next g3).le (rM g3.ext rf) (rMs g2.ext r.1) r2
 | some e => obtain ⟨n, c⟩ := e; simp only [hq] at q2; exact S.k (q2.is) (cloKw_is _ hq) t.ok g2.rel (t.next g3).le (rM g3.ext rf) (rMs g2.ext r.1) r2
theorem isListT_is {h : Heap} {f : V} {cv : Value} (hf : isListT f = true) (r : RV h κ f cv) : cv = .type "list" := by
 cases f with
 | cst d =>
  cases d with
  | type t => exact r.trans (congrArg Value.type (beq_iff_eq.mp hf))
  | _ => exact ff_ne hf
 | _ => exact ff_ne hf
theorem enumArg_is {p : Str × Expr} (h : enumArg args = some p) : ∃ a, args = [a] ∧ isEnum a = some p := by
 cases args with
 | nil => exact nN h
 | cons a as => cases as with
  | nil => exact ⟨a, rfl, h⟩
  | cons => exact nN h
theorem callBi_sound (B : Base w) (S : Snd w n J) (hs : starFree args = true) (rf : RV s.heap κ fv cf) (hcf : (∃ id, cf = .builtin id) ∨ ∃ T, cf = .type T)
 (h : wBi GG J fv args F b Q O) (t : St w A n b κ F O s env) : wpAny (MW w) A (callWith pos cf [] (backTo pos (starEach args env)) (backToKw pos (keywordEach [] env))) (End w b κ F O s RV Q) noE s := by
 unfold wBi at h
 cases he : enumArg args with
 | none =>
  rw [he] at h
  have tail : wpAny (MW w) A (spliced (backTo pos (starEach args env))) (fun vs s' => wpAny (MW w) A (call cf vs []) (End w b κ F O s RV Q) noE s') noE s :=
   End.seq (wes_sound S.l h hs t) fun q g r => End.on g (S.c q t.ok g.rel (t.next g).le (rM g.ext rf) r.1 rfl)
  rcases hcf with ⟨id, rfl⟩ | ⟨T, rfl⟩
  ·exact Calls.callWith_builtin (starEach_plain _ hs) (args_of hs tail)
  ·exact PySem.callWith_type (starEach_plain _ hs) (args_of hs tail)
 | some p =>
  rw [he] at h
  obtain ⟨a, rfl, he⟩ := enumArg_is he
  obtain ⟨p1, p2, rfl, hx⟩ := isEnum_is he
  obtain ⟨hc, h3⟩ := h.out
  obtain ⟨hl, hst⟩ := aB hc
  obtain ⟨f, hg, h5⟩ := h3.out
  obtain ⟨hf, h4⟩ := h5.out
  cases isListT_is hl rf
  refine PySem.callWith_type (starEach_plain _ hs) (args_of hs (wpAny_items_cons (wpAny_Call_ofName (End.seq (name_sound (b := b) (Q := fun v O1 => v = f ∧ O1 = O) B t (Gd.of (hx ▸ rfl) (Lf.of hg ⟨rfl, rfl⟩))) fun {v κ1 O1 cv s1} q0 g r => ?_)) (starFree_cons hs).2))
  obtain ⟨rfl, rfl⟩ := q0
  cases isEnumT_is hf r
  refine PySem.callWith_type (starEach_plain [p.2] hst) (args_of hst (wpAny_items_cons (End.seq (S.l h4 (t.next g)) fun {v2 κ2 O2 cv s2} q2 g2 rv => wpAny_items_nil ?_) (starFree_cons hst).2))
  obtain ⟨l, h6, hq⟩ := q2.out
  exact wpAny_mono (enum_list_sound (b := b) (E := noE) t.ok.hd h6 g2.rel rv hq) (fun x s3 h7 => wpAny_items_nil (wpAny_mono h7 (fun y s4 e => e.go (g.trans g2)) fun _ _ e => e)) fun _ _ e => e
theorem callE_sound (B : Base w) (S : Snd w n J) {p : Pos} (h : wCall GG J (.Name x p) args ks pos F b Q O) (t0 : St w A (n + 1) b κ F O s env) :
 wpAny (MW w) A (eval (.Call (.Name x p) args ks pos) env) (End w b κ F O s RV Q) noE s := by
 have t := t0.dn
 cases hcl : cloAt F x with
 | some c =>
  have h : wCallN GG J (cloAt F x) x p args ks F b Q O := h
  rw [hcl] at h
  obtain ⟨hc, h2⟩ := Gd.out h
  obtain ⟨hs, hk⟩ := aB hc
  cases isEmpty_iff.mp hk
  refine wpAny_Call_ofName (End.seq (S.e h2 t) fun {fv κ1 O1 cf s1} q g r => End.on g ?_)
  obtain ⟨hv, q⟩ := q
  obtain ⟨f, rF, hF, hf, hn⟩ := cloAt_is hcl
  have t := t.next g
  have hF' := hF
  subst hF
  obtain ⟨p0, r0, a0, o, fd, cl, hfr, g1, g2, g4, g5, K, g7⟩ := clo_top g.rel hf
  have hv : some fv = f.get x := hv
  rw [← hn, g1] at hv
  cases hv
  obtain ⟨rfl, _⟩ := id r
  refine callWith_function_kw (o := o) (fd := fd) (args_kw hs (wks_all [] rfl) (End.seq (wes_sound S.e q hs t) fun {vs _ _ _ _} q2 g3 r2 => End.seq (wks_sound (Q := fun _ O3 => Lf (bindV c.args [] [] vs []) fun vars => Gd (okVars c.scope.names vars && okScope c.scope) (J.e c.body (⟨c.scope.names, pad c.scope.names vars, true, c.up, none⟩ :: f :: rF) O3.length (fun v O2 => Lf (leave O3.length v O2) fun r => Q r (O2.take O3.length)) O3)) S [] q2 (t.next g3)) fun q4 g5' r4 => ?_))
  have g6 := g3.trans g5'
  exact ⟨⟨g6.ext.keep _ _ g5 g4, K.data⟩, End.on g6 (clo_call B S rfl hf (by rw [g1]; exact rM g6.ext r) q4 t0.ok g5'.rel (t.next g6).le (rMs g5'.ext r2.1))⟩
 | none =>
 have h : wCallN GG J (cloAt F x) x p args ks F b Q O := h
 rw [hcl] at h
 replace h := Gd.out h
 obtain ⟨hc, h⟩ := h
 obtain ⟨hs, hk⟩ := aB hc
 refine wpAny_Call_ofName (End.seq (S.e h t) fun {fv κ1 O1 cf s1} q g r => End.on g ?_)
 obtain ⟨u, h1, q⟩ := q.out
 have t := t.next g
 cases fv with
 | lam as bd sc =>
  cases h1
  obtain ⟨a, o, fd, e, ha, ho, l⟩ := id r
  exact callFn_sound S hs hk r e l.data (fun x _ => x.keep _ _ ho ha) q t
 | cst d =>
  cases d with
  | builtin id => cases h1; obtain ⟨rfl, q⟩ := Gd.nil q; exact callBi_sound B S hs r (.inl ⟨_, r⟩) q t
  | type id => cases h1; obtain ⟨rfl, q⟩ := Gd.nil q; exact callBi_sound B S hs r (.inr ⟨_, r⟩) q t
  | ref ad =>
   obtain ⟨hf, h1⟩ := iS h1
   cases h1
   obtain ⟨fi, hfi⟩ := Option.isSome_iff_exists.mp hf
   obtain ⟨o, fd, K⟩ := B.fns ad fi hfi
   exact callFn_sound S hs hk r r K.data (fun _ k => k _ _ K.get) q t
  | _ => exact nN h1
 | _ => exact nN h1
theorem okBase_pure {whole : Sem Value} (h : okBase o = true) : attributeBase o name env whole = whole := by
 cases o with
 | Call f args ks p =>
  cases f with
  | Name x q =>
   cases args with
   | nil =>
    cases ks with
    | nil => exact ff_ne h
    | cons => rfl
   | cons => rfl
  | _ => rfl
 | _ => rfl
theorem self_type (M : OpsM w) {v : V} {T : MT} {cx : Value} (h : selfTy GG O v = some T) (R : RelW w κ F O s.heap) (r : RV s.heap κ v cx) : s.TypeIs cx T.ty ∧ ∀ a, cx = .ref a → ∃ ob, s.heap.get? a = some ob ∧ ob.dict = none := by
 have lst : ∀ {a : Addr} {vals : Array Value}, s.heap.PlainList a vals → s.TypeIs (.ref a) "list" ∧ ∀ a', Value.ref a = .ref a' → ∃ ob, s.heap.get? a' = some ob ∧ ob.dict = none := fun ⟨_, ho⟩ => ⟨⟨_, ho, rfl⟩, fun a' e => by cases e; exact ⟨_, ho, rfl⟩⟩
 cases v with
 | str l => cases h; obtain ⟨t, rfl⟩ := r; exact ⟨typeIs_str _ _ _, fun _ e => nomatch e⟩
 | lst l => cases h; obtain ⟨a, vals, rfl, hl, _⟩ := r; exact lst hl
 | ref k =>
  obtain ⟨l, h1, h⟩ := mS h
  cases h
  obtain ⟨a, vals, rfl, _, hl, _⟩ := R.list h1 r
  exact lst hl
 | cst d =>
  cases d with
  | ref ad =>
   obtain ⟨ht, h⟩ := iS h
   cases h; cases r
   obtain ⟨ob, hob, hcl, hdi⟩ := M.tabO ad ht
   have ho := R.base _ _ hob
   exact ⟨⟨ob, ho, hcl⟩, fun a' e => by cases e; exact ⟨ob, ho, hdi⟩⟩
  | _ => exact nN h
 | _ => exact nN h
theorem meth_sound (M : OpsM w) (S : Snd w n J) {apos : Pos} (h : wMeth GG J o name apos args pos F b Q O) (t : St w A n b κ F O s env) (ok : Ok A 1) :
 wpAny (MW w) A (eval (.Call (.Attribute o name apos) args [] pos) env) (End w b κ F O s RV Q) noE s := by
 obtain ⟨hc, h⟩ := h.out
 obtain ⟨hc, hlen⟩ := aB hc
 obtain ⟨hc, hs⟩ := aB hc
 obtain ⟨hl, hb⟩ := aB hc
 have hfew : ((backTo pos (starEach args env)).all (fun x => !x.1) && (backToKw pos (keywordEach [] env)).all (fun x => x.1.isSome)
  && decide (args.length + ([] : List Keyword).length + (if ([] : List Keyword).isEmpty then 0 else 1) < 30)) = true := by
  have h1 : (backTo pos (starEach args env)).all (fun x => !x.1) = true := all_eq_true.mpr fun y hy => by
   have := List.any_eq_false.mp (starEach_plain (env := env) (pos := pos) args hs) y hy
   simpa using this
  rw [h1]
  exact decide_eq_true (lt_trans (of_decide_eq_true hlen) (by decide))
 refine wpAny_Call_method_lateS (okBase_pure hb) hfew hl (End.seq (S.e h t) fun {v κ1 O1 cx s1} q g r => ?_)
 obtain ⟨id, h1, q⟩ := q.out
 obtain ⟨T, hT, h1⟩ := bS h1
 obtain ⟨p1, p2, p3⟩ := M.slot h1
 obtain ⟨p4, p5⟩ := self_type M hT g.rel r
 have t1 := t.next g
 have fin : ∀ {cvs s2 κ2 O2 a}, Lf (methV GG name v a b O2) (fun r => Q r.1 r.2) → GoW w b κ1 O1 s1 κ2 F O2 s2 → RVs s2.heap κ2 a cvs → wpAny (MW w) A (call (.builtin id) (cx :: cvs) []) (End w b κ F O s RV Q) noE s2 := fun h g2 ra => let ⟨_, h2, q⟩ := h.out
  End.on (g.trans g2) (M.meth h2 hT h1 ok g2.rel (t1.next g2).le (rM g2.ext r) ra q)
 refine ⟨T.ty, id, p1, p2, p3, p4, p5, Calls.callWith_builtin (starEach_plain _ hs) (args_of hs ?_)⟩
 cases hi : isStr v with
 | true => rw [hi] at q; exact End.seq (wes_sound S.l q hs t1) fun q g2 r2 => fin q g2 r2.1
 | false => rw [hi] at q; exact End.seq (wes_sound S.e q hs t1) fun q g2 r2 => fin q g2 r2.1
theorem Go.touchC {C : Addr} {h' : Heap} (R0 : RelW w κ F O s.heap) (g : GoW w b κ O s κ1 F1 O1 s1) (hC : C ∈ κ1.hid) (nC : s.heap.get? C = none) (hs : SameBut C s1.heap h') (hn : ∃ m, h'.Ns C m) : GoW w b κ O s κ1 F1 O1 { s1 with heap := h' } ∧ Ext s1.heap κ1 h' κ1 :=
 g.raw (hid' := κ1.hid) (s2 := { s1 with heap := h' }) (H := [C]) (fun a h => mem_singleton.mp h ▸ nC) (fun a h => mem_singleton.mp h ▸ hC) R0 (Sublist.refl _) (fun a h _ => h) (fun b o hb e => (hs.2 b (off_one hb)).trans e) (fun a _ h => let ⟨_, o, _, _, ho, _⟩ := hn; ⟨o, mem_singleton.mp h ▸ ho⟩) ⟨rfl, rfl, rfl⟩
theorem lcE_sound (B : Base w) (S : Snd w n J) {elt : Expr} {gs : List Comprehension} {scope : Scope} (h : wLc GG J elt gs scope F b Q O) (t : St w A n b κ F O s env) : wpAny (MW w) A (eval (.ListComp elt gs scope pos) env) (End w b κ F O s RV Q) noE s := by
 rw [arm_eval_ListComp]
 refine lc_sound B S h t fun q g r hC nC ⟨m, hm⟩ => ⟨m, hm, fun h' m' hm' hs' => ?_⟩
 obtain ⟨g', x⟩ := Go.touchC t.rel g hC nC hs' ⟨m', hm'⟩
 exact .mk q g' (rM x r)
theorem stepE_sound (B : Base w) (Op : Ops w) (M : OpsM w) (S : Snd w n J) (h : stepE GG J e F b Q O) (t : St w A (n + 1) b κ F O s env) : wpAny (MW w) A (eval e env) (End w b κ F O s RV Q) noE s := by
 have ok := t.ok.one
 have t0 := t
 have t := t.dn
 cases e with
 | Constant c k p =>
  cases c with
  | none => exact wpAny_Constant_none (End.here t.rel h rfl)
  | bool c => exact wpAny_Constant_bool (End.here t.rel h rfl)
  | int i => exact wpAny_Constant_int (End.tok t.rel h ⟨_, rfl⟩)
  | str x => exact wpAny_Constant_str (End.tok t.rel h ⟨_, by rw [S_toList]⟩)
  | _ => exact h.elim
 | Name x p => exact name_sound B t h
 | BoolOp op vs p => rw [arm_eval_BoolOp]; exact and_sound S vs h t
 | BinOp l op r p => exact wpAny_BinOp (End.seq (S.l h t) fun q g r => End.seq (S.l q (t.next g)) fun q2 g2 r2 => let ⟨_, h1, q⟩ := q2.out; End.on (g.trans g2) (Op.bin h1 ok g2.rel (rM g2.ext r) r2 q))
 | UnaryOp op x p =>
  cases op with
  | Not => exact wpAny_UnaryOp (End.seq (S.e h t) fun q g r => not_value (let ⟨_, h1, q⟩ := q.out; End.seq (truth_sound (b := b) (Q := fun u' O' => Q (.bool (!u')) O') h1 g.rel r q) fun q2 g2 r2 => .mk q2 (g.trans g2) (congrArg (fun u => Value.bool (!u)) r2)))
  | USub =>
   refine wpAny_UnaryOp (End.seq (S.e h t) fun {v κ1 O1 cv s1} q g r => ?_)
   obtain ⟨u, h1, q⟩ := q.out
   cases v with
   | int i =>
    obtain ⟨_, h1⟩ := iS h1
    cases h1
    obtain ⟨t', rfl⟩ := r
    exact P.neg_int ((End.tok g.rel q ⟨_, rfl⟩).go g)
   | _ => exact nN h1
  | _ => exact h.elim
 | IfExp c x y p =>
  refine wpAny_IfExp (End.seq (S.t h t) fun {u _ _ _ _} q g r => ?_)
  cases r
  cases u with
  | true => exact End.on g (S.e q (t.next g))
  | false => exact End.on g (S.e q (t.next g))
 | Lambda args body scope pos => exact lam_sound B h t
 | List es p => exact list_sound S h t
 | Tuple es c p => exact tuple_sound S h t
 | Dict ks vs p =>
  obtain ⟨hc, q⟩ := Gd.out h
  obtain ⟨h1, h2⟩ := aB hc
  cases isEmpty_iff.mp h1
  cases isEmpty_iff.mp h2
  exact wpAny_Dict_empty (new_obj t.rel q rfl fun κ' x => ⟨[], fun p => ⟨_, #[], get?_push_size _ rfl, ⟨rfl, rfl, rfl⟩, rfl, fun _ he => by simp at he, .nil, nodup_nil⟩, rfl, rfl⟩)
 | ListComp elt gs scope p => exact lcE_sound B S h t
 | Compare l ops rs p =>
  cases ops with
  | nil => exact h.elim
  | cons op ops =>
   cases ops with
   | cons => exact h.elim
   | nil =>
    cases rs with
    | nil => exact h.elim
    | cons r rs =>
     cases rs with
     | cons => exact h.elim
     | nil => have h := Gd.out h; exact wpAny_Compare1 (End.seq (S.l h.2 t) fun q g r => End.seq (S.l q (t.next g)) fun q2 g2 r2 => let ⟨_, h1, q⟩ := q2.out; End.on (g.trans g2) (Op.cmp h1 ok g2.rel (rM g2.ext r) r2 q)) (not_b h.1)
 | Call f args ks pos =>
  cases f with
  | Attribute o name apos => obtain ⟨rfl, h⟩ := Gd.nil h; exact meth_sound M S h t ok
  | Name x p => exact callE_sound B S h t0
  | _ => exact h.elim
 | Subscript v i p =>
  cases i with
  | Slice lo hi st q => exact slc_sound Op S h t ok
  | _ => exact sub_sound Op S h t ok
 | _ => exact h.elim
theorem stepL_sound (B : Base w) (Op : Ops w) (M : OpsM w) (S : Snd w n J) (h : stepL GG J e F b Q O) (t : St w A (n + 1) b κ F O s env) : wpAny (MW w) A (eval e env) (End w b κ F O s RV Q) noE s := by
 cases e with
 | List es p => exact frozen_sound S h t.dn
 | _ => exact stepE_sound B Op M S h t
end
end
section
variable {d a : Addr} {v : V} {Q : Unit → Shared → Prop} {cv : Value} {h : Heap} {p : Program}
section
variable {prog : Program} {w : World} {K : Type} [DecidableEq K] {knd : KeyKind prog w K} {A : Around} {E : Value → Shared → Prop} {s : Shared}
theorem dictSet_put {kvs : List (K × Value)} {k : K} {key v : Value} (hkey : knd.is k key = true) (hm : s.heap.DictAt knd d kvs kvs.length) (hsz : kvs.length ≤ sizeLine)
 (hQ : ∀ h', h'.DictAt knd d (stored kvs k v) (stored kvs k v).length → SameBut d s.heap h' → Q () { s with heap := h', toks := s.toks + 1 }) : wpAny (model prog w) A (dictSet d key v) Q E s := by
 obtain ⟨o, es, ho, hc, hd, hk, hp, hn⟩ := hm
 have hes : es.size = kvs.length := length_toList.symm.trans hp.length
 unfold dictSet
 try with_reducible refine wpAny_holding ?_
 refine wpAny_bind (knd.pyHash hkey ?_)
 unfold dictSetHashed
 try with_reducible refine wpAny_holding ?_
 refine wpAny_bind (wpAny_dictFind_of (s := { s with toks := s.toks + 1 }) hkey ho hd hk ?_)
 have hidx : (es.findIdx? fun e => knd.is k e.key) = kvs.findIdx? fun kv => decide (kv.1 = k) := by
  rw [← hp.findIdx k]; exact (List.findIdx?_toArray (l := es.toList) ..)
 cases hi : es.findIdx? fun e => knd.is k e.key with
 | some i =>
  have e1 : stored kvs k v = kvs.map fun kv => if kv.1 = k then (kv.1, v) else kv := if_pos (any_of_findIdx_some (hidx ▸ hi))
  refine wpAny_bind (wpAny_rule (wpAny_bind (wpAny_updateDict (s := { s with toks := s.toks + 1 }) ho hd (wpAny_point (hQ _ ?_ (SameBut.update ..))))))
  rw [e1, length_map]
  refine ⟨_, _, get?_update_self _ ho (Obj.isFreed_of_dict (Obj.data_mapDict hd _)), hc.mapDict _, Obj.data_mapDict hd _, hk.modify _ _, ?_, by rw [keys_map_store]; exact hn⟩
  rw [Array.toList_modify]
  exact hp.modify hn (by rw [hp.findIdx, ← hidx, hi]) v
 | none =>
  have hnot : k ∉ kvs.map (·.1) := not_mem_of_findIdx_none (hidx ▸ hi)
  have e1 : stored kvs k v = kvs ++ [(k, v)] := if_neg fun z => by
   obtain ⟨kv, hkv, he⟩ := any_eq_true.mp z
   exact hnot (mem_map.mpr ⟨kv, hkv, of_decide_eq_true he⟩)
  refine wpAny_bind (wpAny_rule (wpAny_updateDictKeys (hz := hes ▸ hsz) (s := { s with toks := s.toks + 1 }) ho hd (hQ _ ?_ (SameBut.update ..))))
  rw [e1, length_append]
  refine ⟨_, _, get?_update_self _ ho (Obj.isFreed_of_dict (Obj.data_mapDictKeys hd _)), hc.mapDictKeys _, Obj.data_mapDictKeys hd _, hk.push hkey _, ?_, ?_⟩
  ·rw [Array.toList_push]; exact hp.append hkey (knd.hash k) v
  ·rw [map_append, nodup_append]
   exact ⟨hn, nodup_cons.mpr ⟨not_mem_nil, nodup_nil⟩, fun a ha b hb e => hnot ((show a = k from e.trans (mem_singleton.mp hb)) ▸ ha)⟩
theorem dict_put {kvs : List (K × Value)} {k : K} {key v : Value} (hkey : knd.is k key = true) (hm : s.heap.DictAt knd d kvs kvs.length) (hsz : kvs.length ≤ sizeLine)
 (hQ : ∀ h', h'.DictAt knd d (stored kvs k v) (stored kvs k v).length → SameBut d s.heap h' → Q () { s with heap := h', toks := s.toks + 1 }) : wpAny (model prog w) A (setItem (.ref d) key v) Q E s := by
 have hT : s.TypeIs (.ref d) "dict" := hm.dictOf.typeIs
 unfold setItem
 try with_reducible refine wpAny_holding ?_
 refine wpAny_bind (wpAny_sequenceKey hT (by decide) ?_)
 refine wpAny_bind (wpAny_callSpecial?_slot (name := ofString "__setitem__") hT slot_dict_setitem
  (wpAny_call_entry slot_dict_setitem hT entry_dict_setitem ?_ (args_dict_setitem _ _ _)))
 show wpAny _ _ (Builtin.Dict.notOrdered "__setitem__" ⟨[.ref d, key, v], []⟩ >>= _) _ _ s
 refine wpAny_bind (wpAny_notOrdered_dict hT ?_)
 show wpAny _ _ (dictSet d key v >>= _) _ _ s
 exact wpAny_bind (dictSet_put hkey hm hsz fun h' hm' hs' => wpAny_pure ⟨.none, rfl, wpAny_pure (hQ h' hm' hs')⟩)
end
theorem belows_mem {b : Nat} (l : List V) : belows b l = true ↔ ∀ v ∈ l, v.under b = true := by
 induction l with
 | nil => exact ⟨fun _ _ h => (nomatch h), fun _ => rfl⟩
 | cons v l ih =>
  refine ⟨fun h x hx => ?_, fun h => and_eq_true_iff.mpr ⟨h v (mem_cons_self ..), ih.mpr fun x hx => h x (mem_cons_of_mem _ hx)⟩⟩
  rcases mem_cons.mp hx with rfl | hx
  ·exact (aB h).1
  ·exact ih.mp (aB h).2 x hx
theorem ent_any {K K' : Type} [DecidableEq K] [DecidableEq K'] {f : K → K'} (inj : ∀ a b, f a = f b → a = b) (k : K) : ∀ {l : List (K × V)} {kvs : List (K' × Value)}, kvs.map (·.1) = l.map (fun x => f x.1) → (kvs.any fun kv => decide (kv.1 = f k)) = l.any fun e => decide (e.1 = k)
 | [], kvs, e => by cases map_eq_nil_iff.mp e; rfl
 | _ :: _, [], e => nomatch e
 | e :: l, kv :: kvs, h => by
  obtain ⟨h1, h2⟩ := List.cons.inj h
  rw [any_cons, any_cons, ent_any inj k h2, show kv.1 = f e.1 from h1]
  exact congrArg (· || _) (Bool.eq_iff_iff.mpr ⟨fun z => decide_eq_true (inj _ _ (of_decide_eq_true z)), fun z => decide_eq_true (congrArg f (of_decide_eq_true z))⟩)
section
variable {w : World} {A : Around} {n b : Nat} {κ : Pl} {F : List Fr} {O O1 : Oj} {s : Shared} {E : Value → Shared → Prop}
theorem ent_map {K K' : Type} [DecidableEq K] [DecidableEq K'] {f : K → K'} (inj : ∀ a b, f a = f b → a = b) {k : K} {v : V} {cv : Value} {h : Heap} (rv : RV h κ v cv) : ∀ {l : List (K × V)} {kvs : List (K' × Value)}, EntR h κ f l kvs →
 EntR h κ f (l.map fun e => if e.1 = k then (e.1, v) else e) (kvs.map fun kv => if kv.1 = f k then (kv.1, cv) else kv)
 | [], kvs, e => by cases map_eq_nil_iff.mp e.1; exact ⟨rfl, rfl⟩
 | _ :: _, [], e => nomatch e.1
 | e :: l, kv :: kvs, q2 => by
  obtain ⟨h1, c, r, h2, r1, r2⟩ := q2
  obtain ⟨h3, h4⟩ := List.cons.inj h1
  cases h2
  obtain ⟨i1, i2⟩ := ent_map inj rv (k := k) ⟨h4, r2⟩
  rw [map_cons, map_cons]
  by_cases q : e.1 = k
  ·rw [if_pos q, if_pos (h3.trans (congrArg f q))]
   exact ⟨congr (congrArg List.cons h3) i1, cv, _, rfl, rv, i2⟩
  ·rw [if_neg q, if_neg fun z => q (inj _ _ (h3.symm.trans z))]
   exact ⟨congr (congrArg List.cons h3) i1, _, _, rfl, r1, i2⟩
theorem ent_put {K K' : Type} [DecidableEq K] [DecidableEq K'] {f : K → K'} (inj : ∀ a b, f a = f b → a = b) {k : K} (rv : RV h κ v cv) {l : List (K × V)} {kvs : List (K' × Value)} (e : EntR h κ f l kvs) : EntR h κ f (putD l k v) (stored kvs (f k) cv) := by
 unfold putD stored
 rw [ent_any inj k e.1]
 by_cases q : (l.any fun e => decide (e.1 = k)) = true
 ·rw [if_pos q, if_pos q]; exact ent_map inj rv e
 ·rw [if_neg q, if_neg q]
  refine ⟨by rw [map_append, map_append, e.1]; rfl, ?_⟩
  rw [map_append, map_append]
  exact RVs_app e.2 ⟨cv, [], rfl, rv, rfl⟩
theorem putD_mem {K : Type} [DecidableEq K] {k : K} {x : V} {l : List (K × V)} (h : x ∈ (putD l k v).map (·.2)) : x ∈ l.map (·.2) ∨ x = v := by
 obtain ⟨e, he, rfl⟩ := mem_map.mp h
 unfold putD at he
 by_cases q : (l.any fun e => decide (e.1 = k)) = true
 ·rw [if_pos q] at he
  obtain ⟨e', h1, rfl⟩ := mem_map.mp he
  by_cases q : e'.1 = k
  ·rw [if_pos q]; exact .inr rfl
  ·rw [if_neg q]; exact .inl (mem_map_of_mem h1)
 ·rw [if_neg q] at he
  rcases mem_append.mp he with h1 | h1
  ·exact .inl (mem_map_of_mem h1)
  ·rw [mem_singleton.mp h1]; exact .inr rfl
theorem dict_write {n : Nat} {o o' : AObj} {h' : Heap} {tk : Nat} (ho : O[n]? = some o) (hi : κ.ob[n]? = some (.obj a)) (hw : writeOk b n v = true) (hu : ∀ k, v.under k = true → o.Under k → o'.Under k) (R : RelW w κ F O s.heap) (sb : SameBut a s.heap h') (hx : ∃ ob, h'.get? a = some ob) (r : Ext s.heap κ h' κ → ObjR w h' κ o' (.obj a)) :
 GoW w b κ O s κ F (O.set n o') { s with heap := h', toks := tk } := by
 obtain ⟨R', x', hh⟩ := R.setO (o' := o') ho hi (fun b ob hn e => (sb.2 b hn).trans e) hx r
 refine ⟨R', x', rfl, ⟨rfl, rfl, rfl⟩, ?_, hh⟩
 rcases or_eq_true_iff.mp hw with q | q
 ·exact Mono.set_high (of_decide_eq_true q)
 ·exact Mono.set_pure ho fun k => hu k (pure_under q)
theorem pairs_to {K : Type} [DecidableEq K] {p' : Program} {k1 : KeyKind p w K} {k2 : KeyKind p' w K} (to : ∀ k v, k1.is k v = true → k2.is k v = true) {es : List DictEntry} {kvs : List (K × Value)} (h : Pairs k1 es kvs) : Pairs k2 es kvs := by
 induction h with
 | nil => exact .nil
 | cons a b _ ih => exact .cons (to _ _ a) b ih
theorem DA.ofI {kvs : List (Int × Value)} (x : h.DictAt (intKind p w) a kvs kvs.length) : DA w (fun p => intKind p w) h a kvs :=
 fun p' => by obtain ⟨o, es, ho, hc, hd, hk, hp, hn⟩ := x; exact ⟨o, es, ho, hc, hd, hk, pairs_to (k1 := intKind p w) (k2 := intKind p' w) (fun _ _ q => q) hp, hn⟩
theorem DA.ofS {kvs : List (Str × Value)} (x : h.DictAt (strKind p w) a kvs kvs.length) : DA w (fun p => strKind p w) h a kvs :=
 fun p' => by obtain ⟨o, es, ho, hc, hd, hk, hp, hn⟩ := x; exact ⟨o, es, ho, hc, hd, hk, pairs_to (k1 := strKind p w) (k2 := strKind p' w) (fun _ _ q => q) hp, hn⟩
theorem DA.nil (x : DA w (fun p => intKind p w) h a []) : DA w (fun p => strKind p w) h a [] := fun p => by
 obtain ⟨o, es, ho, hc, hd, hk, hp, hn⟩ := x p
 have e : es = #[] := toList_inj.mp (by cases hp' : es.toList with | nil => rfl | cons => rw [hp'] at hp; cases hp)
 subst e
 exact ⟨o, #[], ho, hc, hd, fun _ z => by simp at z, .nil, nodup_nil⟩
theorem DA.ex {K : Type} [DecidableEq K] {knd : (p : Program) → KeyKind p w K} {kvs : List (K × Value)} (x : DA w knd h a kvs) : ∃ o, h.get? a = some o := by obtain ⟨o, _, ho, _⟩ := x PG; exact ⟨o, ho⟩
theorem put_sound {A0 : Around} {d k : V} {cd ck : Value} {P : Unit → Shared → Prop} (h : putV O b d k v = some O1) (R : RelW w κ F O s.heap) (rd : RV s.heap κ d cd) (rk : RV s.heap κ k ck) (rv : RV s.heap κ v cv) (q : ∀ s1, GoW w b κ O s κ F O1 s1 → P () s1) : wpAny (MW w) A0 (setItem cd ck cv) P E s := by
 cases d with
 | ref n =>
  obtain ⟨hw, h⟩ := iS h
  unfold setD at h
  obtain ⟨a, rfl, ha⟩ := rd
  cases hO : O[n]? with
  | none => rw [hO] at h; exact nN h
  | some o =>
   rw [hO] at h
   have r := R.at' hO ha
   cases o with
   | dI l =>
    obtain ⟨kvs, hd, e⟩ := r
    have hl : kvs.length = l.length := by have := congrArg length e.1; rwa [length_map, length_map] at this
    cases k with
    | int i =>
     obtain ⟨ho, h⟩ := iS h
     cases h
     obtain ⟨t, rfl⟩ := rk
     refine dict_put (knd := intKind PG w) (k := i) (beq_self_eq_true i) (hd PG) (hl ▸ le_trans (lenOk_le ho) (by decide)) fun h' hm' hs' => ?_
     have dm := DA.ofI hm'
     exact q _ (dict_write hO ha hw (fun j hv hu => (belows_mem _).mpr fun x hx => (putD_mem hx).elim ((belows_mem _).mp hu x) fun e => e ▸ hv) R hs' dm.ex fun x => ⟨_, dm, ent_put (fun _ _ z => z) (rM x rv) ⟨e.1, rMs x e.2⟩⟩)
    | str y =>
     obtain ⟨ho, h⟩ := iS h
     cases isEmpty_iff.mp ho
     cases h
     obtain ⟨t, rfl⟩ := rk
     cases map_eq_nil_iff.mp e.1
     refine dict_put (knd := strKind PG w) (k := S y) (beq_self_eq_true (S y)) ((DA.nil hd) PG) (zero_le _) fun h' hm' hs' => ?_
     have dm := DA.ofS hm'
     exact q _ (dict_write hO ha hw (fun j hv hu => and_eq_true_iff.mpr ⟨hv, rfl⟩) R hs' dm.ex fun x => ⟨_, dm, rfl, cv, [], rfl, rM x rv, rfl⟩)
    | _ => exact nN h
   | dS l =>
    obtain ⟨kvs, hd, e⟩ := r
    have hl : kvs.length = l.length := by have := congrArg length e.1; rwa [length_map, length_map] at this
    cases k with
    | str y =>
     obtain ⟨ho, h⟩ := iS h
     cases h
     obtain ⟨t, rfl⟩ := rk
     refine dict_put (knd := strKind PG w) (k := S y) (beq_self_eq_true (S y)) (hd PG) (hl ▸ le_trans (lenOk_le ho) (by decide)) fun h' hm' hs' => ?_
     have dm := DA.ofS hm'
     exact q _ (dict_write hO ha hw (fun j hv hu => (belows_mem _).mpr fun x hx => (putD_mem hx).elim ((belows_mem _).mp hu x) fun e => e ▸ hv) R hs' dm.ex fun x => ⟨_, dm, ent_put (fun _ _ z => S_inj z) (rM x rv) ⟨e.1, rMs x e.2⟩⟩)
    | _ => exact nN h
   | _ => exact nN h
 | _ => exact nN h
end
end
section
variable {e : Expr} {x : Str} {p pos : Pos} {Q : Fl → List Fr → Oj → Prop} {ts : List Expr} {k : Nat} {f : V} {a : List V} {ks : List (Str × V)} {cf : Value} {ca : List Value} {cks : List (Str × Value)}
structure OpsD (w : World) : Prop where
 del : ∀ {A s κ F O O1 b v k cl ck} {P : Unit → Shared → Prop}, delV O v k = some O1 → Ok A 1 → RelW w κ F O s.heap → RV s.heap κ v cl → RV s.heap κ k ck → (∀ s1, GoW w b κ O s κ F O1 s1 → P () s1) → wpAny (MW w) A (delItem cl ck) P noE s
section
variable {w : World} {A : Around} {n b m : Nat} {κ κ1 κ2 : Pl} {F F1 F2 : List Fr} {O O1 O2 OF : Oj} {s s1 s2 : Shared} {env : Env} {J : WI} {E : Value → Shared → Prop}
theorem noComp_swaps (h : noComp e = true) (t : Option Expr) (line : Nat) : swapsWith e t line env = pure false := by
 cases e <;> first | rfl | exact ff_ne h
theorem assign_name_sound (S : Snd w n J) (h : Gd (noComp e) (J.e e F b (fun v O1 => Lf (setTop F x v) fun F1 => Q .next F1 O1) O)) (t : St w A n b κ F O s env) : wpAny (MW w) A (exec (.Assign [.Name x p] e pos) env) (EndS w b κ O s Q) noE s :=
 wpAny_Assign_Name (End.seq (S.e h.out.2 t) fun q g r => let ⟨_, h1, q⟩ := q.out; setTop_sound (t.next g) h1 r fun s1 g2 => .mk q (g.trans g2) rfl) (noComp_swaps h.out.1 _ _)
theorem assign_lc_sound (B : Base w) (S : Snd w n J) {q : Pos} {elt : Expr} {gs : List Comprehension} {scope : Scope} (h : wLc GG J elt gs scope F b (fun v O1 => Lf (setTop F x v) fun F1 => Q .next F1 O1) O) (t : St w A n b κ F O s env) :
 wpAny (MW w) A (exec (.Assign [.Name x p] (.ListComp elt gs scope q) pos) env) (EndS w b κ O s Q) noE s := by
 have hsw : ∃ c : Bool, swapsWith (.ListComp elt gs scope q) (some (.Name x p)) pos.line env = pure c := ⟨_, rfl⟩
 obtain ⟨c, hc⟩ := hsw
 cases c with
 | false =>
  refine wpAny_Assign_Name ?_ hc
  rw [arm_eval_ListComp]
  refine lc_sound B S h t fun {v acc C κ' O' s'} q g r hC nC ⟨m, hm⟩ => ⟨m, hm, fun h' m' hm' hs' => ?_⟩
  obtain ⟨g', x⟩ := Go.touchC t.rel g hC nC hs' ⟨m', hm'⟩
  obtain ⟨_, h1, q⟩ := q.out
  exact setTop_sound (t.next g') h1 (rM x r) fun s1 g2 => .mk q (g'.trans g2) rfl
 | true =>
  rw [exec_Assign_Name_used _ _ _ _ hc]
  refine wpAny_bind (wpAny_standAt (wpAny_bind ?_))
  show wpAny _ A (do let _ ← comprehension (.ListComp elt gs scope q) scope env (firstIterPos gs q) (newList []) (firstAsync gs) (firstIter gs env) (some (assign (.Name x p) env)); pure ()) _ noE s
  refine wpAny_bind (lc_sound B S h t fun {v acc C κ' O' s'} q g r hC nC ⟨m, hm⟩ => ?_)
  obtain ⟨_, h1, q⟩ := q.out
  refine wpAny_assign_Name (setTop_sound (t.next g) h1 r fun s1 g2 => ?_)
  obtain ⟨o, es, ep, ho, rest⟩ := hm
  have g3 := g.trans g2
  obtain ⟨hC', hk⟩ := g2.hid C hC
  refine ⟨m, ⟨o, es, ep, hk o ho, rest⟩, fun h' m' hm' hs' => ?_⟩
  obtain ⟨g', x⟩ := Go.touchC t.rel g3 hC' nC hs' ⟨m', hm'⟩
  exact wpAny_pure (wpAny_pure (.mk q g' rfl))
theorem setNames_sound {P : Unit → Shared → Prop} (ns : List Str) : ∀ {vs : List V} {cvs : List Value} {F F1 : List Fr} {s : Shared}, setNames F ns vs = some F1 → St w A n b κ F O s env → RVs s.heap κ vs cvs → (∀ s1, GoW w b κ O s κ F1 O s1 → P () s1) →
 wpAny (MW w) A (assignInOrder (ns.map fun n => bindName env n) cvs) P E s := by
 induction ns with
 | nil =>
  intro vs cvs F F1 s h t r k
  cases vs with
  | nil => cases h; cases r; exact wpAny_pure (k _ (Go.refl t.rel))
  | cons => exact nN h
 | cons x ns ih =>
  intro vs cvs F F1 s h t r k
  cases vs with
  | nil => exact nN h
  | cons v vs =>
   obtain ⟨cv, cvs, rfl, r1, r2⟩ := r
   obtain ⟨F2, h1, h⟩ := bS h
   show wpAny _ A (assignInOrder (bindName env x :: ns.map fun n => bindName env n) (cv :: cvs)) _ E s
   exact wpAny_assignInOrder_more (wpAny_bindName (setTop_sound t h1 r1 fun s1 g => ih h (t.next g) (rMs g.ext r2) fun s2 g2 => k s2 (g.trans g2)))
theorem kindAt_is (t : St w A n b κ F O s env) (h : ownK (kindAt F x) = true) : env.kindOf x = kindAt F x := by
 obtain ⟨p, r, hp, T⟩ := t.env.top
 cases F with
 | nil => exact ff_ne h
 | cons f rF =>
  have fr : FrameR s.heap κ f p := t.rel.frs 0 f p rfl (hp ▸ rfl)
  dsimp only [kindAt] at h ⊢
  rw [fr.nm] at h ⊢
  cases hn : p.names.lookup x with
  | none => rw [hn] at h; exact ff_ne h
  | some kd =>
   rw [hn] at h
   cases kd with
   | «local» => exact T.loc x hn
   | cell => exact (T.cell x hn).1
   | _ => exact ff_ne h
theorem filterMap_same {α β : Type} {f g : α → Option β} : ∀ {l : List α}, (∀ x ∈ l, f x = g x) → l.filterMap f = l.filterMap g
 | [], _ => rfl
 | x :: l, h => by
  rw [filterMap_cons, filterMap_cons, h x mem_cons_self, filterMap_same fun y hy => h y (mem_cons_of_mem _ hy)]
theorem swapped_is (t : St w A n b κ F O s env) {sw : Option (List Str)} (ht : okTargets F ts = true) (h : swapB (kindAt F) ts e = some sw) :
 swappedStores [.Tuple ts k p] e env = pure sw := by
 have hk : env.blockKind = .function := by
  unfold Env.blockKind; rw [t.env.kind]; rfl
 have hfil : swapNames env.kindOf ((ts.head?.map (·.pos.line)).getD 0) ts = swapNames (kindAt F) ((ts.head?.map (·.pos.line)).getD 0) ts := filterMap_same fun e htm => by
  cases e with
  | Name id pos => dsimp only; rw [kindAt_is t (all_eq_true.mp ht _ htm)]
  | _ => rfl
 cases e with
 | Tuple vs k' p' =>
  unfold swapB at h
  unfold swappedStores
  dsimp only at h ⊢
  rw [hk, show (ScopeKind.function != ScopeKind.function) = false from rfl, Bool.or_false]
  show (if (!(ts.length == 2 || ts.length == 3) || vs.length != ts.length) = true then pure none else if starB vs = true then pure none
   else if ((swapNames env.kindOf ((ts.head?.map (·.pos.line)).getD 0) ts).length != ts.length || (swapNames env.kindOf ((ts.head?.map (·.pos.line)).getD 0) ts).eraseDups.length != (swapNames env.kindOf ((ts.head?.map (·.pos.line)).getD 0) ts).length) = true then pure none
   else if vs.all (foldedForSure 8) = true then pure none else if vs.all (constantsAlone 8) = true then (do unsupported "assign.tuple-of-constant-expressions:order-of-the-stores"; pure (some (swapNames env.kindOf ((ts.head?.map (·.pos.line)).getD 0) ts)))
   else pure (some (swapNames env.kindOf ((ts.head?.map (·.pos.line)).getD 0) ts)) : Sem (Option (List Str))) = pure sw
  rw [hfil]
  generalize swapNames (kindAt F) ((ts.head?.map (·.pos.line)).getD 0) ts = ns at h ⊢
  generalize (!(ts.length == 2 || ts.length == 3) || vs.length != ts.length) = c1 at h ⊢
  generalize (ns.length != ts.length || ns.eraseDups.length != ns.length) = c3 at h ⊢
  generalize starB vs = c2 at h ⊢
  generalize vs.all (foldedForSure 8) = c4 at h ⊢
  generalize vs.all (constantsAlone 8) = c5 at h ⊢
  cases c1 with
  | true => cases h; rfl
  | false => cases c2 with
   | true => cases h; rfl
   | false => cases c3 with
    | true => cases h; rfl
    | false => cases c4 with
     | true => cases h; rfl
     | false => cases c5 with
      | true => exact nN h
      | false => cases h; rfl
 | _ => cases h; rfl
theorem comp_noswap {line : Nat} : swapsWithSole [.Tuple ts k p] e line env = pure false := by
 cases e <;> rfl
theorem RVs_rev {h : Heap} {κ : Pl} {l : List V} : ∀ {r : List Value}, RVs h κ l r → RVs h κ l.reverse r.reverse := by
 induction l with
 | nil => intro r e; cases e; exact rfl
 | cons x l ih =>
  intro r e
  obtain ⟨c, r', rfl, e1, e2⟩ := e
  rw [List.reverse_cons, List.reverse_cons]
  exact RVs_app (ih e2) ⟨c, [], rfl, e1, rfl⟩
theorem assign_tuple_sound (S : Snd w n J) {es : List Expr} (h : Gd (noComp e) (J.e e F b (fun v O1 => Lf (wTgt es e F v) fun F1 => Q .next F1 O1) O)) (t : St w A n b κ F O s env) :
 wpAny (MW w) A (exec (.Assign [.Tuple es k p] e pos) env) (EndS w b κ O s Q) noE s := by
 rw [exec_Assign_arm]
 refine wpAny_bind (wpAny_standAt ?_)
 rw [comp_noswap]
 refine wpAny_bind (wpAny_pure ?_)
 rw [if_neg (by decide)]
 refine wpAny_bind (End.seq (S.e h.out.2 t) fun {v κ1 O1 cv s1} q g r => ?_)
 obtain ⟨F1, h1, q9⟩ := q.out
 obtain ⟨ht, h1⟩ := iS h1
 obtain ⟨sw, h2, h1⟩ := bS h1
 have t1 := t.next g
 rw [swapped_is t1 ht h2]
 refine wpAny_bind (wpAny_pure ?_)
 cases v with
 | tup vs =>
  cases sw with
  | none =>
   show wpAny _ A (do assignAll cv [assign (.Tuple es k p) env]; pure Flow.next) _ noE s1
   exact wpAny_bind (setTgt_sound (tgt := .Tuple es k p) (v := .tup vs) t1 h1 r fun s2 g2 => wpAny_pure (.mk q9 (g.trans g2) rfl))
  | some names =>
   obtain ⟨hlen, h1⟩ := iS h1
   obtain ⟨a, vals, rfl, htup, ha, rs⟩ := r
   have hn : names.length = vals.size := (beq_iff_eq.mp hlen).symm.trans (RVs_size rs)
   show wpAny _ A (do rule "assign.swapped-stores"; let items ← unpackItems (.ref a) names.length none; assignInOrder (names.reverse.map fun n => bindName env n) items.reverse; pure Flow.next) _ noE s1
   refine wpAny_bind (wpAny_rule (wpAny_bind ?_))
   rw [hn]
   refine wpAny_unpackItems_tuple t.ok.hd htup.isTuple fun h' he => ?_
   have g2 : GoW w b κ1 O1 s1 κ1 F O1 { s1 with heap := h' } := Go.grow g.rel (fun b o e => he b o (fun q => by rw [q, new_none (le_refl _)] at e; exact nN e) e) ⟨rfl, rfl, rfl⟩
   exact wpAny_bind (setNames_sound _ h1 (t1.next g2) (RVs_rev (rMs g2.ext rs)) fun s2 g3 => wpAny_pure (.mk q9 (g.trans (g2.trans g3)) rfl))
 | _ => cases sw <;> exact nN h1
theorem aug_sound (B : Base w) (Op : Ops w) (S : Snd w n J) {op : Operator} 
 (h : Gd (okNm x) (Lf (getV GG F x) fun a => J.e e F b (fun c O1 => Lf (augV O1 op a c) fun v => Lf (setTop F x v) fun F1 => Q .next F1 O1) O)) (t : St w A n b κ F O s env) (ok : Ok A 1) :
 wpAny (MW w) A (exec (.AugAssign (.Name x p) op e pos) env) (EndS w b κ O s Q) noE s := by
 obtain ⟨hx, h⟩ := h.out
 obtain ⟨a, h1, h⟩ := h.out
 refine wpAny_AugAssign_Name (End.seq (load_sound (b := b) (Q := fun v O' => v = a ∧ O' = O) B t h1 (okNm_is hx).2 ⟨rfl, rfl⟩) fun {v κ1 O1 co s1} q g r => ?_)
 obtain ⟨rfl, rfl⟩ := q
 refine End.seq (S.e h (t.next g)) fun {c κ2 O2 cv s2} q2 g2 r2 => ?_
 obtain ⟨u, h2, q8⟩ := q2.out
 obtain ⟨F1, h3, q9⟩ := q8.out
 have g3 := g.trans g2
 cases v with
 | int i =>
  cases c with
  | int j =>
   refine End.seq (Op.inpl (b := b) (Q := fun v' O' => v' = u ∧ O' = O2) h2 ok g2.rel (rM g2.ext r) r2 ⟨rfl, rfl⟩) fun {v' κ3 O3 cr s3} q3 g4 r4 => ?_
   obtain ⟨rfl, rfl⟩ := q3
   exact setTop_sound (t.next (g3.trans g4)) h3 r4 fun s4 g5 => .mk q9 ((g3.trans g4).trans g5) rfl
  | _ => exact nN h2
 | _ => exact nN h2
theorem del_sound (Op : OpsD w) (S : Snd w n J) {o i : Expr} (h : J.e o F b (fun v O1 => J.e i F b (fun k O2 => Lf (delV O2 v k) fun O3 => Q .next F O3) O1) O) (t : St w A n b κ F O s env) (ok : Ok A 1) :
 wpAny (MW w) A (exec (.Delete [.Subscript o i p] pos) env) (EndS w b κ O s Q) noE s := by
 refine wpAny_Delete (wpAny_deleteEach_cons ?_)
 show wpAny _ A (do
  let ov ← eval o env
  let iv ← holding [ov] (eval i env)
  standAt p
  holding [ov, iv] (delItem ov iv)
  release [ov, iv] []) _ noE s
 refine wpAny_bind (End.seq (S.e h t) fun q g r => wpAny_bind (wpAny_holding (End.seq (S.e q (t.next g)) fun q2 g2 r2 => wpAny_bind (wpAny_standAt (wpAny_bind (wpAny_holding ?_))))))
 obtain ⟨_, h1, q⟩ := q2.out
 exact Op.del (b := b) h1 ok g2.rel (rM g2.ext r) r2 fun s3 g3 => wpAny_release (wpAny_deleteEach_nil (.mk q ((g.trans g2).trans g3) rfl))
theorem stepS_sound (B : Base w) (Op : Ops w) (OD : OpsD w) (S : Snd w n J) {st : Stmt} (h : stepS GG J st F b Q O) (t : St w A (n + 1) b κ F O s env) : wpAny (MW w) A (exec st env) (EndS w b κ O s Q) noE s := by
 have ok := t.ok.one
 have t := t.dn
 cases st with
 | Expr e p =>
  have h := Gd.out h
  refine wpAny_Expr (End.seq (S.e h.2 t) fun {v κ1 O1 cv s1} q g r => ?_) (by unfold interactive; rw [t.env.kind]; rfl) (noComp_swaps h.1 _ _)
  obtain ⟨hp, q⟩ := q.out
  cases v with
  | none => cases r; exact .mk q g rfl
  | int i => obtain ⟨_, rfl⟩ := r; exact .mk q g rfl
  | bool u => cases r; exact .mk q g rfl
  | str l => obtain ⟨_, rfl⟩ := r; exact .mk q g rfl
  | _ => exact ff_ne hp
 | Pass p => exact wpAny_Pass (.mk h (Go.refl t.rel) rfl)
 | Break p => exact wpAny_Break (.mk h (Go.refl t.rel) rfl)
 | Return e p =>
  cases e with
  | none => exact h.elim
  | some e => exact wpAny_Return_some (End.seq (S.e h t) fun q g r => .mk q g ⟨_, rfl, r⟩)
 | Assign ts e p =>
  cases ts with
  | nil => exact h.elim
  | cons tg ts =>
   cases ts with
   | cons => exact h.elim
   | nil =>
    cases tg with
    | Name x p' =>
     cases e with
     | ListComp elt gs scope q => exact assign_lc_sound B S h t
     | Lambda args body scope q =>
      have h : sel (!scope.names.any (fun x => x.2 == .free)) _ _ := h
      cases hn : !scope.names.any (fun x => x.2 == .free) with
      | true => rw [hn] at h; exact assign_name_sound S (show Gd (noComp (.Lambda args body scope q)) _ from h) t
      | false => rw [hn] at h; exact assign_clo_sound B h t
     | _ => exact assign_name_sound S h t
    | Tuple es k p' => exact assign_tuple_sound S h t
    | Subscript o i p' =>
     exact wpAny_Assign_Subscript (End.seq (S.e h.out.2 t) fun q g r => End.seq (S.e q (t.next g)) fun q2 g2 r2 => End.seq (S.e q2 ((t.next g).next g2)) fun q3 g3 r3 => let ⟨_, h1, q⟩ := q3.out
      put_sound h1 g3.rel (rM g3.ext r2) r3 (rM (g2.trans g3).ext r) fun s1 g4 => .mk q ((g.trans (g2.trans g3)).trans g4) rfl) (noComp_swaps h.out.1 _ _)
    | _ => exact h.elim
 | AugAssign tg op e p =>
  cases tg with
  | Name x p' => exact aug_sound B Op S h t ok
  | _ => exact h.elim
 | Delete ts p =>
  cases ts with
  | nil => exact h.elim
  | cons tg ts =>
   cases ts with
   | cons => exact h.elim
   | nil =>
    cases tg with
    | Subscript o i p' => exact del_sound OD S h t ok
    | _ => exact h.elim
 | If c x y p =>
  refine wpAny_If (End.seq (S.t h t) fun {u _ _ _ _} q g r => ?_)
  cases r
  cases u with
  | true => exact EndS.on g (exs_sound S q (t.next g))
  | false => exact EndS.on g (exs_sound S q (t.next g))
 | While c body orelse p => obtain ⟨rfl, h2⟩ := Gd.nil h; exact while_sound S (h2.is) t
 | For tgt it body orelse p => exact for_sound B S h t
 | Assert c msg p => exact wpAny_Assert_holds (End.seq (S.t h t) fun q g r => by obtain ⟨rfl, q⟩ := q.out; exact ⟨r, .mk q g rfl⟩)
 | _ => exact h.elim
theorem stepC_sound (B : Base w) (Op : Ops w) (S : Snd w n J) {Q : V → Oj → Prop}
 (h : stepC GG J f a ks b Q O) (ok : Ok A (n + 1)) (R : RelW w κ F O s.heap) (hb : b ≤ O.length) (rf : RV s.heap κ f cf) (Ra : RVs s.heap κ a ca) (Rk : KsR s.heap κ ks cks) :
  wpAny (MW w) A (call cf ca cks) (End w b κ F O s RV Q) noE s := by
 cases f with
 | lam as bd sc => obtain ⟨rfl, h⟩ := Gd.nil h; cases Rk; exact callL_sound B S h ok R hb rf Ra
 | cst c =>
  cases c with
  | ref ad => cases rf; exact callF_sound B S h ok R hb Ra Rk
  | builtin id => cases rf; obtain ⟨rfl, h2⟩ := Gd.nil h; obtain ⟨r, h1, q⟩ := h2.out; cases Rk; exact Op.bi h1 ok.one R hb Ra q
  | type id => cases rf; obtain ⟨rfl, h2⟩ := Gd.nil h; obtain ⟨r, h1, q⟩ := h2.out; cases Rk; exact Op.ty h1 ok.one R hb Ra q
  | _ => exact h.elim
 | _ => exact h.elim
theorem stepK_sound (B : Base w) (S : Snd w n J) {nm : Str} {c : Clo} {Q : V → Oj → Prop} (h : stepK GG J f a ks nm c F b Q O) (hc : cloAt F c.name = some c) (ok : Ok A (n + 1)) (R : RelW w κ F O s.heap) (hb : b ≤ O.length)
 (rf : RV s.heap κ f cf) (Ra : RVs s.heap κ a ca) (Rk : KsR s.heap κ ks cks) : wpAny (MW w) A (call cf ca cks) (End w b κ F O s RV Q) E s := by
 cases f with
 | cst d => cases d with
  | ref ad => cases rf; exact callK_sound B S h hc ok R hb Ra Rk
  | _ => exact h.elim
 | _ => exact h.elim
theorem W_sound (B : Base w) (Op : Ops w) (M : OpsM w) (OD : OpsD w) : ∀ n, Snd w (n + 1) (W GG n)
 | 0 => ⟨fun h => h.elim, fun h => h.elim, fun h => h.elim, fun h => h.elim, fun h => h.elim, fun h => h.elim⟩
 | n + 1 =>
  have ih := W_sound B Op M OD n
  ⟨fun h t => stepE_sound B Op M ih h t, fun h t => stepL_sound B Op M ih h t, fun h t => stepT_sound Op ih (fun h => stepE_sound B Op M ih h t) h t, fun h t => stepS_sound B Op OD ih h t, fun h ok R hb rf Ra Rk => stepC_sound B Op ih h ok R hb rf Ra Rk, fun h hc ok R hb rf Ra Rk => stepK_sound B ih h hc ok R hb rf Ra Rk⟩
end
end
section
variable {i x y : Int} {op : Operator} {v : V} {l : List V} {v1 v2 : Array Value} {cx cy : Value}
theorem intBits_le {k : Int} {n : Nat} (h : k.natAbs < 2 ^ n) : Builtin.Int.intBits k ≤ n := by
 unfold Builtin.Int.intBits
 by_cases hk : (k == 0) = true
 ·rw [if_pos hk]; exact zero_le _
 ·rw [if_neg hk]
  exact (Nat.log2_lt fun q => hk (beq_iff_eq.mpr (Int.natAbs_eq_zero.mp q))).mpr h
theorem intOk_bits (h : intOk i = true) : Builtin.Int.intBits i ≤ 4000 := intBits_le (of_decide_eq_true h)
theorem nat_xor_and (m n : Nat) : (m ^^^ n) + (m &&& n) = m ||| n := by
 have h := nat_or_add_and (m ^^^ n) (m &&& n)
 have e1 : (m ^^^ n) ||| (m &&& n) = m ||| n := Nat.eq_of_testBit_eq fun i => by
  rw [Nat.testBit_or, Nat.testBit_xor, Nat.testBit_and, Nat.testBit_or]
  cases m.testBit i <;> cases n.testBit i <;> rfl
 have e2 : (m ^^^ n) &&& (m &&& n) = 0 := Nat.eq_of_testBit_eq fun i => by
  rw [Nat.testBit_and, Nat.testBit_xor, Nat.testBit_and, Nat.zero_testBit]
  cases m.testBit i <;> cases n.testBit i <;> rfl
 rw [e1, e2, add_zero] at h
 exact h.symm
theorem bitOr_pp (hx : 0 ≤ x) (hy : 0 ≤ y) : Builtin.bitOr x y = ((x.toNat ||| y.toNat : Nat) : Int) := by
 rw [bitOr_and, bitAnd_pp hx hy]
 have := nat_or_add_and x.toNat y.toNat
 rw [Int.sub_eq_iff_eq_add, ← Int.natCast_add, this, Int.natCast_add, Int.toNat_of_nonneg hx, Int.toNat_of_nonneg hy]
theorem bitXor_pp (hx : 0 ≤ x) (hy : 0 ≤ y) : Builtin.bitXor x y = ((x.toNat ^^^ y.toNat : Nat) : Int) := by
 unfold Builtin.bitXor
 rw [bitOr_pp hx hy, bitAnd_pp hx hy]
 have := nat_xor_and x.toNat y.toNat
 rw [Int.sub_eq_iff_eq_add, ← Int.natCast_add, this]
theorem noPylong (h : Builtin.Int.intBits y ≤ 4000) : Builtin.divisionGoesByPylong x y = false := by
 unfold Builtin.Int.intBits at h
 unfold Builtin.divisionGoesByPylong
 have : ¬ ((if (y == 0) = true then 0 else y.natAbs.log2 / 30 + 1) > 300) := by
  split
  ·omega
  ·rename_i hy
   rw [if_neg hy] at h
   omega
 dsimp only
 rw [decide_eq_false this]; rfl
noncomputable def IntRule (w : World) (A : Around) (op : Operator) (x y z : Int) : Prop := ∀ {s : Shared} {t u : Tok} {Q : Value → Shared → Prop} {E}, (∀ t' k, Q (.int z t') { s with toks := k }) → wpAny (MW w) A (binaryOp op (.int x t) (.int y u)) Q E s ∧ wpAny (MW w) A (inplaceOp op (.int x t) (.int y u)) Q E s
section
variable {w : World} {A : Around} {b : Nat} {κ : Pl} {Fs : List Fr} {O : Oj} {s : Shared} {E : Value → Shared → Prop} {Q : V → Oj → Prop}
theorem dec_and {p q : Prop} [Decidable p] [Decidable q] (h : (decide p && decide q) = true) : p ∧ q := ⟨of_decide_eq_true (aB h).1, of_decide_eq_true (aB h).2⟩
theorem bin_int (h : binV O op (.int x) (.int y) = some v) : ∃ z, v = .int z ∧ IntRule w A op x y z := by
 cases op with
 | Add => cases h; exact ⟨_, rfl, fun k => ⟨P.add_int (k _ _), P.iadd_int (k _ _)⟩⟩
 | Sub => cases h; exact ⟨_, rfl, fun k => ⟨P.sub_int (k _ _), P.isub_int (k _ _)⟩⟩
 | Mult =>
  obtain ⟨hc, h⟩ := iS h
  cases h
  obtain ⟨h1, h2⟩ := aB hc
  have hm : IntMulOk x y := by
   have e1 := intOk_bits h1
   have e2 := intOk_bits h2
   unfold IntMulOk Builtin.Int.intTooBig
   have : ¬ (((Builtin.Int.intBits x : Int) + Builtin.Int.intBits y) > PySem.bitsLine) := by
    have : PySem.bitsLine = 134217728 := rfl
    omega
   rw [decide_eq_false this, Bool.and_false]; exact Bool.false_ne_true
  exact ⟨_, rfl, fun k => ⟨P.mul_int (k _ _) hm, P.imul_int (k _ _) hm⟩⟩
 | Mod =>
  obtain ⟨hc, h⟩ := iS h
  cases h
  have hy : 0 < y := hc
  have hy' : y ≠ 0 := (Int.ne_of_lt hy).symm
  refine ⟨_, rfl, fun k => ?_⟩
  rw [← Int.fmod_eq_emod_of_nonneg x (Int.le_of_lt hy)] at k
  exact ⟨mod_int hy' (k _ _), imod_int hy' (k _ _)⟩
 | FloorDiv =>
  obtain ⟨hc, h⟩ := iS h
  cases h
  obtain ⟨h1, h2⟩ := aB hc
  have hy : 0 < y := of_decide_eq_true h1
  have hy' : y ≠ 0 := (Int.ne_of_lt hy).symm
  have hp := noPylong (x := x) (intOk_bits h2)
  refine ⟨_, rfl, fun k => ?_⟩
  rw [← Int.fdiv_eq_ediv_of_nonneg x (Int.le_of_lt hy)] at k
  exact ⟨floordiv_int hy' (k _ _) (.inl hp), ifloordiv_int hy' (k _ _) (.inl hp)⟩
 | Pow =>
  obtain ⟨hc, h⟩ := iS h
  cases h
  obtain ⟨hc, h2⟩ := aB hc
  obtain ⟨hx, h1⟩ := aB hc
  have h1 := of_decide_eq_true h1
  have h2 := of_decide_eq_true h2
  have hsz : (Builtin.Int.intBits x : Int) * y ≤ 2 ^ 27 := by
   have : Builtin.Int.intBits x ≤ 7 := by
    simp only [Bool.or_eq_true, beq_iff_eq] at hx
    rcases hx with (((rfl | rfl) | rfl) | rfl) | rfl <;> decide
   exact Int.le_trans (Int.mul_le_mul_of_nonneg_right (ofNat_le.mpr this) h1) (Int.le_trans (Int.mul_le_mul_of_nonneg_left (Int.le_of_lt h2) (by decide)) (by decide))
  exact ⟨_, rfl, fun k => ⟨pow_int h1 hsz (k _ _), ipow_int h1 hsz (k _ _)⟩⟩
 | LShift =>
  obtain ⟨hc, h⟩ := iS h
  cases h
  obtain ⟨hc, h3⟩ := aB hc
  obtain ⟨hc, h2⟩ := aB hc
  have h1 := of_decide_eq_true (aB hc).2
  have h2 := of_decide_eq_true h2
  have hsz : (Builtin.Int.intBits x : Int) + y ≤ 2 ^ 27 := Int.le_trans (Int.add_le_add (ofNat_le.mpr (intOk_bits h3)) (Int.le_of_lt h2)) (by decide)
  exact ⟨_, rfl, fun k => ⟨lshift_int h1 hsz (k _ _), ilshift_int h1 hsz (k _ _)⟩⟩
 | BitOr =>
  obtain ⟨hc, h⟩ := iS h
  cases h
  refine ⟨_, rfl, fun k => ?_⟩
  rw [← bitOr_pp (dec_and hc).1 (dec_and hc).2] at k
  exact ⟨or_int (k _ _), ior_int (k _ _)⟩
 | BitXor =>
  obtain ⟨hc, h⟩ := iS h
  cases h
  refine ⟨_, rfl, fun k => ?_⟩
  rw [← bitXor_pp (dec_and hc).1 (dec_and hc).2] at k
  exact ⟨xor_int (k _ _), ixor_int (k _ _)⟩
 | BitAnd =>
  obtain ⟨hc, h⟩ := iS h
  cases h
  refine ⟨_, rfl, fun k => ?_⟩
  rw [← bitAnd_pp (dec_and hc).1 (dec_and hc).2] at k
  exact ⟨and_int (k _ _), iand_int (k _ _)⟩
 | _ => exact nN h
theorem foldl_flat {α : Type} (x : Array α) (n : Nat) : ∀ (acc : Array α), ((replicate n x).foldl (· ++ ·) acc).toList = acc.toList ++ (replicate n x.toList).flatten := by
 induction n with
 | zero => exact fun acc => (append_nil _).symm
 | succ n ih => intro acc; rw [replicate_succ, foldl_cons, ih, replicate_succ, flatten_cons, toList_append, append_assoc]
theorem str_ext {x : Str} {l : List Nat} (h : x.cps.toList = l) : x = S l := by cases x; subst h; rfl
theorem RVs_flat {h : Heap} {r : List Value} (rs : RVs h κ l r) (n : Nat) : RVs h κ (replicate n l).flatten (replicate n r).flatten := by
 induction n with
 | zero => exact rfl
 | succ n ih => rw [replicate_succ, replicate_succ, flatten_cons, flatten_cons]; exact RVs_app rs ih
theorem sum_line {a c : Nat} (h : lO (a + c) = true) : a + c ≤ sizeLine := le_trans (lenOk_le h) (by decide)
theorem toArr : (v1.toList ++ v2.toList).toArray = v1 ++ v2 := toList_inj.mp toList_append.symm
theorem addList_sound {r : List V} {a1 a2 : Addr} (hl : lO (l.length + r.length) = true) (R : RelW w κ Fs O s.heap) (p1 : s.heap.PlainList a1 v1) (s1 : RVs s.heap κ l v1.toList) (p2 : s.heap.PlainList a2 v2) (s2 : RVs s.heap κ r v2.toList) (q : Q (.lst (l ++ r)) O) :
 wpAny (MW w) A (binaryOp .Add (.ref a1) (.ref a2)) (End w b κ Fs O s RV Q) E s := by
 obtain ⟨n1, p1⟩ := p1
 obtain ⟨n2, p2⟩ := p2
 rw [RVs_size s1, RVs_size s2] at hl
 have := new_lst (b := b) (s := s) R q (RVs_app s1 s2)
 rw [toArr] at this
 exact P.add_list p1 p2 this (sum_line hl)
theorem ne_empty {h : Heap} {vals : Array Value} (rs : RVs h κ l vals.toList) (h : (!l.isEmpty) = true) : ¬ vals.isEmpty = true := fun q => by
 rw [← RVs_empty rs, q] at h; exact ff_ne h
theorem add_sound {x y : V} (h : binV O .Add x y = some v) (R : RelW w κ Fs O s.heap) (rx : RV s.heap κ x cx) (ry : RV s.heap κ y cy) (q : Q v O) : wpAny (MW w) A (binaryOp .Add cx cy) (End w b κ Fs O s RV Q) E s := by
 cases x with
 | int x =>
  cases y with
  | int y =>
   obtain ⟨t, rfl⟩ := rx; obtain ⟨u, rfl⟩ := ry
   obtain ⟨z, rfl, k⟩ := bin_int (w := w) (A := A) h
   exact (k fun t' k => End.tok R q ⟨_, rfl⟩).1
  | _ => exact nN h
 | str x =>
  cases y with
  | str y =>
   obtain ⟨t, rfl⟩ := rx; obtain ⟨u, rfl⟩ := ry
   obtain ⟨hl, h⟩ := iS h
   cases h
   refine SB.add (fun t' k => End.tok R q ⟨t', ?_⟩) (by rw [sL, sL]; exact sum_line hl)
   exact congrArg (Value.str · t') (str_ext toList_append)
  | _ => exact nN h
 | tup x =>
  cases y with
  | tup y =>
   obtain ⟨a1, v1, rfl, ⟨n1, t1⟩, o1, s1⟩ := rx
   obtain ⟨a2, v2, rfl, ⟨n2, t2⟩, o2, s2⟩ := ry
   obtain ⟨hc, h⟩ := iS h
   cases h
   obtain ⟨hc, hl⟩ := aB hc
   rw [RVs_size s1, RVs_size s2] at hl
   have := new_tup (b := b) (s := s) R q (RVs_app s1 s2)
   rw [toArr] at this
   exact P.add_tuple t1 t2 (ne_empty s1 (aB hc).1) (ne_empty s2 (aB hc).2) this (sum_line hl)
  | _ => exact nN h
 | lst l =>
  obtain ⟨r, h1, h⟩ := bS h
  obtain ⟨hl, h⟩ := iS h
  cases h
  obtain ⟨a1, v1, rfl, p1, o1, s1⟩ := rx
  obtain ⟨a2, v2, rfl, p2, s2⟩ := items_of R h1 ry
  exact addList_sound hl R p1 s1 p2 s2 q
 | ref m =>
  obtain ⟨l, h0, h⟩ := bS h
  obtain ⟨r, h1, h⟩ := bS h
  obtain ⟨hl, h⟩ := iS h
  cases h
  obtain ⟨a1, v1, rfl, _, p1, s1⟩ := R.list h0 rx
  obtain ⟨a2, v2, rfl, p2, s2⟩ := items_of R h1 ry
  exact addList_sound hl R p1 s1 p2 s2 q
 | _ => exact nN h
theorem mulList_sound {a : Addr} {vals : Array Value} {u : Tok} (h : mulL l y = some v) (R : RelW w κ Fs O s.heap) (p : s.heap.PlainList a vals) (rs : RVs s.heap κ l vals.toList) (q : Q v O) : wpAny (MW w) A (binaryOp .Mult (.ref a) (.int y u)) (End w b κ Fs O s RV Q) E s := by
 obtain ⟨n, hp⟩ := p
 obtain ⟨hc, h⟩ := iS h
 cases h
 obtain ⟨hc, h2⟩ := aB hc
 obtain ⟨hn0, h1⟩ := dec_and hc
 rw [RVs_size rs] at h2
 have h2 := lenOk_le h2
 refine wpAny_binaryOp_repeat_ref (T := "list") (U := "int") (by decide) ⟨_, hp, rfl⟩ (fun s' => typeIs_int s' y u) noFill_list_mul F.fills_int_mul F.slot_int_rmul repeat_list F.slot_int_index.lookup
  (call_meets F.slot_int_rmul (typeIs_int s y u) F.entry_int_rmul (F.args_int_rmul_2 _ _) (int___rmul___int_list y u a vals n)
   ⟨hp, rfl, ⟨_, hp, rfl⟩, call_meets F.slot_list_mul ⟨_, hp, rfl⟩ F.entry_list_mul (F.args_list_mul_2 _ _)
    (AutoListH.list___mul___list_int_3 a vals n y u (by simp [Builtin.List.listFitsIndex]; exact ⟨Int.le_trans (by decide) hn0, Int.lt_trans h1 (by decide)⟩) (not_lt.mpr (le_trans h2 (by decide))) (by simp [Builtin.List.listTooLong, sizeLine]; exact le_trans (by with_reducible assumption) (by decide))) ⟨hp, ?_⟩⟩)
 have := new_lst (b := b) (s := s) R q (RVs_flat rs y.toNat)
 have e : (replicate y.toNat vals.toList).flatten.toArray = List.foldl (fun x1 x2 => x1 ++ x2) #[] (replicate (if vals.isEmpty = true then 0 else y.toNat) vals) := by
  apply toList_inj.mp
  rw [foldl_flat]
  split
  ·rename_i q
   rw [Array.isEmpty_iff.mp q]
   simp
  ·rfl
 rw [e] at this
 exact this
theorem bin_sound {x y : V} (h : binV O op x y = some v) (R : RelW w κ Fs O s.heap) (rx : RV s.heap κ x cx) (ry : RV s.heap κ y cy) (q : Q v O) : wpAny (MW w) A (binaryOp op cx cy) (End w b κ Fs O s RV Q) E s := by
 have hints : ∀ f, int2 x y f = some v → wpAny (MW w) A (binaryOp op cx cy) (End w b κ Fs O s RV Q) E s := fun f hf => by
  cases x with
  | int x =>
   cases y with
   | int y =>
    obtain ⟨t, rfl⟩ := rx; obtain ⟨u, rfl⟩ := ry
    obtain ⟨z, rfl, k⟩ := bin_int (w := w) (A := A) h
    exact (k fun t' k => End.tok R q ⟨_, rfl⟩).1
   | _ => exact nN hf
  | _ => exact nN hf
 cases op with
 | Add => exact add_sound h R rx ry q
 | Mult =>
  cases y with
  | int y =>
   cases x with
   | int x =>
    obtain ⟨t, rfl⟩ := rx; obtain ⟨u, rfl⟩ := ry
    obtain ⟨z, rfl, k⟩ := bin_int (w := w) (A := A) h
    exact (k fun t' k => End.tok R q ⟨_, rfl⟩).1
   | lst l => obtain ⟨a, vals, rfl, p, _, rs⟩ := rx; obtain ⟨u, rfl⟩ := ry; exact mulList_sound h R p rs q
   | ref m => obtain ⟨l, h0, h⟩ := bS h; obtain ⟨a, vals, rfl, _, p, rs⟩ := R.list h0 rx; obtain ⟨u, rfl⟩ := ry; exact mulList_sound h R p rs q
   | _ => exact nN h
  | _ => exact nN h
 | Sub => exact hints _ h
 | FloorDiv => exact hints _ h
 | Mod => exact hints _ h
 | Pow => exact hints _ h
 | LShift => exact hints _ h
 | BitAnd => exact hints _ h
 | BitOr => exact hints _ h
 | BitXor => exact hints _ h
 | _ => exact nN h
theorem inpl_sound {j : Int} (h : binV O op (.int i) (.int j) = some v) (R : RelW w κ Fs O s.heap) (rx : RV s.heap κ (.int i) cx) (ry : RV s.heap κ (.int j) cy) (q : Q v O) : wpAny (MW w) A (inplaceOp op cx cy) (End w b κ Fs O s RV Q) E s := by
 obtain ⟨t, rfl⟩ := rx; obtain ⟨u, rfl⟩ := ry
 obtain ⟨z, rfl, k⟩ := bin_int (w := w) (A := A) h
 exact (k fun t' k => End.tok R q ⟨_, rfl⟩).2
end
end
section
variable {h : Heap} {a : Addr} {x y c : V} {f : V → V → Option Bool} {t : Bool} {cx cc cy : Value} {n : Nat} {Q1 Q2 : V → Oj → Prop}
set_option backward.match.sparseCases false
section
variable {w : World} {A : Around} {b : Nat} {κ : Pl} {Fs : List Fr} {O : Oj} {s : Shared} {E : Value → Shared → Prop} {Q : V → Oj → Prop}
theorem plain_same {x y : Array Value} (p : h.PlainList a x) (q : h.PlainList a y) : x = y := by
 obtain ⟨n, hn⟩ := p; obtain ⟨m, hm⟩ := q
 cases hn.symm.trans hm; rfl
theorem ptup_same {x y : Array Value} (p : PTup h a x) (q : PTup h a y) : x = y := by
 obtain ⟨n, hn⟩ := p; obtain ⟨m, hm⟩ := q
 cases hn.symm.trans hm; rfl
theorem pyEqs_cons {a : V} {l1 l2 : List V} (e : pyEqs f (a :: l1) (c :: l2) = some t) : ∃ x y, f a c = some x ∧ pyEqs f l1 l2 = some y ∧ (x && y) = t :=
 by obtain ⟨x, h1, e⟩ := bS e; obtain ⟨y, h2, e⟩ := mS e; exact ⟨x, y, h1, h2, e⟩
theorem pyEqs_same (hf : ∀ {v1 v2 : V} {c : Value} {t : Bool}, f v1 v2 = some t → RV h κ v1 c → RV h κ v2 c → t = true) (l1 : List V) : ∀ {l2 : List V} {r : List Value} {t : Bool}, pyEqs f l1 l2 = some t → RVs h κ l1 r → RVs h κ l2 r → t = true := by
 induction l1 with
 | nil => intro l2 r t e _ _; cases l2 with | nil => cases e; rfl | cons => exact nN e
 | cons a l1 ih =>
  intro l2 r t e r1 r2
  cases l2 with
  | nil => exact nN e
  | cons c l2 =>
   obtain ⟨x, y, h1, h2, rfl⟩ := pyEqs_cons e
   obtain ⟨cv, r, rfl, r1, r3⟩ := r1
   obtain ⟨cv', r', e', r2, r4⟩ := r2
   cases e'
   rw [hf h1 r1 r2, ih h2 r3 r4]; rfl
noncomputable def vEq : Value → Value → Bool
 | .none, .none => true
 | .bool a, .bool b => a == b
 | .int a _, .int b _ => a == b
 | .str a _, .str b _ => a == b
 | _, _ => false
structure Eqs (A : Around) (s : Shared) (c1 c2 : Value) (t : Bool) : Prop where
 eq : SeqAt.EqAt A s c1 c2 t
 rc : SeqAt.RcAt A s c1 c2 t
 ne : SeqAt.RcNeAt A s c1 c2 (!t)
theorem leaf_sound {v : V} {cv : Value} (h : leafEq v x = some t) (r : RV s.heap κ v cv) (rx : RV s.heap κ x cx) : vEq cv cx = t ∧ (∀ A, Eqs A s cv cx t) ∧ (cv = cx → t = true) := by
 cases v with
 | none => cases x with
  | none => cases h; cases r; cases rx; exact ⟨rfl, fun A => ⟨SeqAt.EqAt.same _, SeqAt.RcAt.none_none, SeqAt.RcNeAt.none_none⟩, fun _ => rfl⟩
  | _ => exact nN h
 | bool a => cases x with
  | bool c => cases h; cases r; cases rx; exact ⟨rfl, fun A => ⟨SeqAt.EqAt.bool_bool _ _, SeqAt.RcAt.bool_bool _ _, SeqAt.RcNeAt.bool_bool _ _⟩, fun e => by cases e; exact beq_self_eq_true _⟩
  | _ => exact nN h
 | int a => cases x with
  | int c => cases h; obtain ⟨u, rfl⟩ := r; obtain ⟨u', rfl⟩ := rx; exact ⟨rfl, fun A => ⟨SeqAt.EqAt.int_int _ u _ u', SeqAt.RcAt.int_int _ u _ u', SeqAt.RcNeAt.int_int _ u _ u'⟩, fun e => by cases e; exact decide_eq_true rfl⟩
  | _ => exact nN h
 | str a => cases x with
  | str c =>
   cases h; obtain ⟨u, rfl⟩ := r; obtain ⟨u', rfl⟩ := rx
   have : decide (a = c) = (S a == S c) := by
    by_cases q : a = c
    ·rw [q, decide_eq_true rfl, beq_self_eq_true]
    ·rw [decide_eq_false q, beq_false_of_ne fun z => q (S_inj z)]
   rw [this]
   exact ⟨rfl, fun A => ⟨SeqAt.EqAt.str_str _ u _ u', SeqAt.RcAt.str_str _ u _ u', SeqAt.RcNeAt.str_str _ u _ u'⟩, fun e => beq_iff_eq.mpr (Value.str.inj e).1⟩
  | _ => exact nN h
 | _ => exact nN h
theorem pyEq_cases {v1 v2 : V} (e : pyEq O (n + 1) v1 v2 = some t) : leafEq v1 v2 = some t ∨ (∃ x y, v1 = .tup x ∧ v2 = .tup y ∧ pyEqs (pyEq O n) x y = some t) ∨
 ∃ x y, iO O v1 = some x ∧ iO O v2 = some y ∧ (x.length = y.length ∧ pyEqs (pyEq O n) x y = some t ∨ x.length ≠ y.length ∧ t = false) := by
 have ls : ∀ {l}, iO O v1 = some l → eqL O (pyEq O n) l v2 = some t → ∃ x y, iO O v1 = some x ∧ iO O v2 = some y ∧ (x.length = y.length ∧ pyEqs (pyEq O n) x y = some t ∨ x.length ≠ y.length ∧ t = false) := fun {l} h1 e => by
  obtain ⟨r, h2, e⟩ := bS e
  refine ⟨l, r, h1, h2, ?_⟩
  by_cases hl : (l.length == r.length) = true
  ·rw [if_pos hl] at e; exact .inl ⟨beq_iff_eq.mp hl, e⟩
  ·rw [if_neg hl] at e; cases e; exact .inr ⟨fun q => hl (beq_iff_eq.mpr q), rfl⟩
 cases v1 with
 | tup x =>
  cases v2 with
  | tup y => obtain ⟨_, e⟩ := iS e; exact .inr (.inl ⟨x, y, rfl, rfl, e⟩)
  | _ => exact nN e
 | lst l => exact .inr (.inr (ls rfl e))
 | ref k => obtain ⟨l, h1, e⟩ := bS e; exact .inr (.inr (ls h1 e))
 | _ => exact .inl e
theorem pyEq_same (R : RelW w κ Fs O s.heap) (n : Nat) : ∀ {v1 v2 : V} {c : Value} {t : Bool}, pyEq O n v1 v2 = some t → RV s.heap κ v1 c → RV s.heap κ v2 c → t = true := by
 induction n with
 | zero => intro v1 v2 c t e; exact nN e
 | succ n ih =>
  intro v1 v2 c t e r1 r2
  rcases pyEq_cases e with e | ⟨x, y, rfl, rfl, e1⟩ | ⟨x, y, h1, h2, e⟩
  ·exact (leaf_sound e r1 r2).2.2 rfl
  ·obtain ⟨a, vals, rfl, ht, _, rs⟩ := r1
   obtain ⟨a', vals', e', ht', _, rs'⟩ := r2
   cases e'
   exact pyEqs_same ih _ e1 rs (ptup_same ht ht' ▸ rs')
  ·obtain ⟨a, vals, rfl, hp, rs⟩ := items_of R h1 r1
   obtain ⟨a', vals', e', hp', rs'⟩ := items_of R h2 r2
   cases e'
   rcases e with ⟨hl, e⟩ | ⟨hl, _⟩
   ·exact pyEqs_same ih _ e rs (plain_same hp hp' ▸ rs')
   ·exact absurd ((RVs_size rs).trans ((plain_same hp hp' ▸ RVs_size rs').symm)) hl
theorem pyEqs_all {K : Value → Value → Bool → Prop} (hf : ∀ {v1 v2 : V} {c1 c2 : Value} {t : Bool}, f v1 v2 = some t → RV h κ v1 c1 → RV h κ v2 c2 → K c1 c2 t) (l1 : List V) :
 ∀ {l2 : List V} {r1 r2 : List Value} {t : Bool}, pyEqs f l1 l2 = some t → RVs h κ l1 r1 → RVs h κ l2 r2 → ∃ ts : List Bool, ts.length = r1.length ∧ r1.length = r2.length ∧ ts.all id = t ∧ ∀ (j : Nat) c1 c2, r1[j]? = some c1 → r2[j]? = some c2 → K c1 c2 (ts.getD j true) := by
 induction l1 with
 | nil => intro l2 r1 r2 t e q1 q2; cases l2 with
  | nil => cases e; cases q1; cases q2; exact ⟨[], rfl, rfl, rfl, fun j c1 c2 q => nomatch q⟩
  | cons => exact nN e
 | cons a l1 ih =>
  intro l2 r1 r2 t e q1 q2
  cases l2 with
  | nil => exact nN e
  | cons c l2 =>
   obtain ⟨x, y, h1, h2, rfl⟩ := pyEqs_cons e
   obtain ⟨cv, r, rfl, q1, q3⟩ := q1
   obtain ⟨cv', r', rfl, q2, q4⟩ := q2
   obtain ⟨ts, k1, k2, k3, k4⟩ := ih h2 q3 q4
   refine ⟨x :: ts, congrArg (· + 1) k1, congrArg (· + 1) k2, congrArg (x && ·) k3, fun j c1 c2 e1 e2 => ?_⟩
   cases j with
   | zero => cases e1; cases e2; exact hf h1 q1 q2
   | succ j => exact k4 j c1 c2 e1 e2
theorem range_all {ts : List Bool} (h : ts.length = n) : (List.range n).all (fun j => ts.getD j true) = ts.all id := by
 subst h
 induction ts with
 | nil => rfl
 | cons x ts ih =>
  rw [length_cons, List.range_succ_eq_map, List.all_cons, List.all_map, List.all_cons, ← ih]; rfl
theorem pyEq_sound (R : RelW w κ Fs O s.heap) (n : Nat) : ∀ {A : Around} {v1 v2 : V} {c1 c2 : Value} {t : Bool}, pyEq O n v1 v2 = some t → A.units + n < 9900 → RV s.heap κ v1 c1 → RV s.heap κ v2 c2 → Eqs A s c1 c2 t := by
 induction n with
 | zero => intro A v1 v2 c1 c2 t e; exact nN e
 | succ n ih =>
  intro A v1 v2 c1 c2 t e hu r1 r2
  have hcl : A.units < cLine := lt_of_le_of_lt (le_add_right _ _) hu
  have hin : A.in1.units + n < 9900 := by show A.units + 1 + n < 9900; exact lt_of_le_of_lt (le_of_eq (succ_add _ _)) hu
  have same := fun c => pyEq_same R (n + 1) (c := c) e
  -- items, one by one
  have els : ∀ {x y : List V} {vals vals' : Array Value}, pyEqs (pyEq O n) x y = some t → RVs s.heap κ x vals.toList → RVs s.heap κ y vals'.toList → vals.size = vals'.size ∧ ∃ f : Nat → Bool, (List.range vals.size).all f = t ∧ ∀ j (h1 : j < vals.size) (h2 : j < vals'.size), SeqAt.EqAt A.in1 s vals[j] vals'[j] (f j) := fun e rs rs' => by
   obtain ⟨ts, k1, k2, k3, k4⟩ := pyEqs_all (K := fun c1 c2 t => SeqAt.EqAt A.in1 s c1 c2 t) (fun e q1 q2 => (ih e hin q1 q2).eq) _ e rs rs'
   exact ⟨k2, fun j => ts.getD j true, (range_all k1).trans k3, fun j h1 h2 => k4 j _ _ (by rw [getElem?_toList]; exact Array.getElem?_eq_getElem h1) (by rw [getElem?_toList]; exact Array.getElem?_eq_getElem h2)⟩
  have refs : ∀ {a a' : Addr}, c1 = .ref a → c2 = .ref a' → SeqAt.RcAt A s c1 c2 t → SeqAt.RcNeAt A s c1 c2 (!t) → Eqs A s c1 c2 t := fun {a a'} e1 e2 rc ne => by
   refine ⟨?_, rc, ne⟩
   by_cases haa : a = a'
   ·cases haa; cases e1; cases e2
    rw [same _ r1 r2]; exact SeqAt.EqAt.same _
   ·cases e1; cases e2; exact SeqAt.EqAt.of_refs haa rc
  rcases pyEq_cases e with e | ⟨x, y, rfl, rfl, e1⟩ | ⟨x, y, h1, h2, e⟩
  ·exact (leaf_sound e r1 r2).2.1 A
  ·obtain ⟨a, vals, rfl, ht, _, rs⟩ := id r1
   obtain ⟨a', vals', rfl, ht', _, rs'⟩ := id r2
   obtain ⟨hs, f, hall, he⟩ := els e1 rs rs'
   have hall : ((List.range (min vals.size vals'.size)).all f && vals.size == vals'.size) = t := by rw [← hs, Nat.min_self, hall, beq_self_eq_true, Bool.and_true]
   exact refs rfl rfl (hall ▸ SeqAt.RcAt.tuples ht.isTuple ht'.isTuple hcl he) (hall ▸ SeqAt.RcNeAt.tuples ht.isTuple ht'.isTuple hcl he)
  ·obtain ⟨a, vals, rfl, hp, rs⟩ := items_of R h1 r1
   obtain ⟨a', vals', rfl, hp', rs'⟩ := items_of R h2 r2
   rcases e with ⟨hl, e⟩ | ⟨hl, rfl⟩
   ·obtain ⟨hs, f, hall, he⟩ := els e rs rs'
    exact refs rfl rfl (hall ▸ SeqAt.RcAt.lists hp.isList hp'.isList hs hcl he) (hall ▸ SeqAt.RcNeAt.lists hp.isList hp'.isList hs hcl he)
   ·have hs : (vals.size != vals'.size) = true := bne_iff_ne.mpr fun q => hl ((RVs_size rs).trans (q.trans (RVs_size rs').symm))
    exact refs rfl rfl (SeqAt.RcAt.lists_lengths hp.isList hp'.isList hs hcl) (SeqAt.RcNeAt.lists_lengths hp.isList hp'.isList hs hcl)
theorem any_sound (rx : RV s.heap κ x cx) (l : List V) : ∀ {r : List Value} {t : Bool}, anyEq l x = some t → RVs s.heap κ l r → (r.any fun y => vEq y cx) = t ∧ ∀ y ∈ r, SeqAt.EqAt A s y cx (vEq y cx) := by
 induction l with
 | nil => intro r t h e; cases h; cases e; exact ⟨rfl, fun _ h => nomatch h⟩
 | cons v l ih =>
  intro r t h e
  obtain ⟨cv, r, rfl, r1, r2⟩ := e
  obtain ⟨a, h1, h⟩ := bS h
  obtain ⟨c, h2, h⟩ := mS h
  cases h
  obtain ⟨e1, e2, _⟩ := leaf_sound h1 r1 rx
  obtain ⟨k1, k2⟩ := ih h2 r2
  refine ⟨by rw [any_cons, e1, k1], fun y hy => (mem_cons.mp hy).elim (fun e => ?_) (k2 y)⟩
  rw [e, e1]; exact (e2 A).eq
noncomputable def SetsOk (w : World) : Prop := ∀ a l, GG.sets.lookup a = some l → ∃ n, (HW w).SetOf (intKind PG w) a (fun i => l.contains i) n
theorem in_sound (T : SetsOk w) (h : inV GG O x c = some t) (R : RelW w κ Fs O s.heap) (rx : RV s.heap κ x cx) (rc : RV s.heap κ c cc) :
 (Q1 (.bool t) O → wpAny (MW w) A (compareOp .In cx cc) (End w b κ Fs O s RV Q1) E s) ∧ (Q2 (.bool (!t)) O → wpAny (MW w) A (compareOp .NotIn cx cc) (End w b κ Fs O s RV Q2) E s) := by
 have arr : ∀ {l : List V} {vals : Array Value}, anyEq l x = some t → RVs s.heap κ l vals.toList → vals.any (fun y => vEq y cx) = t ∧ ∀ y, y ∈ vals → SeqAt.EqAt A.in1 s y cx (vEq y cx) := fun h rs =>
  let ⟨k1, k2⟩ := any_sound (A := A.in1) rx _ h rs
  ⟨by rw [← k1, ← Array.any_toList], fun y hy => k2 y (Array.mem_toList_iff.mpr hy)⟩
 have lists : ∀ {l : List V} {a : Addr} {vals : Array Value}, anyEq l x = some t → s.heap.PlainList a vals → RVs s.heap κ l vals.toList →
  (Q1 (.bool t) O → wpAny (MW w) A (compareOp .In cx (.ref a)) (End w b κ Fs O s RV Q1) E s) ∧ (Q2 (.bool (!t)) O → wpAny (MW w) A (compareOp .NotIn cx (.ref a)) (End w b κ Fs O s RV Q2) E s) := fun h hp rs =>
  let ⟨e, he⟩ := arr h rs
  ⟨fun q => SeqAt.in_listAt _ hp.isList he (End.here R q (congrArg Value.bool e)), fun q => SeqAt.notIn_listAt _ hp.isList he (End.here R q (congrArg (fun t => Value.bool (!t)) e))⟩
 cases c with
 | str l =>
  cases x with
  | str y =>
   cases h
   obtain ⟨u, rfl⟩ := rx
   obtain ⟨u', rfl⟩ := rc
   exact ⟨fun q => P.in_str (End.here R q (by rw [sL]; rfl)), fun q => P.notIn_str (End.here R q (by rw [sL]; rfl))⟩
  | _ => exact nN h
 | lst l => obtain ⟨a, vals, rfl, hp, _, rs⟩ := rc; exact lists h hp rs
 | ref m => obtain ⟨l, h1, h⟩ := bS h; obtain ⟨a, vals, rfl, _, hp, rs⟩ := R.list h1 rc; exact lists h hp rs
 | cst d =>
  cases d with
  | ref a =>
   cases rc
   obtain ⟨l, hl, h⟩ := bS h
   cases x with
   | int i =>
    obtain ⟨_, h⟩ := iS h
    cases h
    obtain ⟨u, rfl⟩ := rx
    obtain ⟨n, o, es, ep, t, ho, r⟩ := T a l hl
    have hS : s.heap.SetOf (intKind PG w) a (fun i => l.contains i) n := ⟨o, es, ep, t, R.base _ _ ho, r⟩
    exact ⟨fun q => wpAny_inSet_of (k := i) (decide_eq_true rfl) rfl hS (End.tok R q rfl), fun q => wpAny_notInSet_of (k := i) (decide_eq_true rfl) rfl hS (End.tok R q rfl)⟩
   | _ => exact nN h
  | _ => exact nN h
 | _ => exact nN h
theorem inD_sound (B : Base w) (T : SetsOk w) (h : inD GG O x c = some t) (R : RelW w κ Fs O s.heap) (rx : RV s.heap κ x cx) (rc : RV s.heap κ c cc) :
 (Q1 (.bool t) O → wpAny (MW w) A (compareOp .In cx cc) (End w b κ Fs O s RV Q1) E s) ∧ (Q2 (.bool (!t)) O → wpAny (MW w) A (compareOp .NotIn cx cc) (End w b κ Fs O s RV Q2) E s) := by
 unfold inD at h
 cases c with
 | ref n =>
  cases hE : entryAt O n x with
  | none => simp only [hE] at h; exact in_sound T h R rx rc
  | some r =>
   simp only [hE] at h
   cases h
   obtain ⟨a, hi, D⟩ := R.entry hE rx
   obtain ⟨a', rfl, hi'⟩ := rc
   cases Option.some.inj (hi.symm.trans hi')
   cases D with
   | @mk K _ knd kvs k da is val =>
    have e : (valueAt kvs k).isSome = r.isSome := by
     cases r with
     | none => cases hv : valueAt kvs k with
      | none => rfl
      | some _ => rw [hv] at val; exact val.elim
     | some v => obtain ⟨cv, hv, _⟩ := OptR.some val; rw [hv]; rfl
    exact ⟨fun q => wpAny_in_of (is PG) (sys_off B R (Pl.mt_ob hi)) (da PG).dictOf.mapOf (End.tok R q (e ▸ rfl)), fun q => wpAny_notIn_of (is PG) (sys_off B R (Pl.mt_ob hi)) (da PG).dictOf.mapOf (End.tok R q (e ▸ rfl))⟩
 | _ => exact in_sound T h R rx rc
theorem is_sound (h : isV x y = some t) (R : RelW w κ Fs O s.heap) (rx : RV s.heap κ x cx) (ry : RV s.heap κ y cy) :
 (Q1 (.bool t) O → wpAny (MW w) A (compareOp .Is cx cy) (End w b κ Fs O s RV Q1) E s) ∧ (Q2 (.bool (!t)) O → wpAny (MW w) A (compareOp .IsNot cx cy) (End w b κ Fs O s RV Q2) E s) := by
 have ne : cx ≠ .none → cy = .none → t = false → (Q1 (.bool t) O → wpAny (MW w) A (compareOp .Is cx cy) (End w b κ Fs O s RV Q1) E s) ∧ (Q2 (.bool (!t)) O → wpAny (MW w) A (compareOp .IsNot cx cy) (End w b κ Fs O s RV Q2) E s) := fun n e e' => by
  subst e e'
  exact ⟨fun q => is_none_ne n (End.here R q rfl), fun q => isnot_none_ne n (End.here R q rfl)⟩
 cases y with
 | none =>
  cases ry
  cases x with
  | none => cases h; cases rx; exact ⟨fun q => is_none_none (End.here R q rfl), fun q => isnot_none_none (End.here R q rfl)⟩
  | bool c => cases rx; exact ne nofun rfl (Option.some.inj h).symm
  | int i => obtain ⟨u, rfl⟩ := rx; exact ne nofun rfl (Option.some.inj h).symm
  | str l => obtain ⟨u, rfl⟩ := rx; exact ne nofun rfl (Option.some.inj h).symm
  | tup l => obtain ⟨a, vals, rfl, _⟩ := rx; exact ne nofun rfl (Option.some.inj h).symm
  | lst l => obtain ⟨a, vals, rfl, _⟩ := rx; exact ne nofun rfl (Option.some.inj h).symm
  | ref k => obtain ⟨a, rfl, _⟩ := rx; exact ne nofun rfl (Option.some.inj h).symm
  | lam _ _ _ => obtain ⟨a, o, fd, rfl, _⟩ := rx; exact ne nofun rfl (Option.some.inj h).symm
  | opq a => obtain ⟨rfl, _⟩ := rx; exact ne nofun rfl (Option.some.inj h).symm
  | _ => exact nN h
 | bool d =>
  cases ry
  cases x with
  | bool c => cases h; cases rx; exact ⟨fun q => is_bool (End.here R q rfl), fun q => isnot_bool (End.here R q rfl)⟩
  | none => cases h; cases rx; exact ⟨fun q => wpAny_is_other rfl nofun (End.here R q rfl), fun q => wpAny_isNot_other rfl nofun (End.here R q rfl)⟩
  | _ => exact nN h
 | _ => exact nN h
theorem int2b_is {f : Int → Int → Bool} (h : int2b x y f = some t) : ∃ i j, x = .int i ∧ y = .int j ∧ t = f i j := by
 cases x with
 | int i => cases y with
  | int j => cases h; exact ⟨i, j, rfl, rfl, rfl⟩
  | _ => exact nN h
 | _ => exact nN h
theorem cmp_sound (B : Base w) (T : SetsOk w) {op : CmpOp} (h : cmpV GG O op x y = some t) (ok : Ok A 1) (R : RelW w κ Fs O s.heap) (rx : RV s.heap κ x cx) (ry : RV s.heap κ y cy) (q : Q (.bool t) O) : wpAny (MW w) A (compareOp op cx cy) (End w b κ Fs O s RV Q) E s := by
 have hu : A.units + 9 < 9900 := lt_of_le_of_lt (le_trans (add_le_add_left (by decide) _) ok.uni) (by decide)
 have hi : ∀ f, int2b x y f = some t → (∀ {i j u u'}, t = f i j → cx = .int i u → cy = .int j u' → wpAny (MW w) A (compareOp op cx cy) (End w b κ Fs O s RV Q) E s) → wpAny (MW w) A (compareOp op cx cy) (End w b κ Fs O s RV Q) E s := fun f h k => by
  obtain ⟨i, j, rfl, rfl, e⟩ := int2b_is h
  obtain ⟨u, ex⟩ := rx
  obtain ⟨u', ey⟩ := ry
  exact k e ex ey
 cases op with
 | Eq => exact (pyEq_sound R 9 h hu rx ry).rc PG w E _ (End.here R q rfl)
 | NotEq => obtain ⟨u, h1, rfl⟩ := mS h; exact (pyEq_sound R 9 h1 hu rx ry).ne PG w E _ (End.here R q rfl)
 | Is => exact (is_sound (Q2 := Q) h R rx ry).1 q
 | IsNot => obtain ⟨u, h1, rfl⟩ := mS h; exact (is_sound (Q1 := Q) h1 R rx ry).2 q
 | In => exact (inD_sound B T (Q2 := Q) h R rx ry).1 q
 | NotIn => obtain ⟨u, h1, rfl⟩ := mS h; exact (inD_sound B T (Q1 := Q) h1 R rx ry).2 q
 | Lt => exact hi _ h fun e e1 e2 => e1 ▸ e2 ▸ P.lt_int (End.here R q (e ▸ rfl))
 | LtE => exact hi _ h fun e e1 e2 => e1 ▸ e2 ▸ P.le_int (End.here R q (e ▸ rfl))
 | Gt => exact hi _ h fun e e1 e2 => e1 ▸ e2 ▸ P.gt_int (End.here R q (e ▸ rfl))
 | GtE => exact hi _ h fun e e1 e2 => e1 ▸ e2 ▸ P.ge_int (End.here R q (e ▸ rfl))
end
set_option backward.match.sparseCases true
end
section
variable {k : Int} {n : Nat} {l : List V} {v x y : V} {a : Addr} {cx cy cl ch cs : Value} {h : Heap} {lo hi : Option Int}
theorem kOk_lt (h : kOk k = true) : -(2 ^ 60) < k ∧ k < 2 ^ 60 := by
 have h := of_decide_eq_true h
 omega
theorem nat_idx {j : Nat} (h : seqIndex? k n = some j) : (0 ≤ k ∧ k.toNat = j ∧ j < n) ∨ (k < 0 ∧ -(n : Int) ≤ k ∧ (k + n).toNat = j ∧ j < n) := by
 unfold seqIndex? at h
 by_cases hk : k < 0
 ·simp only [hk, if_true] at h
  split at h
  ·rename_i hc
   obtain ⟨h1, h2⟩ := dec_and hc
   have h := Option.some.inj h
   exact .inr ⟨hk, by omega, h, by omega⟩
  ·exact nN h
 ·simp only [hk, if_false] at h
  split at h
  ·rename_i hc
   obtain ⟨h1, h2⟩ := dec_and hc
   have h := Option.some.inj h
   exact .inl ⟨by omega, h, by omega⟩
  ·exact nN h
section
variable {w : World} {A : Around} {b : Nat} {κ : Pl} {Fs : List Fr} {O : Oj} {s : Shared} {E : Value → Shared → Prop} {Q : V → Oj → Prop}
theorem atV_is (h : atV l k = some v) : (-(2 ^ 60) < k ∧ k < 2 ^ 60) ∧ ∃ j, seqIndex? k l.length = some j ∧ l[j]? = some v :=
 by obtain ⟨hk, h⟩ := iS h; exact ⟨kOk_lt hk, bS h⟩
theorem list_idx {vals : Array Value} {u : Tok} (h : atV l k = some v) (R : RelW w κ Fs O s.heap) (hp : s.heap.PlainList a vals) (rs : RVs s.heap κ l vals.toList) (q : Q v O) : wpAny (MW w) A (getItem (.ref a) (.int k u)) (End w b κ Fs O s RV Q) E s := by
 obtain ⟨hb, j, h1, h2⟩ := atV_is h
 obtain ⟨cv, hc, rc⟩ := RVs_get rs h2
 rw [getElem?_toList] at hc
 rw [RVs_size rs] at h1
 rcases nat_idx h1 with ⟨q1, q2, q3⟩ | ⟨q1, q2, q3, q4⟩
 ·exact wpAny_getItem_list hp.isList q1 (Int.lt_trans hb.2 (by decide)) (q2 ▸ hc) (End.here R q rc)
 ·exact wpAny_getItem_list_neg hp.isList q1 (by omega) (Int.le_of_lt (Int.lt_of_le_of_lt (by decide) hb.1)) (q3 ▸ hc) (End.here R q rc)
theorem idx_sound (h : indexV O x y = some v) (R : RelW w κ Fs O s.heap) (rx : RV s.heap κ x cx) (ry : RV s.heap κ y cy) (q : Q v O) : wpAny (MW w) A (getItem cx cy) (End w b κ Fs O s RV Q) E s := by
 cases y with
 | int k =>
  obtain ⟨u, rfl⟩ := ry
  cases x with
  | tup l =>
   obtain ⟨hb, j, h1, h2⟩ := atV_is h
   obtain ⟨a, vals, rfl, ⟨n, hp⟩, _, rs⟩ := rx
   obtain ⟨cv, hc, rc⟩ := RVs_get rs h2
   exact P.getItem_tuple hp (Int.le_of_lt (Int.lt_of_le_of_lt (by decide) hb.1)) (Int.lt_trans hb.2 (by decide)) (RVs_size rs ▸ h1) (getElem?_toList ▸ hc) (End.here R q rc)
  | str l =>
   obtain ⟨hk, h⟩ := iS h
   obtain ⟨j, h1, h⟩ := bS h
   obtain ⟨c, hc, h⟩ := mS h
   cases h
   have hb := kOk_lt hk
   obtain ⟨t, rfl⟩ := rx
   refine P.getItem_str (c := c) (by rw [decide_eq_false (by omega), decide_eq_false (by omega)]; rfl) ?_ (End.tok R q ⟨_, rfl⟩)
   rw [sL, h1]
   exact getElem?_toList.symm.trans hc
  | lst l => obtain ⟨a, vals, rfl, hp, _, rs⟩ := rx; exact list_idx h R hp rs q
  | ref m => obtain ⟨l, h1, h⟩ := bS h; obtain ⟨a, vals, rfl, _, hp, rs⟩ := R.list h1 rx; exact list_idx h R hp rs q
  | _ => exact nN h
 | _ => exact nN h
theorem idxD_sound (h : idxV O x y = some v) (R : RelW w κ Fs O s.heap) (rx : RV s.heap κ x cx) (ry : RV s.heap κ y cy) (q : Q v O) : wpAny (MW w) A (getItem cx cy) (End w b κ Fs O s RV Q) E s := by
 unfold idxV at h
 cases x with
 | ref n =>
  cases hE : entryAt O n y with
  | none => simp only [hE] at h; exact idx_sound h R rx ry q
  | some r =>
   simp only [hE] at h
   cases h
   obtain ⟨a, hi, D⟩ := R.entry hE ry
   obtain ⟨a', rfl, hi'⟩ := rx
   cases Option.some.inj (hi.symm.trans hi')
   cases D with
   | @mk K _ knd kvs k da is val =>
    obtain ⟨cv, hv, rv⟩ := OptR.some val
    exact wpAny_getItem_of (is PG) (da PG).dictOf.mapOf hv (End.tok R q rv)
 | _ => exact idx_sound h R rx ry q
theorem RVs_picked {r : List Value} (rs : RVs h κ l r) (is : List Nat) : RVs h κ (picked l is) (is.filterMap fun i => r[i]?) := by
 induction is with
 | nil => exact rfl
 | cons i is ih =>
  rw [picked, filterMap_cons, filterMap_cons]
  cases hl : l[i]? with
  | none => rw [List.getElem?_eq_none (RVs_length rs ▸ List.getElem?_eq_none_iff.mp hl)]; exact ih
  | some v =>
   obtain ⟨cv, hc, rc⟩ := RVs_get rs hl
   rw [hc]; exact ⟨cv, _, rfl, rc, ih⟩
theorem optInt_part {o : Option Int} {cv : Value} (h : optInt v = some o) (r : RV s.heap κ v cv) : IsPart cv o ∧ ∃ p : Option (Int × Tok), cv = partValue p ∧ p.map (·.1) = o := by
 cases v with
 | none => cases h; cases r; exact ⟨.none, none, rfl, rfl⟩
 | int i => cases h; obtain ⟨t, rfl⟩ := r; exact ⟨.int _ _, some (_, t), rfl, rfl⟩
 | _ => exact nN h
theorem sliceIdx_some {st : Option Int} {is : List Nat} (h : sliceIdx lo hi st n = some is) : st ≠ some 0 ∧ is = sliceRange (sliceBounds lo hi st n).1 (sliceBounds lo hi st n).2.1 (sliceBounds lo hi st n).2.2 ∧ is = Builtin.Str.strSliceIndices lo hi (st.getD 1) n := by
 by_cases hs : (st.getD 1 == 0) = true
 ·rw [sliceIdx, if_pos hs] at h; exact nN h
 ·rw [sliceIdx, if_neg hs] at h
  cases h
  exact ⟨fun q => hs (by rw [q]; rfl), rfl, rfl⟩
theorem strSlice_nat (lo hi : Option Int) (n : Nat) : ∃ a b : Nat, a ≤ n ∧ b ≤ n ∧ Builtin.Str.strSliceIndices lo hi 1 n = (List.range (b - a)).map (a + ·) := by
 have clip : ∀ v : Option Int, ∀ d : Nat, d ≤ n → ∃ a : Nat, a ≤ n ∧ clipV n 1 v d = (a : Int) := fun v d hd => by
  cases v with
  | none => exact ⟨d, hd, rfl⟩
  | some i =>
   show ∃ a : Nat, a ≤ n ∧ max 0 (min (if i < 0 then i + n else i) n) = (a : Int)
   exact ⟨_, by exact Int.toNat_le.mpr (Int.max_le.mpr ⟨natCast_nonneg _, Int.min_le_right _ _⟩), (Int.toNat_of_nonneg (Int.le_max_left _ _)).symm⟩
 obtain ⟨a, ha, ea⟩ := clip lo 0 (zero_le _)
 obtain ⟨b, hb, eb⟩ := clip hi n (le_refl _)
 refine ⟨a, b, ha, hb, ?_⟩
 rw [← sliceRange_one a b, ← ea, ← eb]
 rfl
theorem pick_take (l : List Nat) (m : Nat) : ((List.range m).map (0 + ·)).filterMap (fun i => l[i]?) = l.take m := by
 induction m with
 | zero => rfl
 | succ m ih =>
  rw [List.range_succ, map_append, List.filterMap_append, ih, List.take_add_one, map_cons, map_nil, filterMap_cons, zero_add]
  cases l[m]? <;> rfl
theorem whole_pick {l : List Nat} (h : (Builtin.Str.strSliceIndices lo hi 1 l.length).length = l.length) : picked l (Builtin.Str.strSliceIndices lo hi 1 l.length) = l := by
 obtain ⟨a, b, ha, hb, e⟩ := strSlice_nat lo hi l.length
 rw [e] at h ⊢
 rw [length_map, length_range] at h
 cases l with
 | nil => rw [show b - a = 0 from h]; rfl
 | cons x r =>
  rw [length_cons] at h hb
  rw [show a = 0 by omega, show b = r.length + 1 by omega]
  exact (pick_take _ _).trans (take_length (l := x :: r))
theorem list_slice {c : Addr} {vals : Array Value} {st : Option Int} (hl : lO l.length = true) (h : ((sliceIdx lo hi st l.length).map fun is => V.lst (picked l is)) = some v) (R : RelW w κ Fs O s.heap) (hp : s.heap.PlainList c vals) (rs : RVs s.heap κ l vals.toList) (p1 : IsPart cl lo) (p2 : IsPart ch hi) (p3 : IsPart cs st)
 (ha : s.heap.get? a = some { cls := .type "slice", data := .fields #[cl, ch, cs] }) (q : Q v O) : wpAny (MW w) A (getItem (.ref c) (.ref a)) (End w b κ Fs O s RV Q) E s := by
 obtain ⟨is, h4, h⟩ := mS h
 cases h
 rw [RVs_size rs] at h4 hl
 obtain ⟨k1, k2, _⟩ := sliceIdx_some h4
 refine wpAny_getItem_list_slice hp.isList ⟨_, ha, rfl, rfl⟩ p1 p2 p3 k1 ?_ (le_trans (lenOk_le hl) (by decide))
 have := new_lst (b := b) (s := s) R q (RVs_picked rs is)
 have e : (is.filterMap fun i => vals.toList[i]?).toArray = slicePick vals lo hi st := by
  rw [show (fun i => vals.toList[i]?) = (vals[·]?) from funext fun i => getElem?_toList, k2]; rfl
 rw [e] at this
 exact this
theorem slice_sound {lo hi st : V} (h : sliceV O x lo hi st = some v) (R : RelW w κ Fs O s.heap) (rx : RV s.heap κ x cx) (rl : RV s.heap κ lo cl) (rh : RV s.heap κ hi ch) (rst : RV s.heap κ st cs)
 (ha : s.heap.get? a = some { cls := .type "slice", data := .fields #[cl, ch, cs] }) (q : Q v O) : wpAny (MW w) A (getItem cx (.ref a)) (End w b κ Fs O s RV Q) E s := by
 obtain ⟨lo', h1, h⟩ := bS h
 obtain ⟨hi', h2, h⟩ := bS h
 obtain ⟨st', h3, h⟩ := bS h
 obtain ⟨p1, q1, e1, f1⟩ := optInt_part h1 rl
 obtain ⟨p2, q2, e2, f2⟩ := optInt_part h2 rh
 obtain ⟨p3, q3, e3, f3⟩ := optInt_part h3 rst
 cases x with
 | str l =>
  obtain ⟨hc, h⟩ := iS h
  obtain ⟨is, h4, h⟩ := mS h
  cases h
  obtain ⟨hc1, hst⟩ := aB hc
  cases Option.isNone_iff_eq_none.mp hst
  obtain ⟨t, rfl⟩ := rx
  obtain ⟨k1, k2, k3⟩ := sliceIdx_some h4
  cases q3 with
  | some p => cases f3
  | none =>
   refine wpAny_getItem_str_slice (l := q1) (u := q2) (st := none) ⟨_, ha, rfl, by rw [e1, e2, e3]⟩ rfl ?_
   unfold sliceMade
   have hpk : slicePicked (S l) q1 q2 none = is := by
    unfold slicePicked
    rw [f1, f2, sL]; exact k3.symm
   rw [hpk, sL]
   split
   ·rename_i hw
    have hw := beq_iff_eq.mp (aB hw).2
    have e : picked l is = l := by
     rw [k3] at hw ⊢
     exact whole_pick hw
    exact End.here R q (e.symm ▸ ⟨t, rfl⟩)
   ·refine ⟨?_, End.tok R q ⟨s.toks, congrArg (Value.str · _) (str_ext (congrArg (List.filterMap · is) (funext fun i => getElem?_toList.symm)))⟩⟩
    obtain ⟨a', b', ha', hb', e⟩ := strSlice_nat lo' hi' l.length
    refine le_trans (List.length_filterMap_le _ is) (le_trans (m := l.length) ?_ (le_trans (lenOk_le hc1) (by decide)))
    rw [show is = _ from k3.trans e, length_map, length_range]
    exact le_trans (sub_le _ _) hb'
 | lst l => obtain ⟨hl, h⟩ := iS h; obtain ⟨c, vals, rfl, hp, _, rs⟩ := rx; exact list_slice hl h R hp rs p1 p2 p3 ha q
 | ref m => obtain ⟨l, h0, h⟩ := bS h; obtain ⟨hl, h⟩ := iS h; obtain ⟨c, vals, rfl, _, hp, rs⟩ := R.list h0 rx; exact list_slice hl h R hp rs p1 p2 p3 ha q
 | _ => exact nN h
theorem RVs_erase (l : List V) : ∀ {r : List Value} (j : Nat), RVs h κ l r → RVs h κ (l.eraseIdx j) (r.eraseIdx j) := by
 induction l with
 | nil => intro r j e; cases e; exact rfl
 | cons v l ih =>
  intro r j e
  obtain ⟨cv, r, rfl, a, b⟩ := e
  cases j with
  | zero => exact b
  | succ j => exact ⟨cv, _, rfl, a, ih j b⟩
theorem belows_erase {b : Nat} (l : List V) : ∀ (j : Nat), belows b l = true → belows b (l.eraseIdx j) = true := by
 induction l with
 | nil => exact fun j h => rfl
 | cons v l ih =>
  intro j h
  cases j with
  | zero => exact (aB h).2
  | succ j => exact and_eq_true_iff.mpr ⟨(aB h).1, ih j (aB h).2⟩
theorem del_sound' {O1 : Oj} {k : V} {ck : Value} {P : Unit → Shared → Prop} (h : delV O v k = some O1) (R : RelW w κ Fs O s.heap) (rl : RV s.heap κ v cl) (rk : RV s.heap κ k ck) (c : ∀ s1, GoW w b κ O s κ Fs O1 s1 → P () s1) : wpAny (MW w) A (delItem cl ck) P E s := by
 cases v with
 | ref m =>
  cases k with
  | int k =>
   obtain ⟨l, hl, h⟩ := bS h
   obtain ⟨hc, h⟩ := iS h
   obtain ⟨j, hj, h⟩ := mS h
   cases h
   obtain ⟨hle, hk⟩ := aB hc
   obtain ⟨a, vals, rfl, hi, hp, rs⟩ := R.list hl rl
   obtain ⟨u, rfl⟩ := rk
   have hb := kOk_lt hk
   refine wpAny_delItem_plain hp (by simp [Builtin.List.listFitsIndex]; exact ⟨Int.le_of_lt (Int.lt_of_le_of_lt (by decide) hb.1), Int.lt_trans hb.2 (by decide)⟩) (RVs_size rs ▸ hj) (fun h' hp' hs' => ?_) (RVs_size rs ▸ le_trans (lenOk_le hle) (by decide))
   obtain ⟨R', x', hh⟩ := R.setO (o' := .list (l.eraseIdx j)) (listAt_some hl) hi (fun b ob hn e => (hs'.2 b hn).trans e) (let ⟨n, hn⟩ := hp'; ⟨_, hn⟩) fun x => ⟨_, hp', by
    rw [Array.toList_eraseIdxIfInBounds]
    exact RVs_erase l j (rMs x rs)⟩
   exact c _ ⟨R', x', rfl, ⟨rfl, rfl, rfl⟩, Mono.set_pure (listAt_some hl) fun m hu => belows_erase l j hu, hh⟩
  | _ => exact nN h
 | _ => exact nN h
end
end
section
variable {r : V × Oj} {h : Heap} {ca : List Value} {v : V} {cv : Value} {i : Int} {t : Tok} {l : List V}
theorem ofString_inj {a b : String} (h : (ofString a == ofString b) = true) : a = b := by
 have h := beq_iff_eq.mp h
 rw [Str.ofString_eq_toList, Str.ofString_eq_toList] at h
 have h2 : a.toList.map Char.toNat = b.toList.map Char.toNat := List.toArray_inj (congrArg Str.cps h)
 exact String.toList_inj.mp ((List.map_inj_right (fun x y (hxy : x.val.toNat = y.val.toNat) => Char.ext (UInt32.toNat_inj.mp hxy))).mp h2)
section
variable {w : World} {A : Around} {b : Nat} {κ : Pl} {Fs : List Fr} {O : Oj} {s : Shared} {E : Value → Shared → Prop} {Q : V → Oj → Prop}
theorem one_some {a : List V} {f : V → Option (V × Oj)} (e : one a f = some r) (ra : RVs h κ a ca) : ∃ v cv, f v = some r ∧ ca = [cv] ∧ RV h κ v cv ∧ a = [v] := by
 cases a with
 | nil => exact nN e
 | cons v l => cases l with
  | nil => obtain ⟨cv, r, rfl, r1, r2⟩ := ra; cases r2; exact ⟨v, cv, e, rfl, r1, rfl⟩
  | cons => exact nN e
theorem RVs_two {u : V} (r : RVs h κ [v, u] ca) : ∃ cv cu, ca = [cv, cu] ∧ RV h κ v cv ∧ RV h κ u cu := by
 obtain ⟨cv, r, rfl, a, cu, r', rfl, c, e⟩ := r
 cases e; exact ⟨cv, cu, rfl, a, c⟩
theorem asInt_some {f : Int → Option (V × Oj)} (e : asInt v f = some r) (rv : RV h κ v cv) : ∃ i t, f i = some r ∧ cv = .int i t := by
 cases v with
 | int i => obtain ⟨t, rfl⟩ := rv; exact ⟨i, t, e, rfl⟩
 | _ => exact nN e
theorem asStr_some {f : List Nat → Option (V × Oj)} (e : asStr v f = some r) (rv : RV h κ v cv) : ∃ l t, f l = some r ∧ cv = .str (S l) t := by
 cases v with
 | str l => obtain ⟨t, rfl⟩ := rv; exact ⟨l, t, e, rfl⟩
 | _ => exact nN e
theorem len_sound {r : V} (h : lenV O v = some r) (R : RelW w κ Fs O s.heap) (rv : RV s.heap κ v cv) (q : Q r O) : wpAny (MW w) A (call (.builtin "len") [cv] []) (End w b κ Fs O s RV Q) E s := by
 have lst : ∀ {l : List V} {a : Addr} {vals : Array Value}, (if lO l.length then some (V.int l.length) else none) = some r → s.heap.PlainList a vals → RVs s.heap κ l vals.toList → wpAny (MW w) A (call (.builtin "len") [.ref a] []) (End w b κ Fs O s RV Q) E s := fun h hp rs => by
  obtain ⟨hl, h⟩ := iS h
  rw [RVs_size rs] at h hl
  cases h
  exact Calls.call_len_list hp.isList (small63 (lenOk_le hl)) (End.tok R q ⟨_, rfl⟩)
 cases v with
 | str l =>
  obtain ⟨hl, h⟩ := iS h
  obtain ⟨t, rfl⟩ := rv
  rw [← sL] at hl h
  cases h
  exact P.len_str (Int.not_le.mpr (small63 (lenOk_le hl))) (End.tok R q ⟨_, rfl⟩)
 | lst l => obtain ⟨a, vals, rfl, hp, _, rs⟩ := rv; exact lst h hp rs
 | ref m => obtain ⟨l, h1, h⟩ := bS h; obtain ⟨a, vals, rfl, _, hp, rs⟩ := R.list h1 rv; exact lst h hp rs
 | _ => exact nN h
theorem lenD_sound (B : Base w) {r : V} (h : lenD O v = some r) (R : RelW w κ Fs O s.heap) (rv : RV s.heap κ v cv) (q : Q r O) : wpAny (MW w) A (call (.builtin "len") [cv] []) (End w b κ Fs O s RV Q) E s := by
 unfold lenD at h
 cases v with
 | ref n =>
  cases hD : dictAt O n with
  | none => simp only [hD] at h; exact len_sound h R rv q
  | some l =>
   simp only [hD] at h
   obtain ⟨hl, h⟩ := iS h
   cases h
   obtain ⟨a, hi, D⟩ := R.dict hD
   obtain ⟨a', rfl, hi'⟩ := rv
   cases Option.some.inj (hi.symm.trans hi')
   cases D with
   | @mk K _ knd g kvs da ks vs is =>
    have hk := DictG.len (a := a) (h := s.heap) ks
    exact call_len_dict (sys_off B R (Pl.mt_ob hi)) (da PG).dictOf (hk ▸ small63 (lenOk_le hl)) (End.tok R q ⟨_, by rw [hk]⟩)
 | _ => exact len_sound h R rv q
theorem rng_made {x y z : Int} {t1 t2 t3 u : Tok} (R : RelW w κ Fs O s.heap) (q : Q (.rng x y z) O) : End w b κ Fs O s RV Q (.ref s.heap.objs.size) { s with heap := s.heap.push { cls := .type "range", data := .fields #[.int x t1, .int y t2, .int z t3] }, toks := u } :=
 .mk q (Go.grow R (push_keeps _ _) ⟨rfl, rfl, rfl⟩) ⟨_, t1, t2, t3, rfl, R.size_off, get?_push_size _ rfl⟩
theorem chr_sound (h : (if 0 ≤ i && (i.toNat < 55000 || ble 60000 i.toNat && i.toNat < 1000000) then some (V.str [i.toNat], O) else none) = some r) (R : RelW w κ Fs O s.heap) (q : Q r.1 r.2) :
 wpAny (MW w) A (call (.builtin "chr") [.int i t] []) (End w b κ Fs O s RV Q) E s := by
 obtain ⟨hc, h⟩ := iS h
 cases h
 obtain ⟨h1, h2⟩ := aB hc
 have h1 := of_decide_eq_true h1
 have h2 := (or_eq_true_iff.mp h2).imp of_decide_eq_true fun h => And.intro (Nat.le_of_ble_eq_true (aB h).1) (of_decide_eq_true (aB h).2)
 refine P.chr_of_int ?_ (End.tok R q ⟨_, rfl⟩)
 rw [Bool.or_eq_false_iff, decide_eq_false_iff_not, decide_eq_false_iff_not]
 omega
theorem hex_sound (h : (if 0 ≤ i && i.toNat < 2 ^ 64 then some (V.str (48 :: 120 :: (toDigits 16 i.toNat).map Char.toNat), O) else none) = some r) (R : RelW w κ Fs O s.heap) (q : Q r.1 r.2) :
 wpAny (MW w) A (call (.builtin "hex") [.int i t] []) (End w b κ Fs O s RV Q) E s := by
 obtain ⟨hc, h⟩ := iS h
 cases h
 obtain ⟨h1, h2⟩ := dec_and hc
 have e : baseText "0x" 16 i = S (48 :: 120 :: (toDigits 16 i.toNat).map Char.toNat) := by
  rw [baseText_nonneg h1]
  apply str_ext
  have e1 : ofString "" = ⟨#[]⟩ := by decide +kernel
  have e2 : ofString "0x" = ⟨#[48, 120]⟩ := by decide +kernel
  rw [e1, e2, Str.ofString_eq_toList, show i.natAbs = i.toNat by omega]
  show ((#[] : Array Nat) ++ #[48, 120] ++ ((String.ofList (toDigits 16 i.toNat)).toList.map Char.toNat).toArray).toList = _
  simp
 have hl : (toDigits 16 i.toNat).length ≤ 16 := StrLaws.toDigits_len (le_add_left _ _) (lt_of_lt_of_le h2 (by decide))
 refine P.hex_of_int (e ▸ End.tok R q ⟨_, rfl⟩) ?_
 rw [e, sL]
 show (List.map Char.toNat _).length + 1 + 1 ≤ 16777216
 rw [length_map]
 exact le_trans (succ_le_succ (succ_le_succ hl)) (by decide)
theorem grown_list {vals : Array Value} {h' : Heap} {tk c' : Nat} (R : RelW w κ Fs O s.heap) (q : Q (.ref O.length) (O ++ [.list l])) (k : ∀ b o, s.heap.get? b = some o → h'.get? b = some o)
 (hS : h'.get? s.heap.objs.size = some { cls := .type "list", dict := none, data := .seq vals c', slots := #[] }) (rs : ∀ κ', Ext s.heap κ h' κ' → RVs h' κ' l vals.toList) :
 End w b κ Fs O s RV Q (.ref s.heap.objs.size) { s with heap := h', toks := tk } := by
 exact new_obj' R q k ⟨_, hS⟩ fun κ' x => ⟨vals, ⟨c', hS⟩, rs κ' x⟩
theorem RVs_each {α : Type} {f : α → V} {K : α → Value → Prop} (hf : ∀ {i v}, K i v → RV h κ (f i) v) (l : List α) : ∀ {r : List Value}, r.length = l.length → (∀ (j : Nat) v i, r[j]? = some v → l[j]? = some i → K i v) → RVs h κ (l.map f) r := by
 induction l with
 | nil => intro r e _; exact List.length_eq_zero_iff.mp e
 | cons i l ih =>
  intro r e k
  cases r with
  | nil => cases e
  | cons v r => exact ⟨v, r, rfl, hf (k 0 v i rfl rfl), ih (Nat.succ.inj e) fun j v' i' e1 e2 => k (j + 1) v' i' e1 e2⟩
theorem list_sound' (hh : A.handled = none) (h : allItems O v = some l) (hle : lO l.length = true) (R : RelW w κ Fs O s.heap) (r : RV s.heap κ v cv) (q : Q (.ref O.length) (O ++ [.list l])) :
 wpAny (MW w) A (call (.type "list") [cv] []) (End w b κ Fs O s RV Q) E s := by
 have hz := lenOk_le hle
 have plain : ∀ {a : Addr} {vals : Array Value}, iO O v = some l → wpAny (MW w) A (call (.type "list") [cv] []) (End w b κ Fs O s RV Q) E s := fun {_ _} e => by
  obtain ⟨a, vals, rfl, ⟨n, hn⟩, rs⟩ := items_of R e r
  exact call_list_seq a (.inl rfl) hn rfl rfl (fun h' c' k hS => grown_list (tk := s.toks) R q k hS fun κ' x => rMs x rs) (RVs_size rs ▸ le_trans hz (by decide))
 cases v with
 | str l' =>
  cases h
  obtain ⟨t, rfl⟩ := r
  rw [length_map] at hz
  refine call_list_str hh (S l') t (fun h' tk acc' c' k hS hacc => grown_list R q k hS fun κ' x => RVs_each (f := fun c => V.str [c]) (K := fun i v => ∃ t, v = Value.str ⟨#[i]⟩ t) (fun h => h) l' (hacc.1.trans rfl) fun j v i e1 e2 => ?_) (le_trans (m := l'.length) (le_refl _) (le_trans hz (by decide)))
  obtain ⟨c, u, hc, rfl⟩ := hacc.2 j v (getElem?_toList ▸ e1)
  exact ⟨u, by rw [← Option.some.inj (hc.symm.trans (getElem?_toList.symm.trans e2))]⟩
 | rng x y z =>
  obtain ⟨hc, h⟩ := iS h
  cases h
  obtain ⟨c, t1, t2, t3, rfl, hoff, ho⟩ := r
  have hlen : (rangeL x y z).length = (Builtin.Range.rangeSize x y z).toNat := by rw [rangeL, length_map, length_range]
  rw [length_map] at hz
  refine call_list_range hh ho (rngOk_small (aB hc).1) (n := (rangeL x y z).length) (by rw [hlen, range_nn]) (le_trans hz (by decide)) fun h' tk acc' c' k hS hacc => grown_list R q k hS fun κ' xx => RVs_each (f := V.int) (K := fun i v => ∃ t, v = Value.int i t) (fun h => h) _ hacc.1 fun j v i e1 e2 => ?_
  obtain ⟨u, rfl⟩ := hacc.2 j v (getElem?_toList ▸ e1)
  rw [rangeL, getElem?_map] at e2
  obtain ⟨m, hm, rfl⟩ := map_eq_some_iff.mp e2
  obtain ⟨_, e3⟩ := List.getElem?_eq_some_iff.mp hm
  rw [List.getElem_range] at e3
  exact ⟨u, by rw [e3]⟩
 | lst l' => exact plain (a := 0) (vals := #[]) h
 | ref m => exact plain (a := 0) (vals := #[]) h
 | _ => exact nN h
theorem iter_sound (R : RelW w κ Fs O s.heap) (r : RV s.heap κ (.lst l) cv) (q : Q (.ref O.length) (O ++ [.iter l])) : wpAny (MW w) A (call (.builtin "iter") [cv] []) (End w b κ Fs O s RV Q) E s := by
 obtain ⟨c, vals, rfl, hp, hoff, rs⟩ := r
 refine Calls.call_function_entry (by decide +kernel) (by decide +kernel) kdk_entry_iter (kdk_args_iter _) ?_
 unfold Builtin.«iter»
 refine wpAny_bind (m := someArgs "iter" 1 2 _) (wpAny_of_eq (a := [Value.ref c]) (by first | rfl | kernel_rfl!) ?_)
 show wpAny _ _ (pyIter (.ref c) >>= _) _ _ _
 refine wpAny_bind (wpAny_pyIter_list hp.isList (wpAny_pure ⟨_, rfl, new_obj R q rfl fun κ' x => ?_⟩))
 obtain ⟨n, hn⟩ := hp
 exact ⟨c, 0, vals, ⟨_, get?_push_size _ rfl, rfl, rfl⟩, ⟨n, x.keep _ _ hn hoff⟩, x.off hn hoff, rMs x rs⟩
theorem next_sound {n : Nat} (hs : O[n]? = some (.iter (v :: l))) (R : RelW w κ Fs O s.heap) (r : RV s.heap κ (.ref n) cv) (q : Q v (O.set n (.iter l))) : wpAny (MW w) A (call (.builtin "next") [cv] []) (End w b κ Fs O s RV Q) E s := by
 obtain ⟨it, rfl, hi⟩ := r
 obtain ⟨c, k, vals, hit, hl, hoff, rs⟩ := R.at' hs hi
 refine Calls.call_function_entry (by decide +kernel) (by decide +kernel) kdk_entry_next (kdk_args_next _) ?_
 unfold Builtin.«next»
 refine wpAny_bind (m := someArgs "next" 1 2 _) (wpAny_of_eq (a := [Value.ref it]) (by first | rfl | kernel_rfl!) ?_)
 dsimp only
 refine wpAny_bind (wpAny_specialOf (name := ofString "__next__") hit.typeIs slot_listiter_next.lookup ?_)
 refine wpAny_ite_split (fun hab => absurd hab (by decide)) (fun _ => ?_)
 obtain ⟨o, ho, hc, hd⟩ := id hit
 obtain ⟨ol, hol⟩ := id hl
 obtain ⟨cv, r', hv, rv, rs'⟩ := rs
 have hx : vals[k]? = some cv := by
  have := getElem?_drop (xs := vals.toList) (i := k) (j := 0)
  rw [hv, add_zero] at this
  rw [← getElem?_toList]; exact this.symm
 refine wpAny_bind (wpAny_callSpecial?_slot (name := ofString "__next__") hit.typeIs slot_listiter_next
  (wpAny_call_entry slot_listiter_next hit.typeIs entry_listiter_next ?_ (args_listiter_next _)))
 show wpAny _ _ (field (.ref it) 0 >>= _) _ _ s
 refine wpAny_bind (wpAny_field ho hd (x := .ref c) rfl ?_)
 show wpAny _ _ (if (Value.ref c == Value.none) = true then _ else _) _ _ s
 rw [if_neg (show ¬ ((Value.ref c == Value.none) = true) from Bool.false_ne_true)]
 show wpAny _ _ (field (.ref it) 1 >>= _) _ _ s
 refine wpAny_bind (wpAny_field ho hd (x := .int k 0) rfl ?_)
 show wpAny _ _ (seqItems? (.ref c) >>= _) _ _ s
 refine wpAny_bind (wpAny_seqItems hol rfl ?_)
 simp only [Int.toNat_natCast, hx]
 refine wpAny_bind (wpAny_setField ho hd (by simp) (wpAny_pure ⟨cv, rfl, wpAny_pure ⟨_, rfl, ?_⟩⟩))
 have hit' : (s.heap.update it (Obj.mapFields (·.setIfInBounds 1 (rawInt ((k : Int) + 1))))).IsListIter it c (k + 1) := ⟨_, get?_update_self _ ho (Obj.isFreed_of_fields (Obj.data_mapFields hd _)), (Obj.cls_mapFields ..).trans hc, by
  rw [Obj.data_mapFields hd]; simp [rawInt]⟩
 obtain ⟨oi, hoi, _⟩ := id hit'
 obtain ⟨R', x', hh⟩ := R.setO (o' := .iter l) hs hi (fun b ob hn e => ((SameBut.update ..).2 b hn).trans e) ⟨oi, hoi⟩ fun x =>
  ⟨c, k + 1, vals, hit', ⟨ol, x.keep _ _ hol hoff⟩, hoff, by rw [← drop_drop, hv]; exact rMs x rs'⟩
 exact .mk q ⟨R', x', rfl, ⟨rfl, rfl, rfl⟩, Mono.set_pure hs fun m hu => (aB hu).2, hh⟩ (rM x' rv)
end
end
section
variable {h : Heap} {x y : List Nat} {l : List V} {cv cx : Value} {k n : Nat} {t : Tok} {v : V} {i j : Int}
set_option backward.match.sparseCases false
theorem preSum_sum (xs : List (Int × Tok)) : ∀ k, k ≤ xs.length → preSum (numAt xs.toArray) k = ((xs.map (·.1)).take k).sum
 | 0, _ => rfl
 | k + 1, h => by
  have hk : k < xs.length := h
  have e : (xs.map (·.1)).take (k + 1) = (xs.map (·.1)).take k ++ [(xs[k]).1] := by
   rw [List.take_add_one]; simp [hk]
  have n : numAt xs.toArray k = xs[k].1 := by simp [numAt, hk]
  unfold preSum
  rw [preSum_sum xs k (le_of_lt hk), e, n, List.sum_append, sum_cons, List.sum_nil, Int.add_zero]
theorem sum_le (l : List Int) (h : ∀ i ∈ l, 0 ≤ i) : ∀ k, 0 ≤ (l.take k).sum ∧ (l.take k).sum ≤ l.sum := by
 induction l with
 | nil => intro k; rw [List.take_nil]; exact ⟨Int.le_refl _, Int.le_refl _⟩
 | cons i l ih =>
  intro k
  have h0 := h i (mem_cons_self ..)
  have ih := ih fun j hj => h j (mem_cons_of_mem _ hj)
  cases k with
  | zero =>
   have := ih l.length
   rw [take_length] at this
   rw [take_zero, sum_cons]
   exact ⟨Int.le_refl _, Int.add_nonneg h0 this.1⟩
  | succ k =>
   rw [List.take_succ_cons, sum_cons, sum_cons]
   exact ⟨Int.add_nonneg h0 (ih k).1, Int.add_le_add_left (ih k).2 _⟩
theorem item_le (l : List Int) (h : ∀ i ∈ l, 0 ≤ i) : ∀ i ∈ l, i ≤ l.sum := by
 induction l with
 | nil => exact fun i hi => nomatch hi
 | cons j l ih =>
  intro i hi
  have h0 := h j (mem_cons_self ..)
  have hl : ∀ i ∈ l, 0 ≤ i := fun j hj => h j (mem_cons_of_mem _ hj)
  have h1 := sum_le l hl l.length
  rw [take_length] at h1
  rw [sum_cons]
  rcases mem_cons.mp hi with rfl | q
  ·exact Int.le_add_of_nonneg_right h1.1
  ·have := ih hl i q; exact Int.le_trans this (Int.le_add_of_nonneg_left h0)
section
variable {w : World} {A : Around} {b : Nat} {κ : Pl} {Fs : List Fr} {O : Oj} {s : Shared} {E : Value → Shared → Prop} {Q : V → Oj → Prop}
theorem ints_items (l : List V) : ∀ {is : List Int} {r : List Value}, intsV l = some is → RVs h κ l r → ∃ xs : List (Int × Tok), r = xs.map (fun p => Value.int p.1 p.2) ∧ xs.map (·.1) = is := by
 induction l with
 | nil => intro is r e q; cases e; cases q; exact ⟨[], rfl, rfl⟩
 | cons v l ih =>
  intro is r e q
  cases v with
  | int i =>
   obtain ⟨js, hj, rfl⟩ := mS e
   obtain ⟨cv, r', rfl, ⟨t, rfl⟩, q'⟩ := q
   obtain ⟨xs, rfl, rfl⟩ := ih hj q'
   exact ⟨(i, t) :: xs, rfl, rfl⟩
  | _ => exact nN e
theorem sum_sound {x : V} {is : List Int} (hh : A.handled = none) (hl : iO O x = some l) (hi : intsV l = some is) (hc : is.all (fun i => decide (0 ≤ i)) = true) (hs : is.sum.toNat < 2 ^ 62)
 (R : RelW w κ Fs O s.heap) (r : RV s.heap κ x cv) (q : Q (.int is.sum) O) : wpAny (MW w) A (call (.builtin "sum") [cv] []) (End w b κ Fs O s RV Q) E s := by
 obtain ⟨a, vals, rfl, hpl, rs⟩ := items_of R hl r
 obtain ⟨xs, hxs, rfl⟩ := ints_items l hi rs
 have hv : vals = intItems xs.toArray := toList_inj.mp (by rw [hxs]; simp [intItems])
 subst hv
 have hnn : ∀ i ∈ xs.map (·.1), 0 ≤ i := fun i hi => of_decide_eq_true (all_eq_true.mp hc i hi)
 refine sum_intList hh hpl.isList (fun j hj => ?_) fun h' tk t' k => ?_
 ·have hj : j < xs.length := hj
  have hb := sum_le (xs.map (·.1)) hnn (j + 1)
  have hn : numAt xs.toArray j = xs[j].1 := by simp [numAt, hj]
  have hm : xs[j].1 ∈ xs.map (·.1) := mem_map.mpr ⟨_, getElem_mem hj, rfl⟩
  have h1 := hnn _ hm
  have h2 := item_le _ hnn _ hm
  rw [preSum_sum xs (j + 1) hj, hn]
  unfold InLong
  have hS := Int.lt_of_le_of_lt (Int.self_le_toNat _) (Int.lt_trans (ofNat_lt.mpr hs) (by decide : ((2 ^ 62 : Nat) : Int) < 2 ^ 63)); exact ⟨⟨Int.le_trans (by decide) h1, Int.lt_of_le_of_lt h2 hS⟩, Int.le_trans (by decide) hb.1, Int.lt_of_le_of_lt hb.2 hS⟩
 ·have e : preSum (numAt xs.toArray) xs.toArray.size = (xs.map (·.1)).sum := (preSum_sum xs xs.length (le_refl _)).trans (by rw [take_of_length_le (le_of_eq (length_map ..))])
  rw [e]
  exact .mk q (Go.grow R k ⟨rfl, rfl, rfl⟩) ⟨_, rfl⟩
theorem RVs_texts (l : List (Str × Tok)) : RVs h κ ((l.map (·.1)).map fun p => V.str p.cps.toList) (strValues l) := by
 induction l with
 | nil => exact rfl
 | cons p l ih => exact ⟨_, _, rfl, ⟨p.2, by rw [S_toList]⟩, ih⟩
theorem texts_made {l : List (Str × Tok)} {ts : List Str} {k : Nat} (R : RelW w κ Fs O s.heap) (e : l.map (·.1) = ts) (q : Q (.ref O.length) (O ++ [.list (ts.map fun p => .str p.cps.toList)])) :
 End w b κ Fs O s RV Q (.ref s.heap.objs.size) { s with heap := s.heap.push { cls := .type "list", data := .seq (strValues l).toArray }, toks := k } :=
 new_obj' R q (push_keeps _ _) ⟨_, get?_push_size _ rfl⟩ fun κ' x => ⟨_, ⟨_, get?_push_size _ rfl⟩, e ▸ RVs_texts l⟩
theorem split_space_sound (h1 : lO x.length = true) (h2 : lO (Builtin.Str.spaceWords (S x) (x.length + 1)).length = true) (R : RelW w κ Fs O s.heap) (ra : RV s.heap κ (.str x) cv)
 (q : Q (.ref O.length) (O ++ [.list ((Txt.words (S x)).map fun p => .str p.cps.toList)])) : wpAny (MW w) A (call (.builtin "str.split") [cv] []) (End w b κ Fs O s RV Q) E s := by
 obtain ⟨t, rfl⟩ := ra
 have h1 := le_trans (lenOk_le h1) (show 1000000 ≤ sizeLine by decide)
 have h2 := le_trans (lenOk_le h2) (show 1000000 ≤ sizeLine by decide)
 rw [← sL x] at h1 h2
 refine call_meets F.slot_str_split (typeIs_str _ _ _) F.entry_str_split (F.args_str_split_1 _) (meets_str_split_space (S x) t h1 h2) ?_
 cases hw : Builtin.Str.spaceWords (S x) ((S x).length + 1) == [(0, (S x).length)]
 ·simp only [false_eq_true, if_false]
  rw [strsFrom_eq]
  exact texts_made R ((numbered_texts _ _).trans (if_neg (ne_true_of_eq_false hw)).symm) q
 ·simp only [if_true]
  exact texts_made (l := [(S x, t)]) R (if_pos hw).symm q
theorem split_sep_sound {u : Tok} (h0' : (!y.isEmpty) = true) (h1 : lO x.length = true)
 (h2 : lO (Builtin.Str.partsBetween (S x) (Builtin.Str.occurrences (S x) (S y) 0 x.length (x.length + 1)) y.length).length = true) (R : RelW w κ Fs O s.heap)
 (q : Q (.ref O.length) (O ++ [.list ((Txt.split (S x) (S y)).map fun p => .str p.cps.toList)])) : wpAny (MW w) A (call (.builtin "str.split") [.str (S x) t, .str (S y) u] []) (End w b κ Fs O s RV Q) E s := by
 have h1 := le_trans (lenOk_le h1) (show 1000000 ≤ sizeLine by decide)
 have h2 := le_trans (lenOk_le h2) (show 1000000 ≤ sizeLine by decide)
 have hy : ((S y).length == 0) = false := by
  rw [sL]; cases y with | nil => cases h0' | cons => rfl
 rw [← sL x] at h1 h2
 rw [← sL y] at h2
 cases hc : (decide ((S x).length < (S y).length) || decide (Builtin.Str.strKind (S x) < Builtin.Str.strKind (S y)))
 ·cases hf : (Builtin.Str.occurrences (S x) (S y) 0 (S x).length ((S x).length + 1)).isEmpty
  ·refine call_meets F.slot_str_split (typeIs_str _ _ _) F.entry_str_split (F.args_str_split_2 _ _) (meets_str_split_sep (S x) (S y) t u hc hy hf h1 h2) ?_
   show wants _ E _ { s with toks := _, heap := s.heap.push { cls := .type "list", data := .seq (strsFrom s.toks (Builtin.Str.partsBetween (S x) (Builtin.Str.occurrences (S x) (S y) 0 (S x).length ((S x).length + 1)) (S y).length)).toArray } }
   rw [strsFrom_eq]
   exact texts_made R ((numbered_texts _ _).trans ((if_neg (ne_true_of_eq_false hc)).trans (if_neg (ne_true_of_eq_false hf))).symm) q
  ·exact call_meets F.slot_str_split (typeIs_str _ _ _) F.entry_str_split (F.args_str_split_2 _ _) (meets_str_split_not_found (S x) (S y) t u hc hy hf)
    (texts_made (l := [(S x, t)]) R ((if_neg (ne_true_of_eq_false hc)).trans (if_pos hf)).symm q)
 ·exact call_meets F.slot_str_split (typeIs_str _ _ _) F.entry_str_split (F.args_str_split_2 _ _) (meets_str_split_cannot_occur (S x) (S y) t u hc)
   (texts_made (l := [(S x, t)]) R (if_pos hc).symm q)
theorem strs_values (l : List V) : ∀ {ts : List (List Nat)} {r : List Value}, strsV l = some ts → RVs h κ l r → ∃ xs : List (Str × Tok), r = strValues xs ∧ xs.map (·.1) = ts.map S := by
 induction l with
 | nil => intro ts r e q; cases e; cases q; exact ⟨[], rfl, rfl⟩
 | cons v l ih =>
  intro ts r e q
  cases v with
  | str x =>
   obtain ⟨js, hj, rfl⟩ := mS e
   obtain ⟨cv, r', rfl, ⟨t, rfl⟩, q'⟩ := q
   obtain ⟨xs, rfl, hx⟩ := ih hj q'
   exact ⟨(S x, t) :: xs, rfl, congrArg (S x :: ·) hx⟩
  | _ => exact nN e
theorem join_sound {ts : List (List Nat)} (hl : iO O v = some l) (ht : strsV l = some ts) (hok : JoinOk (S x) (ts.map S) = true) (R : RelW w κ Fs O s.heap) (rb : RV s.heap κ v cv) (q : Q (.str (Txt.join (S x) (ts.map S)).cps.toList) O) :
 wpAny (MW w) A (call (.builtin "str.join") [.str (S x) t, cv] []) (End w b κ Fs O s RV Q) E s := by
 obtain ⟨a, vals, rfl, hpl, rs⟩ := items_of R hl rb
 obtain ⟨xs, hxs, hx⟩ := strs_values l ht rs
 have hv : vals = (strValues xs).toArray := toList_inj.mp hxs
 subst hv
 exact SC.join hpl.isList hx hok fun t' k => End.tok R q ⟨_, by rw [S_toList]⟩
open Builtin Builtin.Str in
theorem gives_find4 (x y : Str) (i j : Int) (t u v k : Tok) : Gives («str.find» ⟨[.str x t, .str y u, .int i v, .int j k], []⟩) (.int (match occurrences x y (fromIndex x.length i) (min (fromIndex x.length j) x.length) 1 with | k :: _ => (k : Int) | [] => -1)) := by
 show Gives (match occurrences x y (fromIndex x.length i) (min (fromIndex x.length j) x.length) 1 with | k :: _ => retInt k | [] => (do rule "str.find.not-found"; retInt (-1))) _
 cases occurrences x y (fromIndex x.length i) (min (fromIndex x.length j) x.length) 1 with
 | nil => exact .rule (.of_eq rfl)
 | cons k _ => exact .of_eq rfl
theorem find4_sound {u v k : Tok} (R : RelW w κ Fs O s.heap) (q : Q (.int (findT x y (clipT x.length i) (min (clipT x.length j) x.length))) O) : wpAny (MW w) A (call (.builtin "str.find") [.str (S x) t, .str (S y) u, .int i v, .int j k] []) (End w b κ Fs O s RV Q) E s := by
 refine call_gives F.slot_str_find (typeIs_str _ _ _) F.entry_str_find (F.args_str_find_4 _ _ _ _) (gives_find4 (S x) (S y) i j t u v k) ?_
 rw [sL]
 exact End.tok R q ⟨_, rfl⟩
open Builtin Builtin.Str in
theorem gives_rfind4 (x y : Str) (i j : Int) (t u v k : Tok) : Gives («str.rfind» ⟨[.str x t, .str y u, .int i v, .int j k], []⟩) (.int (match lastOccurrence x y (fromIndex x.length i) (min (fromIndex x.length j) x.length) with | some k => (k : Int) | none => -1)) := by
 show Gives (match lastOccurrence x y (fromIndex x.length i) (min (fromIndex x.length j) x.length) with | some k => retInt k | none => (do rule "str.rfind.not-found"; retInt (-1))) _
 cases lastOccurrence x y (fromIndex x.length i) (min (fromIndex x.length j) x.length) with
 | none => exact .rule (.of_eq rfl)
 | some k => exact .of_eq rfl
theorem rfind4_sound {u v k : Tok} (R : RelW w κ Fs O s.heap) (q : Q (.int (rfindT x y (clipT x.length i) (min (clipT x.length j) x.length))) O) : wpAny (MW w) A (call (.builtin "str.rfind") [.str (S x) t, .str (S y) u, .int i v, .int j k] []) (End w b κ Fs O s RV Q) E s := by
 refine call_gives F.slot_str_rfind (typeIs_str _ _ _) F.entry_str_rfind (F.args_str_rfind_4 _ _ _ _) (gives_rfind4 (S x) (S y) i j t u v k) ?_
 rw [sL]
 exact End.tok R q ⟨_, rfl⟩
theorem lower_sound (hl : lO (Txt.lower (S x)).length = true) (R : RelW w κ Fs O s.heap) (q : Q (.str (Txt.lower (S x)).cps.toList) O) : wpAny (MW w) A (call (.builtin "str.lower") [.str (S x) t] []) (End w b κ Fs O s RV Q) E s := by
 refine SC.lower ?_ (End.tok R q ⟨_, by rw [S_toList]⟩)
 show decide (_ > 16777216) = false
 exact decide_eq_false (not_lt.mpr (le_trans (lenOk_le hl) (by decide)))
theorem list_write {l' : List V} {a : Addr} {h' : Heap} {vals' : Array Value} (hs : lA O n = some l) (hi : κ.ob[n]? = some (.obj a)) (hw : writeOk b n v = true) (hm : ∀ x ∈ l', x ∈ l ∨ x = v) (R : RelW w κ Fs O s.heap) (sb : SameBut a s.heap h') (hp : h'.PlainList a vals') (rs : Ext s.heap κ h' κ → RVs h' κ l' vals'.toList) :
 GoW w b κ O s κ Fs (O.set n (.list l')) { s with heap := h' } := by
 obtain ⟨m, hm'⟩ := id hp
 obtain ⟨R', x', hh⟩ := R.setO (o' := .list l') (listAt_some hs) hi (fun b ob hn e => (sb.2 b hn).trans e) ⟨_, hm'⟩ fun x => ⟨_, hp, rs x⟩
 refine ⟨R', x', rfl, ⟨rfl, rfl, rfl⟩, ?_, hh⟩
 rcases or_eq_true_iff.mp hw with q | q
 ·exact Mono.set_high (of_decide_eq_true q)
 ·exact Mono.set_pure (listAt_some hs) fun k hu => (belows_mem _).mpr fun x hx => (hm x hx).elim ((belows_mem _).mp hu x) fun e => e ▸ pure_under q
theorem append_sound' (hs : lA O n = some l) (hw : writeOk b n v = true) (hl : lO l.length = true) (R : RelW w κ Fs O s.heap) (rx : RV s.heap κ (.ref n) cx) (rv : RV s.heap κ v cv) (q : Q .none (O.set n (.list (l ++ [v])))) :
 wpAny (MW w) A (call (.builtin "list.append") [cx, cv] []) (End w b κ Fs O s RV Q) E s := by
 obtain ⟨a, vals, rfl, hi, hp, rs⟩ := R.list hs rx
 refine wpAny_list_append_plain hp (fun h' hp' sb => .mk q (list_write hs hi hw (fun x hx => (mem_append.mp hx).imp id mem_singleton.mp) R sb hp' fun x => ?_) rfl) (RVs_size rs ▸ le_trans (lenOk_le hl) (by decide))
 rw [Array.toList_push]; exact RVs_app (rMs x rs) ⟨_, _, rfl, rM x rv, rfl⟩
theorem pop_sound (hs : lA O n = some l) (hv : l[l.length - 1]? = some v) (hl : lO l.length = true) (R : RelW w κ Fs O s.heap) (rx : RV s.heap κ (.ref n) cx) (q : Q v (O.set n (.list (l.eraseIdx (l.length - 1))))) :
 wpAny (MW w) A (call (.builtin "list.pop") [cx] []) (End w b κ Fs O s RV Q) E s := by
 obtain ⟨a, vals, rfl, hi, ⟨m, hm⟩, rs⟩ := R.list hs rx
 obtain ⟨cv, hc, rv⟩ := RVs_get rs hv
 have hz := RVs_size rs
 rw [hz] at hc
 refine call_meets F.slot_list_pop (T := "list") ⟨_, hm, rfl⟩ F.entry_list_pop (F.args_list_pop_1 _) (MeetsSeq.list_pop_last a vals m cv (getElem?_toList.symm.trans hc) (hz ▸ le_trans (lenOk_le hl) (by decide))) ⟨hm, ?_⟩
 have hp' : (s.heap.update a (Obj.mapSeq fun xs => xs.eraseIdxIfInBounds (vals.size - 1))).PlainList a _ := ⟨_, get?_update_self _ hm rfl⟩
 have g := list_write (b := b) (l' := l.eraseIdx (l.length - 1)) (v := .none) hs hi (or_eq_true_iff.mpr (.inr rfl)) (fun x hx => .inl (List.mem_of_mem_eraseIdx hx)) R (SameBut.update ..) hp' fun x => by
  rw [Array.toList_eraseIdxIfInBounds, hz]
  exact RVs_erase _ _ (rMs x rs)
 exact (show End w b κ Fs O s RV Q cv _ from .mk q g (rM g.ext rv))
theorem count_sound {t : Bool} (hk : cntB t l = some k) (R : RelW w κ Fs O s.heap) (rx : RV s.heap κ (.lst l) cx) (q : Q (.int (k : Nat)) O) : wpAny (MW w) A (call (.builtin "list.count") [cx, .bool t] []) (End w b κ Fs O s RV Q) E s := by
 obtain ⟨a, vals, rfl, ⟨m, hm⟩, _, rs⟩ := rx
 have key : ∀ (l : List V) {r : List Value} {k : Nat}, cntB t l = some k → RVs s.heap κ l r → r.countP (fun y => vEq y (.bool t)) = k ∧ ∀ y ∈ r, ∀ A, SeqAt.EqAt A s y (.bool t) (vEq y (.bool t)) := by
  intro l
  induction l with
  | nil => intro r k h e; cases e; cases h; exact ⟨rfl, fun _ z => nomatch z⟩
  | cons v l ih =>
   intro r k h e
   obtain ⟨cv, r', rfl, r1, r2⟩ := e
   cases v with
   | none =>
    cases r1
    obtain ⟨h1, h2⟩ := ih h r2
    exact ⟨by rw [List.countP_cons, h1]; rfl, fun y hy => (mem_cons.mp hy).elim (fun e A => e ▸ SeqAt.EqAt.none_bool t) (h2 y)⟩
   | bool c =>
    cases r1
    obtain ⟨j, hj, rfl⟩ := mS h
    obtain ⟨h1, h2⟩ := ih hj r2
    refine ⟨?_, fun y hy => (mem_cons.mp hy).elim (fun e A => e ▸ SeqAt.EqAt.bool_bool c t) (h2 y)⟩
    rw [List.countP_cons, h1]
    show (j + if (c == t) = true then 1 else 0) = _
    cases c == t <;> rfl
   | _ => exact nN h
 obtain ⟨h1, h2⟩ := key l hk rs
 refine call_meets F.slot_list_count (T := "list") ⟨_, hm, rfl⟩ F.entry_list_count (F.args_list_count_2 _ _) (SeqAt.list_countAt a vals m none #[] (.bool t) fun y => vEq y (.bool t)) ⟨hm, fun y hy => h2 y (Array.mem_toList_iff.mpr hy) _, End.tok R q ⟨_, by rw [h1]⟩⟩
theorem insert_sound (hs : lA O n = some l) (h0i : 0 ≤ i) (hil : i ≤ l.length) (hw : writeOk b n v = true) (hl : lO l.length = true) (R : RelW w κ Fs O s.heap) (rx : RV s.heap κ (.ref n) cx)
 (rv : RV s.heap κ v cv) (q : Q .none (O.set n (.list (l.take i.toNat ++ v :: l.drop i.toNat)))) : wpAny (MW w) A (call (.builtin "list.insert") [cx, .int i t, cv] []) (End w b κ Fs O s RV Q) E s := by
 obtain ⟨a, vals, rfl, hi, ⟨m, hm⟩, rs⟩ := R.list hs rx
 rw [RVs_size rs] at hil hl
 have hl := lenOk_le hl
 refine call_meets F.slot_list_insert (T := "list") ⟨_, hm, rfl⟩ F.entry_list_insert (F.args_list_insert_3 _ _ _) (AutoSeq1.list_insert_list_int_val_1 a vals m i t cv ?_ (le_trans hl (by decide))) ⟨hm, ?_⟩
 ·have : Builtin.List.listFitsIndex i = true := by
   unfold Builtin.List.listFitsIndex
   simp; exact ⟨Int.le_trans (by decide) h0i, Int.lt_of_le_of_lt hil (Int.lt_of_le_of_lt (ofNat_le.mpr hl) (by decide))⟩
  rw [this]; decide
 ·have hk : (if i < 0 then (i + (vals.size : Int)).toNat else min i.toNat vals.size) = i.toNat := by
   rw [if_neg (Int.not_lt.mpr h0i)]; exact min_eq_left (Int.toNat_le.mpr hil)
  have hp' : (s.heap.update a (Obj.mapSeq fun xs : Array Value => let k := if i < 0 then (i + (xs.size : Int)).toNat else min i.toNat xs.size; (xs.extract 0 k).push cv ++ xs.extract k)).PlainList a _ := ⟨_, get?_update_self _ hm rfl⟩
  dsimp only at hp'
  rw [hk] at hp'
  refine .mk q (list_write hs hi hw (fun x hx => ?_) R (SameBut.update ..) hp' fun x => ?_) rfl
  ·exact (mem_append.mp hx).elim (fun h => .inl (mem_of_mem_take h)) fun h => (mem_cons.mp h).elim .inr fun h => .inl (List.mem_of_mem_drop h)
  ·have e : ((vals.extract 0 i.toNat).push cv ++ vals.extract i.toNat).toList = vals.toList.take i.toNat ++ cv :: vals.toList.drop i.toNat := by
    have : vals.size - i.toNat = vals.toList.length - i.toNat := rfl
    simp [take_of_length_le]
   rw [e]
   exact RVs_app (RVs_take _ (rMs x rs)) ⟨_, _, rfl, rM x rv, RVs_drop _ (rMs x rs)⟩
noncomputable def OptS : Option (List Nat) → Option Value → Prop
 | none, none => True
 | some x, some v => ∃ t, v = .str (S x) t
 | _, _ => False
noncomputable def TabsOk (w : World) : Prop := ∀ a l, GG.tabs.lookup a = some l → (a == sysModules) = false ∧ ∃ f, (HW w).MapOf (intKind PG w) a f ∧ ∀ i : Int, 0 ≤ i → i < 2 ^ 60 → OptS (l.lookup i) (f i)
theorem tget_sound {es : List (Int × List Nat)} {f : Int → Option Value} {d : V} {cd : Value} {k : Nat} (o : OptS (es.lookup i) (f i)) (R : RelW w κ Fs O s.heap) (rd : RV s.heap κ d cd) (q : Q (tGet es i d) O) : End w b κ Fs O s RV Q ((f i).getD cd) { s with toks := k } := by
 unfold tGet at q
 cases hl : es.lookup i with
 | none =>
  rw [hl] at q o
  cases hf : f i with
  | none => exact End.tok R q rd
  | some v => rw [hf] at o; exact o.elim
 | some x =>
  rw [hl] at q o
  cases hf : f i with
  | none => rw [hf] at o; exact o.elim
  | some v => rw [hf] at o; exact End.tok R q o
theorem mt_sound (T : TabsOk w) {ad : Addr} {a : List V} {r : V} {ca : List Value} (h : methT GG ("get" : Str) ad a = some r) (R : RelW w κ Fs O s.heap) (ra : RVs s.heap κ a ca) (q : Q r O) : wpAny (MW w) A (call (.builtin "dict.get") (.ref ad :: ca) []) (End w b κ Fs O s RV Q) E s := by
 obtain ⟨es, h1, h⟩ := bS (iS h).2
 obtain ⟨hne, f, ⟨o, ces, n, ho, hr⟩, hf⟩ := T _ _ h1
 have hm : s.heap.MapOf (intKind PG w) ad f := ⟨o, ces, n, R.base _ _ ho, hr⟩
 have hty : s.TypeIs (.ref ad) "dict" := ⟨o, R.base _ _ ho, hr.1.1⟩
 have self : ∀ (i : Int) (t : Tok), (intKind PG w).is i (.int i t) = true := fun i t => decide_eq_true rfl
 have bd : ∀ {i : Int}, (decide (0 ≤ i) && decide (i.toNat < 2 ^ 60)) = true → OptS (es.lookup i) (f i) := fun {i} hc => hf i (dec_and hc).1 (by have := dec_and hc; omega)
 cases a with
 | nil => exact nN h
 | cons v a =>
  obtain ⟨cv, ca, rfl, rv, ra⟩ := ra
  cases a with
  | nil =>
   cases ra
   cases v with
   | int i =>
    obtain ⟨hc, h⟩ := iS h
    cases h
    obtain ⟨t, rfl⟩ := rv
    refine call_meetsIn F.slot_dict_get hty F.entry_dict_get (F.args_dict_get_2 _ _) (meets_dict_get (intKind PG w) (k := i) ad (self i t) hne) ⟨f, hm, ?_⟩
    exact tget_sound (bd hc) R (show RV _ _ .none .none from rfl) q
   | _ => exact nN h
  | cons d a =>
   obtain ⟨cd, ca, rfl, rd, ra⟩ := ra
   cases a with
   | cons => exact nN h
   | nil =>
    cases ra
    cases v with
    | int i =>
     obtain ⟨hc, h⟩ := iS h
     cases h
     obtain ⟨t, rfl⟩ := rv
     refine call_meetsIn F.slot_dict_get hty F.entry_dict_get (F.args_dict_get_3 _ _ _) (meets_dict_get_default (intKind PG w) (k := i) ad (self i t) hne _) ⟨f, hm, ?_⟩
     exact tget_sound (bd hc) R rd q
    | _ => exact nN h
end
set_option backward.match.sparseCases true
end
section
variable {k : Nat} {items : Array Value}
section
variable {prog : Program} {w : World} {A : Around} {E : Value → Shared → Prop} {s : Shared} {I ax : Addr} {n : Nat} {P : Nat → Value → Prop} {St : Nat → Heap → Prop}
theorem next_end_ex {Q : Option Value → Shared → Prop} (hh : A.handled = none) (hit : s.heap.IsListIter I ax k) (hl : s.heap.IsList ax items) (hx : items[k]? = none)
 (hQ : ∀ h', Heap.ExtBut I s.heap h' → (∃ o, h'.get? I = some o) → Q none { s with heap := h' }) : wpAny (model prog w) A (pyNext (.ref I)) Q E s := by
 obtain ⟨o, ho, hc, hd⟩ := id hit
 obtain ⟨ol, hol, _, nl, hdl⟩ := hl
 have hI := get?_update_self (Obj.mapFields (·.setIfInBounds 0 Value.none)) ho (Obj.isFreed_of_fields (Obj.data_mapFields hd _))
 unfold pyNext
 refine wpAny_bind (wpAny_attempt (wpAny_callSpecial?_slot (name := ofString "__next__") hit.typeIs slot_listiter_next
  (wpAny_call_entry slot_listiter_next hit.typeIs entry_listiter_next ?_ (args_listiter_next _))))
 show wpAny _ _ (field (.ref I) 0 >>= _) _ _ s
 refine wpAny_bind (wpAny_field ho hd (x := .ref ax) rfl ?_)
 show wpAny _ _ (if (Value.ref ax == Value.none) = true then _ else _) _ _ s
 rw [if_neg (show ¬ ((Value.ref ax == Value.none) = true) from Bool.false_ne_true)]
 show wpAny _ _ (field (.ref I) 1 >>= _) _ _ s
 refine wpAny_bind (wpAny_field ho hd (x := .int k 0) rfl ?_)
 show wpAny _ _ (seqItems? (.ref ax) >>= _) _ _ s
 refine wpAny_bind (wpAny_seqItems hol hdl ?_)
 simp only [Int.toNat_natCast, hx]
 refine wpAny_bind (wpAny_rule (wpAny_bind (wpAny_setField ho hd (by simp) ?_)))
 show wpAny _ _ (newExc (.type "StopIteration") [] >>= _) _ _ _
 refine wpAny_bind ?_
 simp only [newExc, newTuple]
 refine wpAny_bind (wpAny_newObj_type ?_ (by size_fits))
 refine wpAny_bind (m := firstArgMember _ _) (wpAny_of_eq (a := Value.none) (by first | rfl | (simp only [firstArgMember]; rfl)) ?_)
 refine wpAny_newObj_type ?_ (by size_fits)
 delta raiseNew
 refine wpAny_bind (wpAny_handled ?_)
 rw [show A.in1.handled = none from hh]
 refine wpAny_bind (wpAny_pure (wpAny_throw ?_))
 refine wpAny_bind (wpAny_isInstance (T := "StopIteration") (b := true) ⟨_, get?_push_size _ rfl, rfl⟩ (by rw [isSubtype_type]; kernel_rfl) ?_)
 exact wpAny_pure (hQ _ (((SameBut.update ..).extBut.push _).push _) ⟨_, get?_push_of_some _ (get?_push_of_some _ hI)⟩)
theorem hint_li {Q : Bool → Shared → Prop} (hT : s.TypeIs (.ref I) "list_iterator") (h : Q false s) : wpAny (model prog w) A (Builtin.List.listLengthHint (.ref I)) Q E s := by
 unfold Builtin.List.listLengthHint
 refine wpAny_bind (wpAny_specialOf hT F.nolen_li ?_)
 show wpAny _ A (specialOf (Value.ref I) (ofString "__length_hint__") >>= _) _ _ _
 refine wpAny_bind (wpAny_specialOf hT F.hint_li ?_)
 generalize hid : ("list_iterator.__length_hint__" : String) = id0
 wp_delta
 rw [show splitId id0 = some ("list_iterator", "__length_hint__") from by subst hid; decide +kernel]
 subst hid
 refine wpAny_bind (wpAny_isInstance (b := true) hT (by rw [isSubtype_type]; kernel_rfl) ?_)
 exact wpAny_pure h
theorem call_list_done {Q : Value → Shared → Prop} (hh : A.handled = none) (hit : s.heap.IsListIter I ax k) (hl : s.heap.IsList ax items) (hx : items[k]? = none)
 (hQ : ∀ h' tk c', (∀ b o, b ≠ I → s.heap.get? b = some o → h'.get? b = some o) → (∃ o, h'.get? I = some o) → h'.get? s.heap.objs.size = some { cls := .type "list", dict := none, data := .seq #[] c', slots := #[] } → Q (.ref s.heap.objs.size) { s with heap := h', toks := tk }) :
 wpAny (model prog w) A (call (.type "list") [.ref I]) Q E s := by
 have hI : I < s.heap.objs.size := by obtain ⟨_, ho, _⟩ := hit; exact lt_size ho
 have hSI : s.heap.objs.size ≠ I := ne_of_gt hI
 refine callType_codes (Q₁ := fun obj s₁ => obj = .ref s.heap.objs.size ∧ s₁ = { s with heap := s.heap.push { cls := .type "list", data := .seq #[] } }) F.called_list (F.typeCall_list_1 _) F.entry_list_init
  (code_list_new _ ⟨rfl, rfl⟩) fun obj s₁ h₁ => ?_
 obtain ⟨rfl, rfl⟩ := h₁
 have hS : (s.heap.push { cls := .type "list", data := .seq #[] }).get? s.heap.objs.size = some { cls := .type "list", data := .seq #[] } := get?_push_size _ rfl
 refine ⟨⟨_, hS, rfl⟩, F.args_list_init_2 _ _, ?_⟩
 show wpAny _ _ (do let old ← Builtin.List.listItems (.ref s.heap.objs.size); Builtin.List.listUpdate (.ref s.heap.objs.size) (fun _ => #[]); letGo old.toList.reverse; Builtin.List.listExtendWith (.ref s.heap.objs.size) (.ref I) .none) _ _ _
 refine wpAny_bind ?_
 unfold Builtin.List.listItems
 refine wpAny_bind (wpAny_seqItems hS rfl (wpAny_pure ?_))
 show wpAny _ _ (updateSeq s.heap.objs.size (fun _ => #[]) >>= fun _ => letGo (#[] : Array Value).toList.reverse >>= fun _ => Builtin.List.listExtendWith (.ref s.heap.objs.size) (.ref I) .none) _ _ _
 refine wpAny_bind (wpAny_updateSeq hS rfl ?_)
 have hS₂ := get?_update_self (Obj.mapSeq (fun _ => (#[] : Array Value))) hS rfl
 have oth : ∀ b o, s.heap.get? b = some o → ((s.heap.push { cls := .type "list", data := .seq #[] }).update s.heap.objs.size (Obj.mapSeq (fun _ => (#[] : Array Value)))).get? b = some o :=
  fun b o e => (Heap.get?_update_other _ _ (Ne.symm (ne_of_lt (lt_size e)))).trans (get?_push_of_some _ e)
 refine wpAny_bind (wpAny_letGo ?_)
 have hit2 := hit.at fun o e => oth I o e
 have hl2 := hl.at fun o e => oth ax o e
 unfold Builtin.List.listExtendWith
 refine wpAny_bind (wpAny_typeOf (T := "list_iterator") hit2.typeIs ?_)
 have h1 : Builtin.List.listSameRef (.ref s.heap.objs.size) (.ref I) = false := by simp [Builtin.List.listSameRef, hSI]
 rw [if_neg (by rw [h1]; decide)]
 refine wpAny_bind (wpAny_pyIter_listiter hit2 ?_)
 refine wpAny_bind (wpAny_holding (hint_li hit2.typeIs ?_))
 rw [if_neg (by decide)]
 refine wpAny_pure ⟨plainId_quiet F.plain_extend_loop _, codeAny_builtin F.entry_extend_loop ?_⟩
 rw [Around.under_plainId F.plain_extend_loop _]
 show wpAny _ _ (pyNext (.ref I) >>= _) _ _ _
 exact wpAny_bind (next_end_ex hh hit2 hl2 hx fun h' he hx' => wpAny_pure ⟨rfl, hQ h' _ _ (fun b o hb e => he b o hb (oth b o e)) hx' (he _ _ hSI hS₂)⟩)
end
section
variable {w : World} {A : Around} {E : Value → Shared → Prop} {s : Shared} {b : Nat} {κ : Pl} {Fs : List Fr} {O : Oj} {Q : V → Oj → Prop}
theorem list_done_sound {m : Nat} {cv : Value} (hh : A.handled = none) (h : O[m]? = some (.iter [])) (R : RelW w κ Fs O s.heap) (r : RV s.heap κ (.ref m) cv) (q : Q (.ref O.length) (O.set m .dead ++ [.list []])) : wpAny (MW w) A (call (.type "list") [cv] []) (End w b κ Fs O s RV Q) E s := by
 obtain ⟨a, rfl, ha⟩ := r
 obtain ⟨bb, k, vals, it, hpl, hob, rs⟩ := R.at' h ha
 have hx : vals[k]? = none := getElem?_eq_none (by have := drop_eq_nil_iff.mp rs; rwa [length_toList] at this)
 have hm := (List.getElem?_eq_some_iff.mp h).1
 refine call_list_done hh it hpl.isList hx fun h' tk c' hk hex hS => ?_
 obtain ⟨RA, xA⟩ := R.addO (o := .list []) (h' := s.heap.push { cls := .type "list", data := .seq #[] c' }) (push_keeps _ _) ⟨_, get?_push_size _ rfl⟩ fun κ' x => ⟨#[], ⟨c', get?_push_size _ rfl⟩, rfl⟩
 obtain ⟨RB, xB, hid⟩ := RA.setO (o' := .dead) (h' := h') (by rw [getElem?_append_left hm]; exact h) (pre_get xA.pre ha) (fun c ob hn e => (Heap.get?_push_cases e).elim (fun z => by rw [z.1, z.2]; exact hS) (hk c ob hn)) hex fun _ => trivial
 rw [List.set_append_left _ _ hm] at RB
 refine .mk q ⟨RB, xA.trans xB, rfl, ⟨rfl, rfl, rfl⟩, ?_, fun c hc => ⟨hc, fun o e => (hid c hc).2 o (push_keeps _ _ c o e)⟩⟩ ⟨_, rfl, by rw [← R.len, getElem?_append_right (le_refl _), sub_self]; rfl⟩
 exact (Mono.set_pure (o' := .dead) h fun _ _ => trivial).trans (Mono.app _ _ _)
end
end
section
variable {f : Nat → Nat → Option Bool} {vs : List Value} {p : Array Nat} {a c : Int} {l : List V} {v x y : V} {h : Heap} {cv cx cy : Value} {ta tc : Tok} {t : Bool}
section
variable {w : World} {A : Around} {b : Nat} {κ : Pl} {Fs : List Fr} {O : Oj} {s : Shared} {E : Value → Shared → Prop} {Q : V → Oj → Prop}
theorem run_wp {α : Type} {cmp : Nat → Nat → (Bool → Shared → Prop) → Shared → Prop} {Q : α → Shared → Prop} (hf : ∀ i j c, f i j = some c → ∀ C : Bool → Shared → Prop, C c s → cmp i j C s) (t : KasT α) :
 ∀ {a : α}, runK f t = some a → Q a s → t.kasWp cmp Q s := by
 induction t with
 | ret a => intro a h q; cases h; exact q
 | ask i j k ih =>
  intro a h q
  obtain ⟨c, h1, h2⟩ := bS h
  exact hf i j c h1 _ (ih c h2 q)
noncomputable abbrev midH (h : Heap) (a : Addr) (vs : List Value) : Heap := ((h.update a (Obj.mapSeq fun _ => (#[] : Array Value))).push (seqObj "tuple" vs.toArray 0)).push (seqObj "list" #[] 0)
theorem sort_tree {κ : SortKind} {a : Addr} {n : Nat} {P : PySem.Fin → Shared → Prop} (ho : s.heap.get? a = some (seqObj "list" vs.toArray n))
 (h2 : 2 ≤ vs.length) (h64 : vs.length < 64) (hp : runK f (kas_sort vs.length) = some p)
 (hk : ∀ h', (∀ b o, b ≠ a → s.heap.get? b = some o → h'.get? b = some o) → ∀ Q : SortKind → Shared → Prop, Q κ { s with heap := h' } → wpAny (MW w) A (keyKind' vs.toArray) Q noE { s with heap := h' })
 (hf : ∀ h', (∀ b o, b ≠ a → s.heap.get? b = some o → h'.get? b = some o) → ∀ i j c, f i j = some c → ∀ C : Bool → Shared → Prop, C c { s with heap := h' } → kas_ask PG w A κ vs i j C { s with heap := h' })
 (h : ∀ h' c, (∀ b o, b ≠ a → s.heap.get? b = some o → h'.get? b = some o) → h'.get? a = some (seqObj "list" (toArray (p.toList.map fun i => vs.getD i Value.none)) c) → P (.done (.ret .none)) { s with heap := h' }) :
 wpAny (MW w) A (Builtin.«list.sort» ⟨[.ref a], []⟩) P E s := by
 have ha : a < s.heap.objs.size := lt_size ho
 have s1 := SameBut.update s.heap a (Obj.mapSeq fun _ => (#[] : Array Value))
 obtain ⟨e1, ho1⟩ : ∃ e1, (s.heap.update a (Obj.mapSeq fun _ => (#[] : Array Value))).get? a = some (seqObj "list" #[] e1) := ⟨_, get?_update_seq ho fun _ => #[]⟩
 have keep : ∀ b o, b ≠ a → s.heap.get? b = some o → (midH s.heap a vs).get? b = some o :=
  fun b o hb e => get?_push_of_some _ (get?_push_of_some _ ((s1.2 b hb).trans e))
 have na : (midH s.heap a vs).get? a = some (seqObj "list" #[] e1) := get?_push_of_some _ (get?_push_of_some _ ho1)
 rw [list_sort_plain]
 refine wpAny_bind (listItems_at ho rfl ?_)
 refine wpAny_bind (listUpdate_at ho rfl ?_ (by rw [List.size_toArray, sizeLine_eq]; exact le_trans (le_of_lt h64) (by decide)) (zero_le _))
 refine wpAny_bind (seqEpoch_at ho1 rfl ?_)
 refine wpAny_bind (wpAny_newTuple ?_ (by show vs.length ≤ _; rw [sizeLine_eq]; exact le_trans (le_of_lt h64) (by decide)))
 refine wpAny_bind (wpAny_newList ?_ (zero_le _))
 refine wpAny_holding ?_
 show wpAny (MW w) A _ P E { s with heap := midH s.heap a vs }
 have hn2 : ¬ vs.toArray.size < 2 := by rw [List.size_toArray]; omega
 dsimp only
 rw [if_neg hn2, if_neg hn2]
 refine wpAny_bind (wpAny_mono (hk _ keep (fun κ' s' => κ' = κ ∧ s' = { s with heap := midH s.heap a vs }) ⟨rfl, rfl⟩) ?_ fun _ _ x => x.elim)
 rintro κ' s' ⟨rfl, rfl⟩
 refine wpAny_bind (wpAny_mono (kat_run (Q := fun st' s' => s' = { s with heap := midH s.heap a vs } ∧ ∃ q : Array Nat, q = p ∧ q.size = vs.length ∧ arrOf st' = q.map (kas_item (vs.toArray.zip vs.toArray)) ∧ failedOf st' = none)
  (G := fun q s' => q = p ∧ s' = { s with heap := midH s.heap a vs })
  rfl h2 h64 (fun p' st' s' a1 a2 a3 a4 => ⟨a4.2, p', a4.1, a1, a2, a3⟩) (run_wp (hf _ keep) _ hp ⟨rfl, rfl⟩)) ?_ fun _ _ e => e)
 rintro ⟨⟨⟩, st'⟩ s' ⟨rfl, q, rfl, hps, har, hfl⟩
 dsimp only
 have hout := kat_snds rfl har
 have hsz : (toArray (q.toList.map fun i => vs.getD i Value.none)).size = vs.length := by rw [List.size_toArray, length_map, length_toList, hps]
 rw [hout]
 refine wpAny_bind (seqEpoch_at na rfl ?_)
 refine wpAny_bind (listUpdate_at na rfl ?_ (zero_le _) (le_trans (le_of_eq hsz) (by rw [sizeLine_eq]; exact le_trans (le_of_lt h64) (by decide))))
 rw [hfl]
 simp only [bne_self_eq_false, false_eq_true, if_false]
 have s2 := SameBut.update (midH s.heap a vs) a (Obj.mapSeq fun _ => toArray (q.toList.map fun i => vs.getD i Value.none))
 exact wpAny_pure (h _ _ (fun b o hb e => (s2.2 b hb).trans (keep b o hb e)) (get?_update_seq na fun _ => toArray (q.toList.map fun i => vs.getD i Value.none)))
noncomputable abbrev callH (h : Heap) (vs : List Value) : Heap := ((h.push (seqObj "list" #[] 0)).update h.objs.size (Obj.mapSeq (· ++ vs.toArray))).push (seqObj "list" vs.toArray 0)
theorem sorted_call {κ : SortKind} {l : Addr} {Q : Value → Shared → Prop} (hl : s.heap.IsList l vs.toArray)
 (h2 : 2 ≤ vs.length) (h64 : vs.length < 64) (hp : runK f (kas_sort vs.length) = some p)
 (hk : ∀ h', (∀ b o, s.heap.get? b = some o → h'.get? b = some o) → ∀ Q : SortKind → Shared → Prop, Q κ { s with heap := h' } → wpAny (MW w) A.in1.in1 (keyKind' vs.toArray) Q noE { s with heap := h' })
 (hf : ∀ h', (∀ b o, s.heap.get? b = some o → h'.get? b = some o) → ∀ i j c, f i j = some c → ∀ C : Bool → Shared → Prop, C c { s with heap := h' } → kas_ask PG w A.in1.in1 κ vs i j C { s with heap := h' })
 (h : ∀ D h' c, (∀ b o, s.heap.get? b = some o → h'.get? b = some o) → s.heap.get? D = none → h'.get? D = some (seqObj "list" (toArray (p.toList.map fun i => vs.getD i Value.none)) c) → Q (.ref D) { s with heap := h' }) :
 wpAny (MW w) A (call (.builtin "sorted") [.ref l] []) Q E s := by
 refine Calls.call_function_entry kind_sorted plain_sorted entry_sorted (args_sorted1 _) ?_
 unfold Builtin.«sorted»
 refine wpAny_bind (m := checkCount "sorted" 1 1 _) (wpAny_pure ?_)
 refine wpAny_bind (collect_list hl ?_ (by rw [sizeLine_eq]; exact le_trans (le_of_lt h64) (by decide)))
 refine wpAny_bind (wpAny_newList ?_ (by rw [sizeLine_eq]; exact le_trans (le_of_lt h64) (by decide)))
 have hsz : ((s.heap.push (seqObj "list" #[] 0)).update s.heap.objs.size (Obj.mapSeq (· ++ vs.toArray))).objs.size = s.heap.objs.size + 1 := by
  rw [Heap.size_update, size_push']
 have hoL : (callH s.heap vs).get? (s.heap.objs.size + 1) = some (seqObj "list" vs.toArray 0) := by
  rw [← hsz]; exact get?_push_size _ rfl
 have keep : ∀ b o, s.heap.get? b = some o → (callH s.heap vs).get? b = some o := fun b o q => by
  have hlt : b < s.heap.objs.size := lt_size q
  rw [Heap.get?_push_ne _ _ _ (by rw [hsz]; exact ne_of_lt (Nat.lt_succ_of_lt hlt)), Heap.get?_update_ne _ _ _ _ (ne_of_lt hlt), Heap.get?_push_ne _ _ _ (ne_of_lt hlt)]
  exact q
 have ne : ∀ {b : Addr} {o : Obj}, s.heap.get? b = some o → b ≠ s.heap.objs.size + 1 := fun q => ne_of_lt (Nat.lt_succ_of_lt (lt_size q))
 show wpAny _ _ _ _ _ { s with heap := callH s.heap vs }
 rw [hsz]
 refine wpAny_bind (wpAny_holding (wpAny_call_entry slot_list_sort ⟨_, hoL, rfl⟩ entry_list_sort ?body (args_list_sort _)))
 case body =>
  exact sort_tree (s := { s with heap := callH s.heap vs }) hoL h2 h64 hp
   (fun h' k => hk h' fun b o q => k b o (ne q) (keep b o q)) (fun h' k => hf h' fun b o q => k b o (ne q) (keep b o q))
   fun h' c k hD => ⟨_, rfl, wpAny_pure ⟨_, rfl, h _ h' c (fun b o q => k b o (ne q) (keep b o q)) (Heap.get?_none_of_le (le_succ _)) hD⟩⟩
theorem pair2_is {p : V × V} (h : pair2 v = some p) : v = .tup [p.1, p.2] := by
 cases v with
 | tup l => cases l with
  | nil => exact nN h
  | cons x l => cases l with
   | nil => exact nN h
   | cons y l => cases l with
    | nil => cases h; rfl
    | cons => exact nN h
 | _ => exact nN h
theorem pairI_is (h : pairI v = true) : ∃ i y, v = .tup [.int i, y] := by
 unfold pairI at h
 cases hp : pair2 v with
 | none => rw [hp] at h; exact ff_ne h
 | some p =>
  rw [hp] at h
  obtain ⟨x, y⟩ := p
  cases x with
  | int i => exact ⟨i, y, pair2_is hp⟩
  | _ => exact ff_ne h
theorem tups_of (l : List V) : ∀ {vs : List Value}, l.all pairI = true → RVs h κ l vs → ∃ fs : List Value, fs.length = vs.length ∧ KatTups h vs fs ∧ ∀ v ∈ fs, ∃ i t, v = .int i t := by
 induction l with
 | nil => intro vs _ e; cases e; exact ⟨[], rfl, trivial, nofun⟩
 | cons v l ih =>
  intro vs hk e
  obtain ⟨cv, r, rfl, rv, rs⟩ := e
  obtain ⟨fs, h1, h2, h3⟩ := ih (aB hk).2 rs
  obtain ⟨i, y, rfl⟩ := pairI_is (aB hk).1
  obtain ⟨a, vals, rfl, ⟨n, hn⟩, _, q⟩ := rv
  obtain ⟨c1, r1, e1, ⟨t, rfl⟩, _⟩ := q
  refine ⟨.int i t :: fs, congrArg (· + 1) h1, ⟨⟨a, _, vals, n, rfl, hn, rfl, rfl, ?_⟩, h2⟩, fun v hv => ?_⟩
  ·rw [← getElem?_toList, e1]; rfl
  ·exact (mem_cons.mp hv).elim (fun e => ⟨_, _, e⟩) (h3 v)
theorem tup2_at (r : RV h κ (.tup [x, y]) cv) : ∃ a vals n cx cy, cv = .ref a ∧ h.get? a = some { cls := .type "tuple", dict := none, data := .seq vals n } ∧ vals.toList = [cx, cy] ∧ vals.size = 2 ∧ RV h κ x cx ∧ RV h κ y cy := by
 obtain ⟨a, vals, rfl, ⟨n, hn⟩, _, q⟩ := r
 obtain ⟨cx, cy, e, rx, ry⟩ := RVs_two q
 exact ⟨a, vals, n, cx, cy, rfl, hn, e, congrArg length e, rx, ry⟩
theorem lt_first {u v : Value} {C : Bool → Shared → Prop} (q : a ≠ c) (hC : C (decide (a < c)) s) : KatLex PG w A true false C [(.int a ta, .int c tc), (u, v)] 0 s := by
 refine kat_cons (wpAny_eqBool_int ?_)
 rw [beq_eq_false_iff_ne.mpr q]
 refine kat_no ?_
 show wpAny _ _ (oneLt' true _ _) _ _ _
 exact oneLt_int hC
inductive LtI : V → V → Bool → Prop where
 | ii (a c b d : Int) : LtI (.tup [.int a, .int b]) (.tup [.int c, .int d]) (decide (a < c) || (decide (a = c) && decide (b < d)))
 | bb {a c : Int} {u v : Bool} (h : a ≠ c) : LtI (.tup [.int a, .bool u]) (.tup [.int c, .bool v]) (decide (a < c))
theorem lt2_inv {u : V} (h : lt2 a c y u = some t) : LtI (.tup [.int a, y]) (.tup [.int c, u]) t := by
 unfold lt2 at h
 cases y with
 | int b =>
  cases u with
  | int d => cases h; exact .ii a c b d
  | _ => exact nN h
 | bool b =>
  cases u with
  | bool d =>
   replace h : (if a = c then none else some (decide (a < c))) = some t := h
   by_cases q : a = c
   ·rw [if_pos q] at h; exact nN h
   ·rw [if_neg q] at h; cases h; exact .bb q
  | _ => exact nN h
 | _ => exact nN h
theorem lt_inv (h : ltV x y = some t) : LtI x y t := by
 obtain ⟨⟨x1, x2⟩, e1, h⟩ := bS h
 obtain ⟨⟨y1, y2⟩, e2, h⟩ := bS h
 cases pair2_is e1
 cases pair2_is e2
 cases x1 with
 | int a =>
  cases y1 with
  | int c => exact lt2_inv h
  | _ => exact nN h
 | _ => exact nN h
inductive Tup2 (h : Heap) (κ : Pl) (x y : V) : Value → Prop where
 | mk {a : Addr} {vals : Array Value} {n : Nat} {cx cy : Value} (g : h.get? a = some { cls := .type "tuple", dict := none, data := .seq vals n }) (e : vals.toList = [cx, cy]) (z : vals.size = 2) (rx : RV h κ x cx) (ry : RV h κ y cy) : Tup2 h κ x y (.ref a)
theorem tup2_is (r : RV h κ (.tup [x, y]) cv) : Tup2 h κ x y cv := by
 obtain ⟨a, vals, n, cx, cy, rfl, hn, e, z, rx, ry⟩ := tup2_at r
 exact .mk hn e z rx ry
theorem lt_tups {x1 x2 y1 y2 : V} {C : Bool → Shared → Prop} (rx : RV s.heap κ (.tup [x1, x2]) cx) (ry : RV s.heap κ (.tup [y1, y2]) cy) (k : ∀ c1 c2 d1 d2, RV s.heap κ x1 c1 → RV s.heap κ x2 c2 → RV s.heap κ y1 d1 → RV s.heap κ y2 d2 → KatLex PG w A true false C [(c1, d1), (c2, d2)] 0 s) : wpAny (MW w) A (keyLt' (tuples' true) cx cy) C noE s := by
 cases tup2_is rx with
 | mk hx ex sx r1 r2 =>
  cases tup2_is ry with
  | mk hy ey sy q1 q2 =>
   refine kat_lt hx rfl hy rfl ?_
   rw [ex, ey, sx, sy]
   exact k _ _ _ _ r1 r2 q1 q2
theorem lt_ints {b d : Int} {tb td : Tok} {C : Bool → Shared → Prop} (hC : C (decide (b < d)) s) : KatLex PG w A true false C [(.int a ta, .int a tc), (.int b tb, .int d td)] 0 s := by
 refine kat_cons (wpAny_eqBool_int ?_)
 rw [beq_self_eq_true]
 refine kat_yes (kat_cons (wpAny_eqBool_int ?_))
 by_cases q2 : b = d
 ·subst q2
  rw [beq_self_eq_true]
  rw [decide_eq_false (lt_irrefl b)] at hC
  exact kat_yes (kat_nil hC)
 ·rw [beq_eq_false_iff_ne.mpr q2]
  refine kat_no ?_
  show wpAny _ _ (oneLt' false _ _) _ _ _
  exact kat_one _ _ (P.lt_int hC)
theorem lt_pair {c : Bool} {C : Bool → Shared → Prop} (h : ltV x y = some c) (rx : RV s.heap κ x cx) (ry : RV s.heap κ y cy) (hC : C c s) :
 wpAny (MW w) A (keyLt' (tuples' true) cx cy) C noE s := by
 cases lt_inv h with
 | ii a c b d =>
  refine lt_tups rx ry fun c1 c2 d1 d2 ⟨ta, e1⟩ ⟨tb, e2⟩ ⟨tc, e3⟩ ⟨td, e4⟩ => ?_
  subst e1 e2 e3 e4
  by_cases q : a = c
  ·subst q
   rw [decide_eq_false (lt_irrefl a), decide_eq_true rfl, Bool.false_or, Bool.true_and] at hC
   exact lt_ints hC
  ·rw [decide_eq_false q, Bool.false_and, Bool.or_false] at hC
   exact lt_first q hC
 | bb q =>
  refine lt_tups rx ry fun c1 c2 d1 d2 ⟨ta, e1⟩ _ ⟨tc, e3⟩ _ => ?_
  subst e1 e3
  exact lt_first q hC
theorem RVs_pickedB (r : RVs h κ l vs) (is : List Nat) : is.all (fun i => decide (i < l.length)) = true → RVs h κ (picked l is) (is.map fun i => vs.getD i Value.none) := by
 induction is with
 | nil => exact fun _ => rfl
 | cons i is ih =>
  intro hk
  have h1 := of_decide_eq_true (aB hk).1
  obtain ⟨cv, hc, rv⟩ := RVs_get r (getElem?_eq_getElem h1)
  have e : picked l (i :: is) = l[i] :: picked l is := by
   rw [picked, filterMap_cons, getElem?_eq_getElem h1]; rfl
  rw [e]
  refine ⟨cv, _, ?_, rv, ih (aB hk).2⟩
  rw [map_cons, getD_eq_getElem?_getD, hc]; rfl
theorem int_ne_tuple : (Value.type "int" != Value.type "tuple") = true := by decide +kernel
theorem tups_keep {h' : Heap} (k : ∀ b o, h.get? b = some o → h'.get? b = some o) (vs : List Value) : ∀ {fs : List Value}, KatTups h vs fs → KatTups h' vs fs := by
 induction vs with
 | nil => intro fs t; cases fs with
  | nil => trivial
  | cons => exact t.elim
 | cons v vs ih => intro fs t; cases fs with
  | nil => exact t.elim
  | cons f fs =>
   obtain ⟨⟨a, o, xs, n, e, ho, r⟩, t⟩ := t
   exact ⟨⟨a, o, xs, n, e, k _ _ ho, r⟩, ih t⟩
theorem sorted_sound {r : List V} (hx : iO O x = some l) (h2 : 2 ≤ l.length) (h64 : l.length < 64) (hr : sortV l = some r) (R : RelW w κ Fs O s.heap) (rx : RV s.heap κ x cv) (q : Q (.lst r) O) :
 wpAny (MW w) A (call (.builtin "sorted") [cv] []) (End w b κ Fs O s RV Q) E s := by
 obtain ⟨a, vals, rfl, hpl, rs⟩ := items_of R hx rx
 obtain ⟨hall, hr⟩ := iS hr
 obtain ⟨p, hp, hr⟩ := bS hr
 obtain ⟨hlt, hr⟩ := iS hr
 cases hr
 rw [RVs_length rs] at hp h2 h64
 obtain ⟨fs, f1, f2, f3⟩ := tups_of l hall rs
 refine sorted_call (κ := tuples' true) (vs := vals.toList) hpl.isList h2 h64 hp (fun h' k Q hQ => ?_) (fun h' k i j c hc C hC => ?_) fun D h' c k hn hD => ?_
 ·refine kat_kind (T := .type "int") (fs := fs) (tups_keep k _ f2) (f1 ▸ le_trans (show 1 ≤ 2 by decide) h2) (fun v hv => ?_) (by decide +kernel) (by rw [int_ne_tuple]; exact hQ)
  obtain ⟨i, t, rfl⟩ := f3 v hv
  exact Looks.of_pure rfl
 ·obtain ⟨x, h1, hc⟩ := bS hc
  obtain ⟨y, h2, hc⟩ := bS hc
  obtain ⟨cx, e1, r1⟩ := RVs_get rs h1
  obtain ⟨cy, e2, r2⟩ := RVs_get rs h2
  unfold kas_ask
  rw [getD_eq_getElem?_getD, e1, getD_eq_getElem?_getD, e2]
  exact lt_pair hc (rM (Ext.grow k) r1) (rM (Ext.grow k) r2) hC
 ·have hoff : D ∉ κ.mt := fun hm => let ⟨o, ho⟩ := R.ex D hm; nomatch hn.symm.trans ho
  exact .mk q (Go.grow R k ⟨rfl, rfl, rfl⟩) ⟨D, _, rfl, ⟨_, hD⟩, hoff, RVs_pickedB (rMs (Ext.grow k) rs) _ hlt⟩
end
end
section
variable {l : Addr} {items : Array Value}
theorem keys_miss : typeLookup (.type "list") "keys" = pure none := by rw [typeLookup_type, builtinLookup_eq_fast]; kernel_rfl
section
variable {prog : Program} {w : World} {A : Around} {E : Value → Shared → Prop} {s : Shared}
theorem keys_none {a : Addr} {vals : Array Value} {n : Nat} {Q : Option Value → Shared → Prop} (hx : s.heap.get? a = some { cls := .type "list", dict := none, data := .seq vals n, slots := #[] }) (hA : A.handled = none)
 (h : ∀ h' tk, (∀ b o, s.heap.get? b = some o → h'.get? b = some o) → Q none { s with heap := h', toks := tk }) : wpAny (model prog w) A (getAttr? (.ref a) "keys") Q E s := by
 obtain ⟨hp, g, d, tk, os⟩ := s
 have hT : ∀ tk', (⟨hp, g, d, tk', os⟩ : Shared).TypeIs (.ref a) "list" := fun _ => ⟨_, hx, rfl⟩
 have f1 := sub_AttributeError
 have f3 := F.slot_list_getattribute.lookup
 have f4 := F.slot_list_getattribute.bind (.ref a)
 have f5 := am_list_getattr_none
 unfold getAttr? getAttrBy? getAttrBy
 repeat (any_goals (first | assumption | exact hT _ | ((with_reducible show wpAny _ _ (call (Value.builtin "list.__getattribute__") _ _) _ _ _); refine call_meets F.slot_list_getattribute (hT _) am_entry_list_getattribute (F.args_list_getattribute_2 _ _) (meets_getattribute_miss_list a vals n #[] "keys" _ keys_miss (by decide +kernel)) ⟨hx, hA, fun h' tk' e hx' => ?_⟩) | wp_step))
 obtain ⟨t', u', he⟩ := hx'.there
 show wpAny _ _ (getattributeRaised _ _ _ _ _ _ _) _ _ _
 unfold getattributeRaised
 repeat (any_goals (first | assumption | wp_step))
 exact h h' tk' hx'.keeps
theorem entry_dul : entryFor table "dict.update.loop" = some Builtin.«dict.update.loop» := entryFor_of_tree (by kernel_rfl)
theorem plain_dul : plainId "dict.update.loop" = true := by decide +kernel
noncomputable def PairAt (h : Heap) (x : Value) (e : Str × Value) : Prop := ∃ a t n, x = .ref a ∧ h.get? a = some { cls := .type "tuple", data := .seq #[.str e.1 t, e.2] n }
noncomputable def storeAll (kvs es : List (Str × Value)) : List (Str × Value) := es.foldl (fun d e => stored d e.1 e.2) kvs
theorem dict_loop {R : Result → Shared → Prop} {h0 : Heap} {d it : Addr} (hh : A.handled = none) (hd : h0.objs.size ≤ d) (hi0 : h0.objs.size ≤ it) (hdi : d ≠ it) (hl0 : h0.IsList l items) : ∀ (es : List (Str × Value)) (i : Nat) (kvs : List (Str × Value)) (h : Heap) (tk : Nat),
 items.size = i + es.length → (∀ (j : Nat) e, es[j]? = some e → ∃ x, items[i + j]? = some x ∧ PairAt h0 x e) → kvs.length + es.length ≤ sizeLine → h.IsListIter it l i → h.DictAt (strKind prog w) d kvs kvs.length → (∀ b o, h0.get? b = some o → h.get? b = some o) →
 (∀ h' tk, (∀ b o, h0.get? b = some o → h'.get? b = some o) → h'.DictAt (strKind prog w) d (storeAll kvs es) (storeAll kvs es).length → R (.ok (.ret .none)) { s with heap := h', toks := tk }) →
 codeAny (model prog w) A (.builtin "dict.update.loop" ⟨[.ref d, .ref it, .int i 0, .none], []⟩) R { s with heap := h, toks := tk } := by
 intro es
 induction es with
 | nil =>
  intro i kvs h tk hz _ _ hit hD hk hR
  refine codeAny_builtin entry_dul ?_
  rw [Around.under_plainId plain_dul _]
  show wpAny _ A.in1 (pyNext (.ref it) >>= _) _ _ _
  refine wpAny_bind (wpAny_pyNext_list_end (s := { s with heap := h, toks := tk }) hh hit (hl0.at fun o e => hk _ o e) (getElem?_eq_none (le_of_eq hz)) fun h' he' => ?_)
  exact wpAny_bind (wpAny_pure (wpAny_pure (hR h' tk (fun b o q => he' b o (ne_of_lt (lt_of_lt_of_le (lt_size q) hi0)) (hk b o q)) (hD.extBut he' hdi))))
 | cons e es ih =>
  intro i kvs h tk hz hp hn hit hD hk hR
  obtain ⟨x, hx, a, t, n, rfl, ha⟩ := hp 0 e rfl
  refine codeAny_builtin entry_dul ?_
  rw [Around.under_plainId plain_dul _]
  show wpAny _ A.in1 (pyNext (.ref it) >>= _) _ _ _
  refine wpAny_bind (wpAny_pyNext_list_item (s := { s with heap := h, toks := tk }) hit (hl0.at fun o e => hk _ o e) hx fun h1 hit1 hs1 => ?_)
  have k1 : ∀ b o, h0.get? b = some o → h1.get? b = some o := fun b o q => hs1.extBut b o (ne_of_lt (lt_of_lt_of_le (lt_size q) hi0)) (hk b o q)
  have ha1 := k1 _ _ ha
  refine wpAny_bind (wpAny_holding (wpAny_bind (wpAny_tryCatch ?_)))
  unfold Builtin.Dict.pairItems
  refine wpAny_bind (wpAny_typeOf (T := "tuple") (s := { s with heap := h1, toks := tk }) ⟨_, ha1, rfl⟩ ?_)
  rw [if_pos (by decide)]
  refine wpAny_bind (wpAny_seqItems (s := { s with heap := h1, toks := tk }) ha1 rfl (wpAny_pure ?_))
  show wpAny _ _ (holding [.str e.1 t, e.2] (dictSet d (.str e.1 t) e.2)) _ _ _
  refine wpAny_holding (dictSet_put (knd := strKind prog w) (k := e.1) (beq_self_eq_true e.1) (hD.extBut hs1.extBut hdi) (le_trans (le_add_right _ _) hn) fun h2 hD2 hs2 => ?_)
  refine wpAny_pure ⟨plainId_quiet plain_dul _, ih (i + 1) (stored kvs e.1 e.2) h2 (tk + 1) (by rw [hz, length_cons]; exact (succ_add _ _).symm) (fun j e' hj => by rw [add_assoc, add_comm 1 j]; exact hp (j + 1) e' hj) ?_ (hit1.extBut hs2.extBut (Ne.symm hdi)) hD2 (fun b o q => hs2.extBut b o (ne_of_lt (lt_of_lt_of_le (lt_size q) hd)) (k1 b o q)) hR⟩
  exact le_trans (add_le_add_right (stored_length_le kvs e.1 e.2) _) (by rw [length_cons] at hn; exact le_trans (le_of_eq (succ_add _ _)) hn)
theorem call_dict_pairs {items : Array Value} {nl : Nat} {es : List (Str × Value)} {Q : Value → Shared → Prop} (hh : A.handled = none) (hl : s.heap.get? l = some { cls := .type "list", dict := none, data := .seq items nl, slots := #[] }) (hz : items.size = es.length) (hp : ∀ (j : Nat) e, es[j]? = some e → ∃ x, items[j]? = some x ∧ PairAt s.heap x e) (hn : es.length ≤ sizeLine)
 (hQ : ∀ h' tk, (∀ b o, s.heap.get? b = some o → h'.get? b = some o) → h'.DictAt (strKind prog w) s.heap.objs.size (storeAll [] es) (storeAll [] es).length → Q (.ref s.heap.objs.size) { s with heap := h', toks := tk }) :
 wpAny (model prog w) A (call (.type "dict") [.ref l] []) Q E s := by
 refine callType_codes (Q₁ := fun obj s₁ => obj = .ref s.heap.objs.size ∧ s₁ = { s with heap := s.heap.push { cls := .type "dict", data := .dict #[] } }) F.kt_called_dict (F.kt_typeCall_dict_1 _) F.entry_dict_init (kt_code_dict_new _ ⟨rfl, rfl⟩) ?_
 rintro obj s₁ ⟨rfl, rfl⟩
 have hD : (s.heap.push { cls := .type "dict", data := .dict #[] }).DictAt (strKind prog w) s.heap.objs.size [] 0 := ⟨_, #[], get?_push_size _ rfl, ⟨rfl, rfl, rfl⟩, rfl, fun _ he => by simp at he, .nil, nodup_nil⟩
 have hl1 := get?_push_of_some { cls := .type "dict", data := .dict #[] } hl
 refine ⟨hD.dictOf.typeIs, F.args_dict_init_2 _ _, ?_⟩
 unfold Builtin.«dict.__init__»
 refine wpAny_bind ?_
 unfold Builtin.Dict.selfAndRest
 refine wpAny_bind (wpAny_notOrdered_dict hD.dictOf.typeIs ?_)
 show wpAny _ _ (pure (s.heap.objs.size, [Value.ref l])) _ _ _
 refine wpAny_pure ?_
 show wpAny _ _ (Builtin.Dict.updateFrom "dict.__init__" s.heap.objs.size (.ref l) [] .none) _ _ _
 unfold Builtin.Dict.updateFrom
 refine wpAny_bind (wpAny_typeOf (T := "list") ⟨_, hl1, rfl⟩ ?_)
 rw [if_pos (by decide)]
 refine wpAny_bind (keys_none hl1 hh fun h1 tk k1 => ?_)
 rw [if_pos (show (none : Option Value).isNone = true from rfl)]
 refine wpAny_bind (wpAny_rule ?_)
 refine wpAny_bind (wpAny_pyIter_list (s := { s with heap := h1, toks := tk }) ⟨_, k1 _ _ hl1, rfl, nl, rfl⟩ ?_)
 have keep : ∀ b o, s.heap.get? b = some o → (h1.push { cls := .type "list_iterator", data := .fields #[.ref l, .int 0 0] }).get? b = some o := fun b o q => get?_push_of_some _ (k1 b o (get?_push_of_some _ q))
 obtain ⟨od, hod⟩ : ∃ o, h1.get? s.heap.objs.size = some o := by obtain ⟨o, _, ho, _⟩ := hD; exact ⟨o, k1 _ _ ho⟩
 have hlt : s.heap.objs.size < h1.objs.size := lt_size hod
 refine wpAny_pure ⟨plainId_quiet plain_dul _, dict_loop (s := s) (h0 := s.heap) (R := wants (fun r s₂ => r = .none ∧ Q (.ref s.heap.objs.size) s₂) E) (A := A.in1) hh (le_refl _) (le_of_lt hlt) (ne_of_lt hlt) ⟨_, hl, rfl, nl, rfl⟩ es 0 [] _ _ (by rw [zero_add]; exact hz) (fun j e hj => by rw [zero_add]; exact hp j e hj) (by rw [length_nil, zero_add]; exact hn)
  ⟨_, get?_push_size _ rfl, rfl, rfl⟩ (hD.at' fun o q => get?_push_of_some _ (k1 _ o q)) keep fun h' tk k hd => ⟨rfl, hQ h' tk k hd⟩⟩
end
section
variable {w : World} {A : Around} {b : Nat} {κ : Pl} {Fs : List Fr} {O : Oj} {s : Shared} {E : Value → Shared → Prop} {Q : V → Oj → Prop}
theorem strPairs_is {h : Heap} : ∀ {l : List V} {es : List (List Nat × V)} {cs : List Value}, strPairs l = some es → RVs h κ l cs → ∃ kvs : List (Str × Value), EntR h κ S es kvs ∧ cs.length = kvs.length ∧ ∀ (j : Nat) e, kvs[j]? = some e → ∃ x, cs[j]? = some x ∧ PairAt h x e := by
 intro l
 induction l with
 | nil => intro _ _ e r; cases e; cases r; exact ⟨[], ⟨rfl, rfl⟩, rfl, fun j e h => nomatch h⟩
 | cons v l ih =>
  intro es _ e ⟨c, cs, q, rv, rs⟩
  subst q
  obtain ⟨p, h1, e⟩ := bS e
  obtain ⟨es', h2, e⟩ := mS e
  cases e
  obtain ⟨⟨x, y⟩, h3, h4⟩ := bS h1
  cases pair2_is h3
  cases x with
  | str k =>
   cases h4
   obtain ⟨a, vals, rfl, ⟨n, hn⟩, ha, cx, r1, e1, ⟨t, rfl⟩, cy, r2, rfl, ry, rfl⟩ := rv
   obtain ⟨kvs, ⟨q1, q2⟩, hz, hk⟩ := ih h2 rs
   have ev : vals = #[.str (S k) t, cy] := toList_inj.mp e1
   subst ev
   refine ⟨(S k, cy) :: kvs, ⟨congrArg (S k :: ·) q1, cy, _, rfl, ry, q2⟩, congrArg (· + 1) hz, fun j e hj => ?_⟩
   cases j with
   | zero => cases hj; exact ⟨_, rfl, a, t, n, rfl, hn⟩
   | succ j => exact hk j e hj
  | _ => exact nN h4
theorem ent_all {h : Heap} : ∀ {es : List (List Nat × V)} {kvs : List (Str × Value)} {d : List (List Nat × V)} {kd : List (Str × Value)}, EntR h κ S es kvs → EntR h κ S d kd → EntR h κ S (putAll d es) (storeAll kd kvs)
 | [], kvs, d, kd, e, r => by cases map_eq_nil_iff.mp e.1; exact r
 | _ :: _, [], _, _, e, _ => nomatch e.1
 | e :: es, kv :: kvs, d, kd, q4, rd => by
  obtain ⟨h1, c, r, h2, r1, r2⟩ := q4
  obtain ⟨h3, h4⟩ := List.cons.inj h1
  cases h2
  have q := ent_put (fun _ _ z => S_inj z) (k := e.1) r1 rd
  rw [show S e.1 = kv.1 from h3.symm] at q
  exact ent_all (kvs := kvs) (kd := stored kd kv.1 kv.2) (d := putD d e.1 e.2) ⟨h4, r2⟩ q
theorem dict_pairs_sound {v : V} {r : V × Oj} {cv : Value} (hh : A.handled = none) (h : yDict [v] O = some r) (R : RelW w κ Fs O s.heap) (rv : RV s.heap κ v cv) (q : Q r.1 r.2) : wpAny (MW w) A (call (.type "dict") [cv] []) (End w b κ Fs O s RV Q) E s := by
 cases v with
 | lst l =>
  obtain ⟨hc, h⟩ := iS h
  obtain ⟨es, h1, h⟩ := mS h
  cases h
  obtain ⟨a, vals, rfl, ⟨n, hn⟩, ha, rs⟩ := rv
  obtain ⟨kvs, ek, hz, hk⟩ := strPairs_is h1 rs
  rw [length_toList] at hz
  refine call_dict_pairs hh hn hz (fun j e hj => let ⟨x, hx, hp⟩ := hk j e hj; ⟨x, getElem?_toList.symm.trans hx, hp⟩) (hz ▸ RVs_size rs ▸ le_trans (lenOk_le hc) (by decide)) fun h' tk k hD => ?_
  have dm := DA.ofS hD
  exact new_obj' R q k dm.ex fun κ' x => ⟨_, dm, ent_all ⟨ek.1, rMs x ek.2⟩ ⟨rfl, rfl⟩⟩
 | _ => exact nN h
end
end
section
variable {c : Bool} {a l : List V} {r : V × Oj} {h : Heap} {ca : List Value} {id : String} {n : Nat} {x : List Nat} {o : Option String} {g : Prop} {T : MT} {name : Str} {t : Tok} {cx : Value}
theorem ite_either {α : Type} {c : Prop} [Decidable c] {a b : Option α} {v : α} (h : (if c then a else b) = some v) : (c ∧ a = some v) ∨ b = some v := by
 by_cases hc : c
 ·rw [if_pos hc] at h; exact .inl ⟨hc, h⟩
 ·rw [if_neg hc] at h; exact .inr h
section
variable {w : World} {A : Around} {b : Nat} {κ : Pl} {Fs : List Fr} {O O1 : Oj} {s : Shared} {E : Value → Shared → Prop} {Q : V → Oj → Prop}
theorem two_some {f : V → V → Option (V × Oj)} (e : two a f = some r) (ra : RVs h κ a ca) : ∃ u v cu cv, f u v = some r ∧ ca = [cu, cv] ∧ RV h κ u cu ∧ RV h κ v cv := by
 cases a with
 | nil => exact nN e
 | cons u l => cases l with
  | nil => exact nN e
  | cons v l => cases l with
   | nil => obtain ⟨cu, cv, rfl, r1, r2⟩ := RVs_two ra; exact ⟨u, v, cu, cv, e, rfl, r1, r2⟩
   | cons => exact nN e
theorem RVs_one {v : V} (r : RVs h κ [v] ca) : ∃ cv, ca = [cv] ∧ RV h κ v cv := by
 obtain ⟨cv, r, rfl, a, e⟩ := r
 cases e; exact ⟨cv, rfl, a⟩
theorem ite_or {α : Type} {c : Prop} [Decidable c] {a b : Option α} {v : α} {p : Prop} (h : (if c then a else b) = some v) (k1 : c → a = some v → p) (k2 : b = some v → p) : p := (ite_either h).elim (fun h => k1 h.1 h.2) k2
theorem b_len (B : Base w) (e : (ofString id == ("len" : Str)) = true) (h : bLen a O = some r) (ok : Ok A 1) (R : RelW w κ Fs O s.heap) (ra : RVs s.heap κ a ca) (q : Q r.1 r.2) : wpAny (MW w) A (call (.builtin id) ca []) (End w b κ Fs O s RV Q) E s := by
 cases ofString_inj e
 obtain ⟨v, cv, h, rfl, rv, rfl⟩ := one_some h ra
 obtain ⟨u, h2, rfl⟩ := mS h
 exact lenD_sound B h2 R rv q
theorem b_sum (e : (ofString id == ("sum" : Str)) = true) (h : bSum a O = some r) (ok : Ok A 1) (R : RelW w κ Fs O s.heap) (ra : RVs s.heap κ a ca) (q : Q r.1 r.2) : wpAny (MW w) A (call (.builtin id) ca []) (End w b κ Fs O s RV Q) E s := by
 cases ofString_inj e
 obtain ⟨v, cv, h, rfl, rv, rfl⟩ := one_some h ra
 obtain ⟨l, h1, h⟩ := bS h
 obtain ⟨is, h2, h⟩ := bS h
 obtain ⟨hc, h⟩ := iS h
 cases h
 exact sum_sound ok.hd h1 h2 (aB (aB hc).1).1 (of_decide_eq_true (aB (aB hc).1).2) R rv q
theorem b_iter (e : (ofString id == ("iter" : Str)) = true) (h : bIter a O = some r) (ok : Ok A 1) (R : RelW w κ Fs O s.heap) (ra : RVs s.heap κ a ca) (q : Q r.1 r.2) : wpAny (MW w) A (call (.builtin id) ca []) (End w b κ Fs O s RV Q) E s := by
 cases ofString_inj e
 obtain ⟨v, cv, h, rfl, rv, rfl⟩ := one_some h ra
 cases v with
 | lst l => cases h; exact iter_sound R rv q
 | _ => exact nN h
theorem iterAt_is (h : iterAt O n = some l) : O[n]? = some (.iter l) := by
 unfold iterAt at h
 cases ho : O[n]? with
 | none => rw [ho] at h; exact nN h
 | some o =>
  rw [ho] at h
  cases o with
  | iter l => cases h; rfl
  | _ => exact nN h
theorem b_next (e : (ofString id == ("next" : Str)) = true) (h : bNext a O = some r) (ok : Ok A 1) (R : RelW w κ Fs O s.heap) (ra : RVs s.heap κ a ca) (q : Q r.1 r.2) : wpAny (MW w) A (call (.builtin id) ca []) (End w b κ Fs O s RV Q) E s := by
 cases ofString_inj e
 obtain ⟨v, cv, h, rfl, rv, rfl⟩ := one_some h ra
 cases v with
 | ref n =>
  obtain ⟨l, h1, h⟩ := bS h
  cases l with
  | nil => exact nN h
  | cons v l => cases h; exact next_sound (iterAt_is h1) R rv q
 | _ => exact nN h
theorem b_chr (e : (ofString id == ("chr" : Str)) = true) (h : bChr a O = some r) (ok : Ok A 1) (R : RelW w κ Fs O s.heap) (ra : RVs s.heap κ a ca) (q : Q r.1 r.2) : wpAny (MW w) A (call (.builtin id) ca []) (End w b κ Fs O s RV Q) E s := by
 cases ofString_inj e
 obtain ⟨v, cv, h, rfl, rv, rfl⟩ := one_some h ra
 obtain ⟨i, t, h, rfl⟩ := asInt_some h rv
 exact chr_sound h R q
theorem b_ord (e : (ofString id == ("ord" : Str)) = true) (h : bOrd a O = some r) (ok : Ok A 1) (R : RelW w κ Fs O s.heap) (ra : RVs s.heap κ a ca) (q : Q r.1 r.2) : wpAny (MW w) A (call (.builtin id) ca []) (End w b κ Fs O s RV Q) E s := by
 cases ofString_inj e
 obtain ⟨v, cv, h, rfl, rv, rfl⟩ := one_some h ra
 obtain ⟨i, t, h, rfl⟩ := asStr_some h rv
 match i, h with
 | [c], h => cases h; exact P.ord_of_char (End.tok R q ⟨_, rfl⟩)
theorem b_hex (e : (ofString id == ("hex" : Str)) = true) (h : bHex a O = some r) (ok : Ok A 1) (R : RelW w κ Fs O s.heap) (ra : RVs s.heap κ a ca) (q : Q r.1 r.2) : wpAny (MW w) A (call (.builtin id) ca []) (End w b κ Fs O s RV Q) E s := by
 cases ofString_inj e
 obtain ⟨v, cv, h, rfl, rv, rfl⟩ := one_some h ra
 obtain ⟨i, t, h, rfl⟩ := asInt_some h rv
 exact hex_sound h R q
theorem b_sorted (e : (ofString id == ("sorted" : Str)) = true) (h : bSorted a O = some r) (ok : Ok A 1) (R : RelW w κ Fs O s.heap) (ra : RVs s.heap κ a ca) (q : Q r.1 r.2) : wpAny (MW w) A (call (.builtin id) ca []) (End w b κ Fs O s RV Q) E s := by
 cases ofString_inj e
 obtain ⟨v, cv, h, rfl, rv, rfl⟩ := one_some h ra
 obtain ⟨l, h1, h⟩ := bS h
 obtain ⟨hc, h⟩ := iS h
 obtain ⟨r, h2, h⟩ := mS h
 cases h
 exact sorted_sound h1 (dec_and hc).1 (dec_and hc).2 h2 R rv q
theorem bi_sound (B : Base w) (h : callB (ofString id) a b O = some r) (ok : Ok A 1) (R : RelW w κ Fs O s.heap) (ra : RVs s.heap κ a ca) (q : Q r.1 r.2) : wpAny (MW w) A (call (.builtin id) ca []) (End w b κ Fs O s RV Q) E s :=
 ite_or h (fun e h => b_len B e h ok R ra q) fun h => ite_or h (fun e h => b_sum e h ok R ra q) fun h => ite_or h (fun e h => b_iter e h ok R ra q) fun h => ite_or h (fun e h => b_next e h ok R ra q) fun h => ite_or h (fun e h => b_chr e h ok R ra q) fun h => ite_or h (fun e h => b_ord e h ok R ra q) fun h => ite_or h (fun e h => b_hex e h ok R ra q) fun h => b_sorted (iS h).1 (iS h).2 ok R ra q
theorem ty_sound (h : callY (ofString id) a b O = some r) (ok : Ok A 1) (R : RelW w κ Fs O s.heap) (ra : RVs s.heap κ a ca) (q : Q r.1 r.2) : wpAny (MW w) A (call (.type id) ca []) (End w b κ Fs O s RV Q) E s := by
 unfold callY at h
 rcases ite_either h with ⟨hid, h⟩ | h
 ·cases ofString_inj hid
  cases a with
  | nil => exact nN h
  | cons x a =>
   obtain ⟨cx, ca, rfl, rx, ra⟩ := ra
   cases a with
   | nil =>
    cases ra
    obtain ⟨i, t, h, rfl⟩ := asInt_some h rx
    obtain ⟨hc, h⟩ := iS h
    cases h
    exact call_range_1 (rng_made R q)
   | cons y a =>
    obtain ⟨cy, ca, rfl, ry, ra⟩ := ra
    cases a with
    | nil =>
     cases ra
     obtain ⟨i, t, h, rfl⟩ := asInt_some h rx
     obtain ⟨j, t', h, rfl⟩ := asInt_some h ry
     obtain ⟨hc, h⟩ := iS h
     cases h
     exact call_range_2 (rng_made R q)
    | cons z a =>
     obtain ⟨cz, ca, rfl, rz, ra⟩ := ra
     cases a with
     | nil =>
      cases ra
      obtain ⟨i, t, h, rfl⟩ := asInt_some h rx
      obtain ⟨j, t', h, rfl⟩ := asInt_some h ry
      obtain ⟨k, t'', h, rfl⟩ := asInt_some h rz
      obtain ⟨hc, h⟩ := iS h
      cases h
      rcases or_eq_true_iff.mp (aB hc).2 with e | e
      ·cases eq_of_beq e; exact call_range_3 (by decide) (rng_made R q) (.inl (noPylong (by decide +kernel)))
      ·cases eq_of_beq e; exact call_range_3 (by decide) (rng_made R q) (.inl (noPylong (by decide +kernel)))
     | cons => exact nN h
 rcases ite_either h with ⟨hid, h⟩ | h
 rotate_left
 ·obtain ⟨hid, h⟩ := iS h
  cases ofString_inj hid
  obtain ⟨v, cv, hv, rfl, rv, rfl⟩ := one_some h ra
  exact dict_pairs_sound ok.hd (v := v) hv R rv q
 cases ofString_inj hid
 obtain ⟨v, cv, hv, rfl, rv, rfl⟩ := one_some h ra
 cases hd : deadIter O v with
 | some n =>
  simp only [hd] at hv
  cases hv
  cases v with
  | ref m =>
   obtain ⟨l, h1, h2⟩ := bS hd
   obtain ⟨he, h2⟩ := iS h2
   cases h2
   cases isEmpty_iff.mp he
   exact list_done_sound ok.hd (iterAt_is h1) R rv q
  | _ => exact nN hd
 | none =>
  simp only [hd] at hv
  obtain ⟨l, h1, hv⟩ := bS hv
  obtain ⟨hc, hv⟩ := iS hv
  cases hv
  exact list_sound' ok.hd h1 hc R rv q
theorem ite_id {x : String} (h : (if c = true then some x else o) = some id) : (c = true ∧ id = x) ∨ (c = false ∧ o = some id) := by
 cases c with
 | true => cases h; exact .inl ⟨rfl, rfl⟩
 | false => exact .inr ⟨rfl, h⟩
noncomputable def MSlot (T : MT) (name : Str) (id : String) : Prop := PlainAttrs T.ty ∧ Slot T.ty name id ∧ typeOf (.builtin id) = pure (.type "method_descriptor")
theorem ite_idE {x : String} (h : (if c = true then some x else o) = some id) (k1 : c = true → id = x → g) (k2 : o = some id → g) : g := (ite_id h).elim (fun h => k1 h.1 h.2) fun h => k2 h.2
theorem slot_of {n : Str} {i : String} (e : (name == n) = true) (ei : id = i) (h : MSlot T n i) : MSlot T name id := by cases eq_of_beq e; cases ei; exact h
theorem slot_sound (h : methId name T = some id) : MSlot T name id := by
 cases T with
 | str => exact ite_idE h (fun e i => slot_of e i ⟨F.plainAttrs_str, F.slot_str_split, F.type_str_split⟩) fun h => ite_idE h (fun e i => slot_of e i ⟨F.plainAttrs_str, F.slot_str_join, F.type_str_join⟩) fun h => ite_idE h (fun e i => slot_of e i ⟨F.plainAttrs_str, F.slot_str_startswith, F.type_str_startswith⟩) fun h => ite_idE h (fun e i => slot_of e i ⟨F.plainAttrs_str, F.slot_str_endswith, F.type_str_endswith⟩) fun h => ite_idE h (fun e i => slot_of e i ⟨F.plainAttrs_str, F.slot_str_find, F.type_str_find⟩) fun h => ite_idE h (fun e i => slot_of e i ⟨F.plainAttrs_str, F.slot_str_lower, F.type_str_lower⟩) fun h => ite_idE h (fun e i => slot_of e i ⟨F.plainAttrs_str, F.slot_str_rfind, F.type_str_rfind⟩) fun h => nomatch h
 | list => exact ite_idE h (fun e i => slot_of e i ⟨F.plainAttrs_list, F.slot_list_append, F.type_list_append⟩) fun h => ite_idE h (fun e i => slot_of e i ⟨F.plainAttrs_list, F.slot_list_insert, F.type_list_insert⟩) fun h => ite_idE h (fun e i => slot_of e i ⟨F.plainAttrs_list, F.slot_list_pop, F.type_list_pop⟩) fun h => ite_idE h (fun e i => slot_of e i ⟨F.plainAttrs_list, F.slot_list_count, F.type_list_count⟩) fun h => nomatch h
 | dict => exact ite_idE h (fun e i => slot_of e i ⟨F.plainAttrs_dict, F.slot_dict_get, F.type_dict_get⟩) fun h => nomatch h
theorem ite_both {β : Type} {x : String} {p : Option β} {y : Option β} {r : β} (h : (if c = true then some x else o) = some id) (h' : (if c = true then y else p) = some r) : (id = x ∧ y = some r) ∨ (o = some id ∧ p = some r) := by
 cases c with
 | true => cases h; exact .inl ⟨rfl, h'⟩
 | false => exact .inr ⟨h, h'⟩
theorem ite_bothE {β : Type} {x : String} {p : Option β} {y : Option β} {r : β} (h : (if c = true then some x else o) = some id) (h' : (if c = true then y else p) = some r) (k1 : id = x → y = some r → g) (k2 : o = some id → p = some r → g) : g := (ite_both h h').elim (fun h => k1 h.1 h.2) fun h => k2 h.1 h.2
theorem ms_split (e : id = "str.split") (h : mSplit x a O = some r) (R : RelW w κ Fs O s.heap) (ra : RVs s.heap κ a ca) (q : Q r.1 r.2) : wpAny (MW w) A (call (.builtin id) (.str (S x) t :: ca) []) (End w b κ Fs O s RV Q) E s := by
 subst e
 cases a with
 | nil =>
  cases ra
  obtain ⟨hc, h⟩ := iS h
  cases h
  exact split_space_sound (aB hc).1 (aB hc).2 R ⟨t, rfl⟩ q
 | cons v a =>
  cases a with
  | cons => exact nN h
  | nil =>
   obtain ⟨cv, rfl, rv⟩ := RVs_one ra
   obtain ⟨y, u, h, rfl⟩ := asStr_some h rv
   obtain ⟨hc, h⟩ := iS h
   cases h
   exact split_sep_sound (aB (aB hc).1).1 (aB (aB hc).1).2 (aB hc).2 R q
theorem ms_join (e : id = "str.join") (h : mJoin x a O = some r) (R : RelW w κ Fs O s.heap) (ra : RVs s.heap κ a ca) (q : Q r.1 r.2) : wpAny (MW w) A (call (.builtin id) (.str (S x) t :: ca) []) (End w b κ Fs O s RV Q) E s := by
 subst e
 obtain ⟨v, cv, h, rfl, rv, rfl⟩ := one_some h ra
 obtain ⟨l, h1, h⟩ := bS h
 obtain ⟨ts, h2, h⟩ := bS h
 obtain ⟨hc, h⟩ := iS h
 cases h
 exact join_sound h1 h2 hc R rv q
theorem ms_starts (e : id = "str.startswith") (h : mStarts x a O = some r) (R : RelW w κ Fs O s.heap) (ra : RVs s.heap κ a ca) (q : Q r.1 r.2) : wpAny (MW w) A (call (.builtin id) (.str (S x) t :: ca) []) (End w b κ Fs O s RV Q) E s := by
 subst e
 obtain ⟨v, cv, h, rfl, rv, rfl⟩ := one_some h ra
 obtain ⟨y, u, h, rfl⟩ := asStr_some h rv
 cases h
 exact SC.startswith (End.here R q rfl)
theorem ms_ends (e : id = "str.endswith") (h : mEnds x a O = some r) (R : RelW w κ Fs O s.heap) (ra : RVs s.heap κ a ca) (q : Q r.1 r.2) : wpAny (MW w) A (call (.builtin id) (.str (S x) t :: ca) []) (End w b κ Fs O s RV Q) E s := by
 subst e
 obtain ⟨v, cv, h, rfl, rv, rfl⟩ := one_some h ra
 obtain ⟨y, u, h, rfl⟩ := asStr_some h rv
 cases h
 exact SC.endswith (End.here R q rfl)
theorem three_some {f : V → V → V → Option (V × Oj)} (e : (match a with | [v, i, j] => f v i j | _ => none) = some r) (ra : RVs h κ a ca) : ∃ u v x cu cv cx, f u v x = some r ∧ ca = [cu, cv, cx] ∧ RV h κ u cu ∧ RV h κ v cv ∧ RV h κ x cx := by
 match a, e with
 | [u, v, x], e =>
  obtain ⟨cu, ca, rfl, ru, cv, ca', rfl, rv, ra⟩ := ra
  obtain ⟨cx, rfl, rx⟩ := RVs_one ra
  exact ⟨u, v, x, cu, cv, cx, e, rfl, ru, rv, rx⟩
theorem ms_find (e : id = "str.find") (h : mFind x a O = some r) (R : RelW w κ Fs O s.heap) (ra : RVs s.heap κ a ca) (q : Q r.1 r.2) : wpAny (MW w) A (call (.builtin id) (.str (S x) t :: ca) []) (End w b κ Fs O s RV Q) E s := by
 subst e
 obtain ⟨v, i, j, cv, ci, cj, h, rfl, rv, ri, rj⟩ := three_some (f := fun v i j => asStr v fun y => asInt i fun i => asInt j fun j => some (.int (findT x y (clipT x.length i) (min (clipT x.length j) x.length)), O)) h ra
 obtain ⟨y, u, h, rfl⟩ := asStr_some h rv
 obtain ⟨i, t1, h, rfl⟩ := asInt_some h ri
 obtain ⟨j, t2, h, rfl⟩ := asInt_some h rj
 cases h
 exact find4_sound R q
theorem ms_rfind (e : id = "str.rfind") (h : mRfind x a O = some r) (R : RelW w κ Fs O s.heap) (ra : RVs s.heap κ a ca) (q : Q r.1 r.2) : wpAny (MW w) A (call (.builtin id) (.str (S x) t :: ca) []) (End w b κ Fs O s RV Q) E s := by
 subst e
 obtain ⟨v, i, j, cv, ci, cj, h, rfl, rv, ri, rj⟩ := three_some (f := fun v i j => asStr v fun y => asInt i fun i => asInt j fun j => some (.int (rfindT x y (clipT x.length i) (min (clipT x.length j) x.length)), O)) h ra
 obtain ⟨y, u, h, rfl⟩ := asStr_some h rv
 obtain ⟨i, t1, h, rfl⟩ := asInt_some h ri
 obtain ⟨j, t2, h, rfl⟩ := asInt_some h rj
 cases h
 exact rfind4_sound R q
theorem ms_lower (e : id = "str.lower") (h : mLower x a O = some r) (R : RelW w κ Fs O s.heap) (ra : RVs s.heap κ a ca) (q : Q r.1 r.2) : wpAny (MW w) A (call (.builtin id) (.str (S x) t :: ca) []) (End w b κ Fs O s RV Q) E s := by
 subst e
 cases a with
 | cons => exact nN h
 | nil =>
  cases ra
  obtain ⟨hc, h⟩ := iS h
  cases h
  exact lower_sound hc R q
theorem methS_sound (h : methS name x a O = some r) (hi : methId name .str = some id) (R : RelW w κ Fs O s.heap) (ra : RVs s.heap κ a ca) (q : Q r.1 r.2) :
 wpAny (MW w) A (call (.builtin id) (.str (S x) t :: ca) []) (End w b κ Fs O s RV Q) E s :=
 ite_bothE hi h (fun e h => ms_split e h R ra q) fun hi h => ite_bothE hi h (fun e h => ms_join e h R ra q) fun hi h => ite_bothE hi h (fun e h => ms_starts e h R ra q) fun hi h => ite_bothE hi h (fun e h => ms_ends e h R ra q) fun hi h => ite_bothE hi h (fun e h => ms_find e h R ra q) fun hi h => ite_bothE hi h (fun e h => ms_lower e h R ra q) fun hi h => ite_bothE hi h (fun e h => ms_rfind e h R ra q) fun hi h => nomatch h
theorem methL_sound (hs : lA O n = some l) (h : methL name n l a b O = some r) (hi : methId name .list = some id) (R : RelW w κ Fs O s.heap) (rx : RV s.heap κ (.ref n) cx) (ra : RVs s.heap κ a ca) (q : Q r.1 r.2) :
 wpAny (MW w) A (call (.builtin id) (cx :: ca) []) (End w b κ Fs O s RV Q) E s := by
 unfold methId at hi
 unfold methL at h
 rcases ite_both hi h with ⟨rfl, h⟩ | ⟨hi, h⟩
 ·obtain ⟨v, cv, h, rfl, rv, rfl⟩ := one_some h ra
  obtain ⟨hc, h⟩ := iS h
  cases h
  exact append_sound' hs (aB hc).1 (aB hc).2 R rx rv q
 rcases ite_both hi h with ⟨rfl, h⟩ | ⟨hi, h⟩
 ·obtain ⟨i, v, ci, cv, h, rfl, ri, rv⟩ := two_some h ra
  obtain ⟨i, t, h, rfl⟩ := asInt_some h ri
  obtain ⟨hc, h⟩ := iS h
  cases h
  obtain ⟨hc, h2⟩ := aB hc
  obtain ⟨hc, h1⟩ := aB hc
  exact insert_sound hs (dec_and hc).1 (dec_and hc).2 h1 h2 R rx rv q
 rcases ite_both hi h with ⟨rfl, h⟩ | ⟨hi, h⟩
 ·cases a with
  | cons => exact nN h
  | nil =>
   cases ra
   obtain ⟨v, h1, h⟩ := bS h
   obtain ⟨hc, h⟩ := iS h
   cases h
   exact pop_sound hs h1 hc R rx q
 exact nN h
theorem meth_sound' (T : TabsOk w) {x : V} {Tm : MT} (h : methV GG name x a b O = some r) (hT : selfTy GG O1 x = some Tm) (hi : methId name Tm = some id) (R : RelW w κ Fs O s.heap) (rx : RV s.heap κ x cx) (ra : RVs s.heap κ a ca) (q : Q r.1 r.2) :
 wpAny (MW w) A (call (.builtin id) (cx :: ca) []) (End w b κ Fs O s RV Q) E s := by
 cases x with
 | str x => cases hT; obtain ⟨t, rfl⟩ := rx; exact methS_sound h hi R ra q
 | lst l =>
  cases hT
  obtain ⟨e, h⟩ := iS h
  cases eq_of_beq e
  cases hi
  obtain ⟨v, cv, h, rfl, rv, rfl⟩ := one_some h ra
  cases v with
  | bool t =>
   obtain ⟨k, h1, h⟩ := mS h
   cases h
   cases rv
   exact count_sound h1 R rx q
  | _ => exact nN h
 | ref n =>
  obtain ⟨_, _, e⟩ := mS hT
  cases e
  obtain ⟨l, h1, h⟩ := bS h
  exact methL_sound h1 h hi R rx ra q
 | cst d =>
  cases d with
  | ref ad =>
   obtain ⟨_, e⟩ := iS hT
   cases e; cases rx
   obtain ⟨v, h1, h⟩ := mS h
   cases h
   unfold methId at hi
   rcases ite_id hi with ⟨e, rfl⟩ | ⟨-, hi⟩
   ·cases eq_of_beq e; exact mt_sound T h1 R ra q
   exact nN hi
  | _ => exact nN h
 | _ => exact nN h
theorem all_sound (B : Base w) (S : SetsOk w) (T : TabsOk w) (n : Nat) : Snd w (n + 1) (W GG n) :=
 W_sound B ⟨fun h _ R rx ry q => bin_sound h R rx ry q, fun h _ R rx ry q => inpl_sound h R rx ry q, fun h ok R rx ry q => cmp_sound B S h ok R rx ry q, fun h _ R rx ry q => idxD_sound h R rx ry q, fun h _ R rx rl rh rs ho ha q => slice_sound h R rx rl rh rs ho q, fun h ok R _ ra q => bi_sound B h ok R ra q, fun h ok R _ ra q => ty_sound h ok R ra q⟩
  ⟨slot_sound, fun h hT hi _ R _ rx ra q => meth_sound' T h hT hi R rx ra q, fun ad h => let ⟨l, hl⟩ := Option.isSome_iff_exists.mp h; let ⟨_, f, ⟨o, ces, n, ho, hr⟩, _⟩ := T _ _ hl; ⟨o, ho, hr.1.1, hr.1.2.1⟩⟩
  ⟨fun h _ R rl rk k => del_sound' h R rl rk k⟩ n
end
end
section
variable {t : Bool} {A B : Prop} {J : WI} {f b n k s y g lo hi : Nat} {a v : V} {ks : List Int} {Q : V → Oj → Prop} {O : Oj} {body : List Stmt} {F : List Fr} {l : List V} {x : Int} {as : Arguments} {sc : Scope}
theorem lf {α : Type} {o : Option α} {Q : α → Prop} {v : α} (h : o = some v) (q : Q v) : (match (generalizing := false) o with | some v => Q v | none => False) := by subst h; exact q
theorem sl (h1 : t = true → A) (h2 : t = false → B) : (match (generalizing := false) t with | true => A | false => B) := by
 cases t
 ·exact h2 rfl
 ·exact h1 rfl
theorem sd {p : Prop} [Decidable p] (h1 : p → A) (h2 : ¬ p → B) : (match (generalizing := false) decide p with | true => A | false => B) := sl (fun h => h1 (of_decide_eq_true h)) fun h => h2 (of_decide_eq_false h)
theorem gd (h : t = true) (a : A) : (match (generalizing := false) t with | true => A | false => False) := by subst h; exact a
theorem toC {f : V} {a : List V} {ks : List (Str × V)} (h : J.c f a ks b Q O) : CALL J f a ks b Q O := ⟨h⟩
theorem toW {t : Expr} {Q : Fl → List Fr → Oj → Prop} (h : whileW J t body b Q 300 F O) : WHILE J t body b Q F O := ⟨h⟩
theorem toF {t : Expr} {orelse : List Stmt} {Q : Fl → List Fr → Oj → Prop} {src : Src} (h : forW J t body orelse b Q 300 src F O) : FOR J t body orelse b Q src F O := ⟨h⟩
theorem tk (q : Q v O) : Q v (O.take O.length) := (take_length (l := O)).symm ▸ q
theorem lenOk_of (h : n < 1000000) : lO n = true := decide_eq_true (le_of_lt h)
theorem lenOk_3 (h : n < 300) : lO n = true := lenOk_of (lt_trans h (by decide))
theorem bs {α β : Type} {o : Option α} {v : α} {f : α → Option β} {r : Option β} (h : o = some v) (h2 : f v = r) : o.bind f = r := by subst h; exact h2
theorem no_dict (h : lA O n = some l) (i : V) : entryAt O n i = none ∧ dictAt O n = none := by
 unfold lA at h
 unfold entryAt dictAt
 cases hO : O[n]? with
 | none => rw [hO] at h; exact nN h
 | some o =>
  rw [hO] at h
  cases o with
  | list _ => exact ⟨rfl, rfl⟩
  | _ => exact nN h
theorem idx_list {i : V} (h : iO O v = some l) : idxV O v i = indexV O v i := by
 cases v with
 | ref n => unfold idxV; simp only [(no_dict h i).1]
 | _ => rfl
theorem len_list (h : iO O v = some l) : lenD O v = lenV O v := by
 cases v with
 | ref n => unfold lenD; simp only [(no_dict h .none).2]
 | _ => rfl
theorem len_fit (h : iO O v = some l) (hs : l.length < 300) : callB (ofString "len") [v] b O = some (.int l.length, O) := by
 have e : callB (ofString "len") [v] b O = (lenD O v).map fun r => (r, O) := by kernel_rfl!
 have e1 : (if lO l.length then some (V.int l.length) else none) = some (.int l.length) := if_pos (lenOk_3 hs)
 rw [e, len_list h]
 cases v with
 | lst l' => cases h; exact congrArg (map fun r => (r, O)) e1
 | ref n => exact congrArg (map fun r => (r, O)) (bs (f := fun l : List V => if lO l.length then some (V.int l.length) else none) (show lA O n = some l from h) e1)
 | _ => cases h
theorem atV_k {x : V} (hs : l.length < 300) (hk : l[k]? = some x) : atV l (k : Nat) = some x := by
 have hl := (List.getElem?_eq_some_iff.mp hk).1
 have e : seqIndex? (k : Nat) l.length = some k := by
  unfold seqIndex?
  dsimp only
  rw [if_neg (Int.not_lt.mpr (natCast_nonneg k))]
  exact if_pos (and_eq_true_iff.mpr ⟨decide_eq_true (natCast_nonneg k), decide_eq_true (ofNat_lt.mpr hl)⟩)
 rw [atV, if_pos (show kOk k = true from decide_eq_true (lt_trans hl (lt_trans hs (by decide)))), e]
 exact hk
theorem at_fit {x : V} (h : iO O v = some l) (hs : l.length < 300) (hk : l[k]? = some x) : idxV O v (.int (k : Nat)) = some x := by
 refine (idx_list h).trans ?_
 cases v with
 | lst l' => cases h; exact atV_k hs hk
 | ref n => exact bs (f := fun l => atV l (k : Nat)) (show lA O n = some l from h) (atV_k hs hk)
 | _ => cases h
structure Half (f g lo hi n : Nat) : Prop where
 m : (lo + hi) / 2 < n
 u1 : hi - ((lo + hi) / 2 + 1) < f
 u2 : hi - ((lo + hi) / 2 + 1) ≤ g
 d1 : (lo + hi) / 2 - lo < f
 d2 : (lo + hi) / 2 - lo ≤ g
 dn : (lo + hi) / 2 ≤ n
theorem mod3 (n : Nat) : n % 3 = 0 ∨ n % 3 = 1 ∨ n % 3 = 2 := (show ∀ r, r < 3 → r = 0 ∨ r = 1 ∨ r = 2 by decide) _ (mod_lt _ (by decide))
theorem neg_one_add (h : 0 < n) : -1 + (n : Int) = ((n - 1 : Nat) : Int) := by rw [ofNat_sub (show 1 ≤ n from h), Int.add_comm]; rfl
theorem cmin (a b : Nat) : ((min a b : Nat) : Int) = min (a : Int) b := by
 rcases Nat.le_total a b with h | h
 ·rw [min_eq_left h, Int.min_eq_left (ofNat_le.mpr h)]
 ·rw [Nat.min_eq_right h, Int.min_eq_right (ofNat_le.mpr h)]
theorem odd_of (h : (s : Int) % 2 ≠ 0) : s % 2 = 1 := (Nat.mod_two_eq_zero_or_one s).resolve_left fun e => h (congrArg ofNat e)
theorem even_of (h : ¬ (s : Int) % 2 ≠ 0) : ¬ s % 2 = 1 := fun e => h fun z => absurd (e.symm.trans (ofNat.inj z)) (by decide)
theorem ltH {x : Nat} (h : x < y) : (x + y) / 2 < y := Nat.div_lt_of_lt_mul (Nat.lt_of_lt_of_eq (Nat.add_lt_add_right h y) (Nat.two_mul y).symm)
theorem geH {x : Nat} (h : x < y) : x ≤ (x + y) / 2 := (Nat.le_div_iff_mul_le (by decide)).mpr (le_trans (le_of_eq (Nat.mul_two x)) (add_le_add_left (le_of_lt h) x))
theorem halfU {x : Nat} (h : y - x < f + 1) (l : x < y) : y - ((x + y) / 2 + 1) < f := lt_of_lt_of_le (Nat.sub_lt_sub_left l (Nat.lt_succ_of_le (geH l))) (le_of_lt_succ h)
theorem halfD {x : Nat} (h : y - x < f + 1) (l : x < y) : (x + y) / 2 - x < f := lt_of_lt_of_le (Nat.sub_lt_sub_right (geH l) (ltH l)) (le_of_lt_succ h)
theorem halve (h : (lo : Int) < hi) (h1 : hi - lo < f + 1) (h2 : hi - lo ≤ g + 1) (h3 : hi ≤ n) : Half f g lo hi n :=
 have h := ofNat_lt.mp h
 have m := ltH h
 ⟨lt_of_lt_of_le m h3, halfU h1 h, le_of_lt_succ (halfU (Nat.lt_succ_of_le h2) h), halfD h1 h, le_of_lt_succ (halfD (Nat.lt_succ_of_le h2) h), le_trans (le_of_lt m) h3⟩
theorem halve0 (h : (lo : Int) < hi) (h2 : hi - lo ≤ 0) : False := not_lt.mpr (Nat.sub_eq_zero_iff_le.mp (Nat.le_zero.mp h2)) (ofNat_lt.mp h)
noncomputable def blR (ks : List Int) (x : Int) : Nat → Nat → Nat → Nat
 | 0, lo, _ => lo
 | n + 1, lo, hi => if lo < hi then (if ks.getD ((lo + hi) / 2) 0 < x then blR ks x n ((lo + hi) / 2 + 1) hi else blR ks x n lo ((lo + hi) / 2)) else lo
noncomputable def biV (a x : V) (lo hi : Nat) (key : V) (mid : Option V) : Vars := [(u "a", some a), (u "x", some x), (u "lo", some (.int lo)), (u "hi", some (.int hi)), (u "key", some key), (u "mid", mid)]
noncomputable def blN : Names := (fScope (stm 4)).names
theorem blR_no (h : ¬ (lo : Int) < hi) : blR ks x g lo hi = lo := by
 cases g with
 | zero => rfl
 | succ g => exact if_neg fun z => h (ofNat_lt.mpr z)
noncomputable def blW : Stmt := stAt (ifX (stAt (fBody (stm 4)) 2)) 0
noncomputable def blKW : Stmt := stAt (ifY (stAt (fBody (stm 4)) 2)) 0
theorem blK_w {Q : Fl → List Fr → Oj → Prop} {bd : Expr} (hK : ∀ i v, l[i]? = some v → ∀ {m c O Q}, Q (.int (ks.getD i 0)) O → CALL (W G3 (m + 8)) (.lam as bd sc) [v] [] c Q O) (ha : iO O a = some l) (hsm : l.length < 300) (f : Nat) :
 ∀ (g lo hi : Nat) (mid : Option V), hi - lo < f → hi - lo ≤ g → hi ≤ l.length → (∀ m h, Q .next [⟨blN, biV a (.int x) (blR ks x g lo hi) h (.lam as bd sc) m, false, 0, none⟩] O) →
  whileW (W G3 (n + 12)) (wT blKW) (wB blKW) b Q f [⟨blN, biV a (.int x) lo hi (.lam as bd sc) mid, false, 0, none⟩] O := by
 induction f with
 | zero => exact fun _ _ _ _ h => absurd h (not_lt_zero _)
 | succ f ih =>
  intro g lo hi mid h1 h2 h3 q
  refine sd (p := (lo : Int) < hi) (fun h => ?_) fun h => blR_no h ▸ q mid hi
  cases g with
  | zero => exact (halve0 h h2).elim
  | succ g =>
   have H := halve h h1 h2 h3
   have e : blR ks x (g + 1) lo hi = _ := if_pos (ofNat_lt.mp h)
   refine lf (at_fit (k := (lo + hi) / 2) ha hsm (getElem?_eq_getElem H.m)) (hK _ _ (getElem?_eq_getElem H.m) (sd (p := (ks.getD ((lo + hi) / 2) 0 < x)) (fun h4 => ?_) fun h4 => ?_))
   ·exact ih g ((lo + hi) / 2 + 1) hi (some (.int ((lo + hi) / 2 : Nat))) H.u1 H.u2 h3 fun m hh => (if_pos h4 ▸ e) ▸ q m hh
   ·exact ih g lo ((lo + hi) / 2) (some (.int ((lo + hi) / 2 : Nat))) H.d1 H.d2 H.dn fun m hh => (if_neg h4 ▸ e) ▸ q m hh
theorem blK_call4 {bd : Expr} (hK : ∀ i v, l[i]? = some v → ∀ {m c O Q}, Q (.int (ks.getD i 0)) O → CALL (W G3 (m + 8)) (.lam as bd sc) [v] [] c Q O) (ha : iO O a = some l) (hsm : l.length < 300) (q : Q (.int (blR ks x l.length 0 l.length)) O) :
 CALL (W G3 (n + 20)) (.cst (.ref 50)) [a, .int x, .int 0, .none] [(u "key", .lam as bd sc)] b Q O :=
 toC (lf (len_fit ha hsm) (toW (blK_w hK ha hsm 300 l.length 0 l.length none hsm (le_refl _) (le_refl _) fun m' h' => tk (Q := Q) q)))
noncomputable def brR (ks : List Int) (x : Int) : Nat → Nat → Nat → Nat
 | 0, lo, _ => lo
 | n + 1, lo, hi => if lo < hi then (if x < ks.getD ((lo + hi) / 2) 0 then brR ks x n lo ((lo + hi) / 2) else brR ks x n ((lo + hi) / 2 + 1) hi) else lo
noncomputable def brN : Names := (fScope (stm 2)).names
theorem brR_no (h : ¬ (lo : Int) < hi) : brR ks x g lo hi = lo := by
 cases g with
 | zero => rfl
 | succ g => exact if_neg fun z => h (ofNat_lt.mpr z)
noncomputable def brW : Stmt := stAt (ifX (stAt (fBody (stm 2)) 2)) 0
noncomputable def brKW : Stmt := stAt (ifY (stAt (fBody (stm 2)) 2)) 0
theorem brK_w {Q : Fl → List Fr → Oj → Prop} {bd : Expr} (hK : ∀ i v, l[i]? = some v → ∀ {m c O Q}, Q (.int (ks.getD i 0)) O → CALL (W G3 (m + 8)) (.lam as bd sc) [v] [] c Q O) (ha : iO O a = some l) (hsm : l.length < 300) (f : Nat) :
 ∀ (g lo hi : Nat) (mid : Option V), hi - lo < f → hi - lo ≤ g → hi ≤ l.length → (∀ m h, Q .next [⟨brN, biV a (.int x) (brR ks x g lo hi) h (.lam as bd sc) m, false, 0, none⟩] O) →
  whileW (W G3 (n + 12)) (wT brKW) (wB brKW) b Q f [⟨brN, biV a (.int x) lo hi (.lam as bd sc) mid, false, 0, none⟩] O := by
 induction f with
 | zero => exact fun _ _ _ _ h => absurd h (not_lt_zero _)
 | succ f ih =>
  intro g lo hi mid h1 h2 h3 q
  refine sd (p := (lo : Int) < hi) (fun h => ?_) fun h => brR_no h ▸ q mid hi
  cases g with
  | zero => exact (halve0 h h2).elim
  | succ g =>
   have H := halve h h1 h2 h3
   have e : brR ks x (g + 1) lo hi = _ := if_pos (ofNat_lt.mp h)
   refine lf (at_fit (k := (lo + hi) / 2) ha hsm (getElem?_eq_getElem H.m)) (hK _ _ (getElem?_eq_getElem H.m) (sd (p := (x < ks.getD ((lo + hi) / 2) 0)) (fun h4 => ?_) fun h4 => ?_))
   ·exact ih g lo ((lo + hi) / 2) (some (.int ((lo + hi) / 2 : Nat))) H.d1 H.d2 H.dn fun m hh => (if_pos h4 ▸ e) ▸ q m hh
   ·exact ih g ((lo + hi) / 2 + 1) hi (some (.int ((lo + hi) / 2 : Nat))) H.u1 H.u2 h3 fun m hh => (if_neg h4 ▸ e) ▸ q m hh
theorem brK_call4 {bd : Expr} (hK : ∀ i v, l[i]? = some v → ∀ {m c O Q}, Q (.int (ks.getD i 0)) O → CALL (W G3 (m + 8)) (.lam as bd sc) [v] [] c Q O) (ha : iO O a = some l) (hsm : l.length < 300) (q : Q (.int (brR ks x l.length 0 l.length)) O) :
 CALL (W G3 (n + 20)) (.cst (.ref 32)) [a, .int x, .int 0, .none] [(u "key", .lam as bd sc)] b Q O :=
 toC (lf (len_fit ha hsm) (toW (brK_w hK ha hsm 300 l.length 0 l.length none hsm (le_refl _) (le_refl _) fun m' h' => tk (Q := Q) q)))
end
section
variable {O : Oj} {k b n c : Nat} {l : List V} {x v : V} {Q : V → Oj → Prop} {o o' : AObj} {ks : List Int} {y : Int} {as : Arguments} {sc : Scope} {r : Nat × List Nat}
theorem self_l {name : Str} {id : String} (h : lA O k = some l) (hi : methId name .list = some id) : (selfTy G3 O (.ref k)).bind (methId name) = some id := bs (f := methId name) (v := MT.list) (by show (lA O k).map _ = _; rw [h]; rfl) hi
theorem pure_ok (h : x.pure = true) : writeOk b k x = true := or_eq_true_iff.mpr (.inr h)
theorem insert_fit {i : Nat} (h : lA O k = some l) (hi : i ≤ l.length) (hs : l.length < 300) (hv : x.pure = true) : methV G3 (u "insert") (.ref k) [.int (i : Nat), x] b O = some (.none, O.set k (.list (l.take i ++ x :: l.drop i))) :=
 bs (f := fun l => methL (u "insert") k l [.int (i : Nat), x] b O) h (if_pos (and_eq_true_iff.mpr ⟨and_eq_true_iff.mpr ⟨and_eq_true_iff.mpr ⟨decide_eq_true (natCast_nonneg i), decide_eq_true (ofNat_le.mpr hi)⟩, pure_ok hv⟩, lenOk_3 hs⟩))
theorem append_fit (h : lA O k = some l) (hs : l.length < 300) (hv : writeOk b k x = true) : methV G3 (u "append") (.ref k) [x] b O = some (.none, O.set k (.list (l ++ [x]))) :=
 bs (f := fun l => methL (u "append") k l [x] b O) h (if_pos (and_eq_true_iff.mpr ⟨hv, lenOk_3 hs⟩))
theorem tkS (q : Q v (O.set k o)) : Q v ((O.set k o).take O.length) := (show (O.set k o).take O.length = O.set k o from take_of_length_le (le_of_eq length_set)).symm ▸ q
theorem blR_le (ks : List Int) (x : Int) (n : Nat) : ∀ (lo hi : Nat), lo ≤ hi → blR ks x n lo hi ≤ hi := by
 induction n with
 | zero => exact fun _ _ h => h
 | succ n ih =>
  intro lo hi h
  unfold blR
  by_cases l : lo < hi
  ·rw [if_pos l]
   split
   ·exact ih _ _ (ltH l)
   ·exact le_trans (ih _ _ (geH l)) (le_of_lt (ltH l))
  ·rw [if_neg l]; exact h
theorem brR_le (ks : List Int) (x : Int) (n : Nat) : ∀ (lo hi : Nat), lo ≤ hi → brR ks x n lo hi ≤ hi := by
 induction n with
 | zero => exact fun _ _ h => h
 | succ n ih =>
  intro lo hi h
  unfold brR
  by_cases l : lo < hi
  ·rw [if_pos l]
   split
   ·exact le_trans (ih _ _ (geH l)) (le_of_lt (ltH l))
   ·exact ih _ _ (ltH l)
  ·rw [if_neg l]; exact h
theorem inlK_call {bd : Expr} (hx : ∀ {m c O Q}, Q (.int y) O → CALL (W G3 (m + 8)) (.lam as bd sc) [x] [] c Q O)
 (hK : ∀ i v, l[i]? = some v → ∀ {m c O Q}, Q (.int (ks.getD i 0)) O → CALL (W G3 (m + 8)) (.lam as bd sc) [v] [] c Q O) (ha : lA O k = some l) (hsm : l.length < 300) (hv : x.pure = true) (q : Q .none (O.set k (.list (l.take (blR ks y l.length 0 l.length) ++ x :: l.drop (blR ks y l.length 0 l.length))))) :
 CALL (W G3 (n + 30)) (.cst (.ref 41)) [.ref k, x] [(u "key", .lam as bd sc)] b Q O :=
 toC (hx (blK_call4 hK ha hsm (lf (self_l ha rfl) (lf (insert_fit ha (blR_le _ _ _ _ _ (zero_le _)) hsm hv) (tkS (Q := Q) q)))))
theorem inrK_call {bd : Expr} (hx : ∀ {m c O Q}, Q (.int y) O → CALL (W G3 (m + 8)) (.lam as bd sc) [x] [] c Q O)
 (hK : ∀ i v, l[i]? = some v → ∀ {m c O Q}, Q (.int (ks.getD i 0)) O → CALL (W G3 (m + 8)) (.lam as bd sc) [v] [] c Q O) (ha : lA O k = some l) (hsm : l.length < 300) (hv : x.pure = true) (q : Q .none (O.set k (.list (l.take (brR ks y l.length 0 l.length) ++ x :: l.drop (brR ks y l.length 0 l.length))))) :
 CALL (W G3 (n + 30)) (.cst (.ref 23)) [.ref k, x] [(u "key", .lam as bd sc)] b Q O :=
 toC (hx (brK_call4 hK ha hsm (lf (self_l ha rfl) (lf (insert_fit ha (brR_le _ _ _ _ _ (zero_le _)) hsm hv) (tkS (Q := Q) q)))))
noncomputable def vgo (val b : Nat) : List Nat → Option (Nat × List Nat)
 | [] => if b &&& 64 = 0 then some (val, []) else none
 | c :: l => if b &&& 64 = 0 then some (val, c :: l) else if val < 1000000000 then vgo (val * 64 ||| (c &&& 63)) c l else none
noncomputable def varint : List Nat → Option (Nat × List Nat)
 | [] => none
 | b :: l => vgo (b &&& 63) b l
noncomputable def intL (l : List Nat) : List V := l.map fun c => V.int (c : Nat)
theorem iter_at (h : O[k]? = some (.iter l)) : iterAt O k = some l := by unfold iterAt; rw [h]
theorem next_fit (h : O[k]? = some (.iter (v :: l))) : callB (u "next") [.ref k] b O = some (v, O.set k (.iter l)) := by
 have e : callB (u "next") [.ref k] b O = (iterAt O k).bind fun l => match l with
  | v :: l => some (v, O.set k (.iter l))
  | [] => none := by kernel_rfl!
 exact e.trans (bs (v := v :: l) (iter_at h) rfl)
theorem iter_set (h : O[k]? = some o) : (O.set k o')[k]? = some o' := List.getElem?_set_self (List.getElem?_eq_some_iff.mp h).1
theorem shl_fit {v : Nat} (h : v < 1000000000) : augV O .LShift (.int (v : Nat)) (.int 6) = some (.int ((v * 64 : Nat) : Int)) :=
 if_pos (and_eq_true_iff.mpr ⟨and_eq_true_iff.mpr ⟨and_eq_true_iff.mpr ⟨decide_eq_true (natCast_nonneg v), rfl⟩, rfl⟩, decide_eq_true (lt_trans h (by decide))⟩)
noncomputable def vaW : Stmt := stAt (fBody (stm 8)) 2
noncomputable def vaN : Names := (fScope (stm 8)).names
noncomputable def vaV (k c val : Nat) : Vars := [(u "iterator", some (.ref k)), (u "b", some (.int c)), (u "val", some (.int val))]
theorem set_self {j : Nat} (h : O[j]? = some o) : O.set j o = O := by
 apply List.ext_getElem?
 intro i
 by_cases hij : j = i
 ·subst hij; rw [iter_set h, h]
 ·rw [getElem?_set_ne hij]
theorem nat_ne (h : ((n : Nat) : Int) ≠ 0) : ¬ n = 0 := fun e => h (congrArg ofNat e)
theorem nat_eq (h : ¬ ((n : Nat) : Int) ≠ 0) : n = 0 := ofNat.inj (Classical.not_not.mp h)
theorem va_w {Q : Fl → List Fr → Oj → Prop} (l : List Nat) : ∀ (f : Nat) (O : Oj) (val c : Nat), vgo val c l = some r → O[k]? = some (.iter (intL l)) → l.length < f → (∀ c', Q .next [⟨vaN, vaV k c' r.1, false, 0, none⟩] (O.set k (.iter (intL r.2)))) →
      whileW (W G3 (n + 12)) (wT vaW) (wB vaW) b Q f [⟨vaN, vaV k c val, false, 0, none⟩] O := by
 induction l with
 | nil =>
  intro f O val c h hk hf q
  cases f with
  | zero => exact absurd hf (not_lt_zero _)
  | succ f =>
   refine sd (p := ((c &&& 64 : Nat) : Int) ≠ 0) (fun h1 => ?_) fun h1 => ?_
   ·cases (if_neg (nat_ne h1)).symm.trans h
   ·cases (if_pos (nat_eq h1)).symm.trans h
    exact set_self hk ▸ q c
 | cons d l ih =>
  intro f O val c h hk hf q
  cases f with
  | zero => exact absurd hf (not_lt_zero _)
  | succ f =>
   refine sd (p := ((c &&& 64 : Nat) : Int) ≠ 0) (fun h1 => ?_) fun h1 => ?_
   ·have h := (if_neg (nat_ne h1)).symm.trans h
    by_cases hv : val < 1000000000
    ·exact lf (shl_fit hv) (lf (next_fit hk) (ih f _ _ d ((if_pos hv).symm.trans h) (iter_set hk) (lt_of_succ_lt_succ hf) fun c' => (set_set (l := O) _).symm ▸ q c'))
    ·cases (if_neg hv).symm.trans h
   ·cases (if_pos (nat_eq h1)).symm.trans h
    exact set_self hk ▸ q c
theorem tkSS (q : Q v (O.set k o)) : Q v (((O.set k o').set k o).take O.length) := (set_set (l := O) o').symm ▸ tkS q
theorem va_call {l : List Nat} (h : varint l = some r) (hk : O[k]? = some (.iter (intL l))) (hl : l.length < 300) (q : Q (.int (r.1 : Nat)) (O.set k (.iter (intL r.2)))) :
 CALL (W G3 (n + 20)) (.cst (.ref 65)) [.ref k] [] b Q O := by
 cases l with
 | nil => cases h
 | cons c l => exact toC (lf (next_fit hk) (toW (va_w l 300 _ (c &&& 63) c h (iter_set hk) (lt_of_succ_lt hl) fun c' => tkSS (Q := Q) q)))
noncomputable def b1L : List Int := [173, 847, 6150, 6155, 6156, 6157, 8203, 8204, 8205, 8288, 65279] ++ (List.range 16).map fun (k : Nat) => (65024 : Int) + k
theorem b1_in (O : Oj) (hc : c < 2000000) : inV G3 O (.int c) (.cst (.ref 80)) = some (b1L.contains (c : Int)) :=
 (show inV G3 O (.int c) (.cst (.ref 80)) = (if 0 ≤ (c : Int) && (c : Int).toNat < 2 ^ 60 then some (b1L.contains (c : Int)) else none) by kernel_rfl!).trans (if_pos (and_eq_true_iff.mpr ⟨decide_eq_true (natCast_nonneg c), decide_eq_true (lt_trans hc (by decide))⟩))
theorem b1_call (hc : c < 2000000) (q : Q (.bool (b1L.contains (c : Int))) O) : CALL (W G3 (n + 20)) (.cst (.ref 90)) [.str [c]] [] b Q O :=
 toC (lf (b1_in O hc) (tk (Q := Q) q))
noncomputable def b3L : List (Int × List Nat) := itemsB.map fun p => (p.1.1, p.1.2.cps.toList)
noncomputable def mapB3 (c : Nat) : List Nat := match b3L.lookup (c : Int) with
 | some x => x
 | none => (Txt.lower (S [c])).cps.toList
theorem b3_get (O : Oj) (hc : c < 2000000) : methV G3 (u "get") (.cst (.ref 91)) [.int c] b O = some (tGet b3L c .none, O) := by
 have e : methV G3 (u "get") (.cst (.ref 91)) [.int c] b O = (if 0 ≤ (c : Int) && (c : Int).toNat < 2 ^ 60 then some (tGet b3L c .none) else none).map fun v => (v, O) := by kernel_rfl!
 exact e.trans (congrArg (map fun v => (v, O)) (if_pos (and_eq_true_iff.mpr ⟨decide_eq_true (natCast_nonneg c), decide_eq_true (lt_trans hc (by decide))⟩)))
theorem b3_call (hc : c < 2000000) (hl : lO (Txt.lower (S [c])).length = true) (q : Q (.str (mapB3 c)) O) : CALL (W G3 (n + 20)) (.cst (.ref 136)) [.str [c]] [] b Q O := by
 refine toC (lf (b3_get O hc) ?_)
 unfold tGet
 unfold mapB3 at q
 cases hb : b3L.lookup (c : Int) with
 | some x => rw [hb] at q; exact tk (Q := Q) q
 | none =>
  rw [hb] at q
  refine lf (o := methV G3 (u "lower") (.str [c]) [] O.length O) (v := (.str (Txt.lower (S [c])).cps.toList, O)) (if_pos hl) ?_
  exact tk (Q := Q) q
end
section
variable {O : Oj} {k b f n : Nat} {l : List V} {c : Bool} {Q : V → Oj → Prop} {v : V}
theorem list_at (h : lA O k = some l) : O[k]? = some (.list l) := by
 unfold lA at h
 cases ho : O[k]? with
 | none => rw [ho] at h; cases h
 | some o =>
  rw [ho] at h
  cases o with
  | list l' => cases h; rfl
  | _ => cases h
theorem at_list (h : O[k]? = some (.list l)) : lA O k = some l := by unfold lA; rw [h]
theorem list_set {l' : List V} (h : lA O k = some l) : lA (O.set k (.list l')) k = some l' := at_list (iter_set (list_at h))
theorem list_new (O : Oj) (l : List V) : lA (O ++ [.list l]) O.length = some l := at_list (by rw [getElem?_append_right (le_refl _), sub_self]; rfl)
theorem low_ok {x : V} (h : b ≤ k) : writeOk b k x = true := or_eq_true_iff.mpr (.inl (decide_eq_true h))
noncomputable def hexT (n : Nat) : List Nat := 48 :: 120 :: (toDigits 16 n).map Char.toNat
noncomputable def flagL : List (Int × List Nat) := [(1, (u "OPTIMIZED").cps.toList), (2, (u "NEWLOCALS").cps.toList), (4, (u "VARARGS").cps.toList), (8, (u "VARKEYWORDS").cps.toList), (16, (u "NESTED").cps.toList), (32, (u "GENERATOR").cps.toList), (64, (u "NOFREE").cps.toList), (128, (u "COROUTINE").cps.toList), (256, (u "ITERABLE_COROUTINE").cps.toList), (512, (u "ASYNC_GENERATOR").cps.toList)]
noncomputable def nameF (f : Nat) : List Nat := match flagL.lookup (f : Int) with
 | some x => x
 | none => hexT f
noncomputable def pfGo : List Nat → Nat → List (List Nat) → List (List Nat)
 | [], fl, acc => acc ++ [hexT fl]
 | k :: r, fl, acc => if fl &&& 2 ^ k ≠ 0 then (if fl ^^^ 2 ^ k = 0 then acc ++ [nameF (2 ^ k)] else pfGo r (fl ^^^ 2 ^ k) (acc ++ [nameF (2 ^ k)])) else pfGo r fl acc
theorem pow_lt {m : Nat} (h : k < m) : 2 ^ k < 2 ^ m := pow_lt_pow_of_lt (by decide) h
theorem hex_fit (h : f < 2 ^ 64) : callB (u "hex") [.int (f : Nat)] b O = some (.str (hexT f), O) :=
 (show callB (u "hex") [.int (f : Nat)] b O = (if 0 ≤ (f : Int) && (f : Int).toNat < 2 ^ 64 then some (V.str (hexT f), O) else none) by kernel_rfl!).trans (if_pos (and_eq_true_iff.mpr ⟨decide_eq_true (natCast_nonneg f), decide_eq_true h⟩))
theorem flag_get (h : f < 2 ^ 60) : methV G3 (u "get") (.cst (.ref 51)) [.int f, .str (hexT f)] b O = some (.str (nameF f), O) := by
 have e : methV G3 (u "get") (.cst (.ref 51)) [.int f, .str (hexT f)] b O = (if 0 ≤ (f : Int) && (f : Int).toNat < 2 ^ 60 then some (tGet flagL f (.str (hexT f))) else none).map fun v => (v, O) := by kernel_rfl!
 have e2 : tGet flagL f (.str (hexT f)) = .str (nameF f) := by
  unfold tGet nameF
  cases flagL.lookup (f : Int) <;> rfl
 exact e.trans (congrArg (map fun v => (v, O)) ((if_pos (and_eq_true_iff.mpr ⟨decide_eq_true (natCast_nonneg f), decide_eq_true h⟩)).trans (congrArg some e2)))
theorem shl_one (h : k < 32) : binV O .LShift (.int 1) (.int k) = some (.int ((2 ^ k : Nat) : Int)) := by
 have e : binV O .LShift (.int 1) (.int k) = if 0 ≤ (1 : Int) && 0 ≤ (k : Int) && (k : Int) < 64 && intOk 1 then some (.int (1 * 2 ^ k)) else none := by kernel_rfl!
 have e2 : (1 : Int) * 2 ^ k = ((2 ^ k : Nat) : Int) := by rw [Int.one_mul, Int.natCast_pow]; rfl
 exact e.trans ((if_pos (and_eq_true_iff.mpr ⟨and_eq_true_iff.mpr ⟨and_eq_true_iff.mpr ⟨rfl, decide_eq_true (natCast_nonneg k)⟩, decide_eq_true (ofNat_lt.mpr (lt_trans h (by decide)))⟩, rfl⟩)).trans (congrArg (fun i => some (V.int i)) e2))
noncomputable def pfF : Stmt := stAt (fBody (stm 7)) 1
noncomputable def pfN : Names := (fScope (stm 7)).names
noncomputable def pfV (fl r : Nat) (i g : Option V) : Vars := [(u "flags", some (.int fl)), (u "names", some (.ref r)), (u "i", i), (u "flag", g)]
noncomputable def strL (l : List (List Nat)) : List V := l.map .str
theorem not_bool (h : (!c) = true) : c = false := by cases c with
 | false => rfl
 | true => cases h
theorem not_boolF (h : (!c) = false) : c = true := by cases c with
 | false => cases h
 | true => rfl
theorem strL_lt {l : List (List Nat)} (h : l.length < n) : (strL l).length < n := (length_map (as := l) V.str).symm ▸ h
theorem strL_add (l : List (List Nat)) (x : List Nat) : strL l ++ [.str x] = strL (l ++ [x]) := by unfold strL; rw [map_append]; rfl
noncomputable def rngL (l : List Nat) : List V := l.map fun (k : Nat) => V.int k
theorem pf_loop {r : Nat} {Q : Fl → List Fr → Oj → Prop} (hb : b ≤ r) (ks : List Nat) : ∀ (f fl : Nat) (acc : List (List Nat)) (O : Oj) (i g : Option V), (∀ k ∈ ks, k < 32) → ks.length < f → fl < 2 ^ 36 → acc.length + ks.length < 250 → lA O r = some (strL acc) →
      (∀ i g fl', Q .next [⟨pfN, pfV fl' r i g, false, 0, none⟩] (O.set r (.list (strL (pfGo ks fl acc))))) → forW (W G3 (n + 14)) (foT pfF) (foB pfF) (foE pfF) b Q f (.items (rngL ks)) [⟨pfN, pfV fl r i g, false, 0, none⟩] O := by
 induction ks with
 | nil =>
  intro f fl acc O i g hks hf hfl ha hl q
  cases f with
  | zero => exact absurd hf (not_lt_zero _)
  | succ f =>
   refine lf (self_l hl rfl) (lf (hex_fit (lt_trans hfl (by decide))) (lf (append_fit hl (strL_lt (lt_trans (lt_of_le_of_lt (le_add_right _ _) (by with_reducible assumption)) (by decide))) (low_ok hb)) (strL_add acc _ ▸ q i g fl)))
 | cons k ks ih =>
  intro f fl acc O i g hks hf hfl ha hl q
  replace ha : acc.length + (ks.length + 1) < 250 := ha
  cases f with
  | zero => exact absurd hf (not_lt_zero _)
  | succ f =>
   refine lf (shl_one (hks k (mem_cons_self ..))) (sd (p := ((fl &&& 2 ^ k : Nat) : Int) ≠ 0) (fun h1 => ?_) fun h1 => ?_)
   ·have hp : 2 ^ k < 2 ^ 32 := pow_lt (hks k (mem_cons_self ..))
    refine lf (self_l hl rfl) (lf (hex_fit (lt_trans hp (by decide))) (lf (flag_get (lt_trans hp (by decide))) (lf (append_fit hl (strL_lt (lt_trans (lt_of_le_of_lt (le_add_right _ _) (by with_reducible assumption)) (by decide))) (low_ok hb)) ?_)))
    refine sl (t := !decide (((fl ^^^ 2 ^ k : Nat) : Int) ≠ 0)) (fun h2 => ?_) fun h2 => ?_
    ·have e : pfGo (k :: ks) fl acc = _ := (if_pos (nat_ne h1)).trans (if_pos (nat_eq (of_decide_eq_false (not_bool h2))))
     exact strL_add acc _ ▸ e ▸ q (some (.int k)) (some (.int (2 ^ k : Nat))) (fl ^^^ 2 ^ k)
    ·have e : pfGo (k :: ks) fl acc = _ := (if_pos (nat_ne h1)).trans (if_neg (nat_ne (of_decide_eq_true (not_boolF h2))))
     refine ih f (fl ^^^ 2 ^ k) (acc ++ [nameF (2 ^ k)]) _ (some (.int k)) (some (.int (2 ^ k : Nat))) (fun j hj => hks j (mem_cons_of_mem _ hj)) (lt_of_succ_lt_succ hf) (Nat.xor_lt_two_pow hfl (lt_trans hp (by decide))) (by rw [length_append]; show acc.length + 1 + ks.length < 250; exact lt_of_le_of_lt (le_of_eq (succ_add _ _)) ha) (strL_add acc _ ▸ list_set hl) fun i g fl' => ?_
     rw [set_set]
     exact e ▸ q i g fl'
   ·exact ih f fl acc O (some (.int k)) (some (.int (2 ^ k : Nat))) (fun j hj => hks j (mem_cons_of_mem _ hj)) (lt_of_succ_lt_succ hf) hfl (lt_of_succ_lt ha) hl fun i g fl' => (if_neg (fun z => h1 (fun e => z (ofNat.inj e))) : pfGo (k :: ks) fl acc = _) ▸ q i g fl'
noncomputable def pfL (fl : Nat) : List (List Nat) := pfGo (List.range 32) fl []
noncomputable def pf (fl : Nat) : List Nat := (Txt.join (S [44, 32]) ((pfL fl).map S)).cps.toList
theorem strsV_strL (l : List (List Nat)) : strsV (strL l) = some l := by
 induction l with
 | nil => rfl
 | cons x l ih => exact congrArg (map (x :: ·)) ih
theorem join_fit {x : List Nat} {l : List (List Nat)} (h : iO O v = some (strL l)) (hj : JoinOk (S x) (l.map S) = true) : methV G3 (u "join") (.str x) [v] b O = some (.str (Txt.join (S x) (l.map S)).cps.toList, O) :=
 (show methV G3 (u "join") (.str x) [v] b O = mJoin x [v] O by kernel_rfl!).trans (bs (f := fun l => (strsV l).bind fun ts => if JoinOk (S x) (ts.map S) then some (V.str (Txt.join (S x) (ts.map S)).cps.toList, O) else none) h (bs (f := fun ts => if JoinOk (S x) (ts.map S) then some (V.str (Txt.join (S x) (ts.map S)).cps.toList, O) else none) (strsV_strL l) (if_pos hj)))
theorem rsz (a c : Nat) : (Builtin.Range.rangeSize a c 1).toNat = c - a := by
 have e : Builtin.Range.rangeSize a c 1 = if (a : Int) < c then (((c : Int) - a - 1) / 1) + 1 else 0 := by rfl
 rcases Decidable.em ((a : Int) < c) with h | h
 ·rw [e, if_pos h, Int.ediv_one, Int.sub_add_cancel, Int.toNat_sub]
 ·rw [e, if_neg h]
  exact (Nat.sub_eq_zero_of_le (ofNat_le.mp (Int.not_lt.mp h))).symm
theorem rng_src (n : Nat) : (rangeL 0 n 1).map V.int = rngL (List.range n) := by
 have e : (Builtin.Range.rangeSize 0 n 1).toNat = n := rsz 0 n
 rw [rangeL, e, map_map, rngL]
 exact map_congr_left fun k _ => congrArg V.int ((congrArg (0 + ·) (Int.mul_one k)).trans (Int.zero_add _))
theorem tkN {o o' : AObj} (q : Q v O) : Q v (((O ++ [o]).set O.length o').take O.length) := by
 rw [List.set_append_right _ _ (le_refl _), take_left]; exact q
theorem pf_call {fl : Nat} (hfl : fl < 2 ^ 36) (hj : JoinOk (S [44, 32]) ((pfL fl).map S) = true) (q : Q (.str (pf fl)) O) : CALL (W G3 (n + 24)) (.cst (.ref 58)) [.int fl] [] b Q O := by
 have hw := fun Q => pf_loop (n := n + 8) (Q := Q) (le_refl O.length) (List.range 32) 300 fl [] (O ++ [.list []]) none none (fun k hk => mem_range.mp hk) (by decide) hfl (by decide) (list_new O _)
 rw [← rng_src 32] at hw
 exact toC (toF (hw _ fun i g fl' => lf (join_fit (list_set (list_new O [])) hj) (tkN (Q := Q) q)))
inductive Thru (O : Oj) : Src → List V → Prop where
 | items (l : List V) : Thru O (.items l) l
 | live {n k : Nat} {l : List V} (h : lA O n = some l) : Thru O (.live n k) (l.drop k)
theorem src_fit {a : V} (h : iO O a = some l) : ∃ s, srcOf O a = some s ∧ Thru O s l := by
 cases a with
 | lst l' => cases h; exact ⟨_, rfl, .items _⟩
 | ref n => exact ⟨.live n 0, by show (match lA O n with | some _ => some (Src.live n 0) | none => _) = _; rw [show lA O n = some l from h], .live (k := 0) h⟩
 | _ => cases h
end
section
variable {O O1 : Oj} {l : List V} {b k r n : Nat} {x want : List Nat} {L : List (List Nat)} {ep sp : Int} {Q : V → Oj → Prop} {w : Option V}
noncomputable def ellF (got : List Nat) : List (List Nat) → Option (Nat × List (List Nat))
 | [] => none
 | w :: r => if w.isEmpty then some (0, w :: r) else if Txt.startswith (S got) (S w) then some (w.length, r) else none
noncomputable def ellB (got : List Nat) (ws : List (List Nat)) : Option (Int × List (List Nat)) := match ws.getLast? with
 | none => none
 | some w => if w.isEmpty then some (got.length, ws) else if Txt.endswith (S got) (S w) then some ((got.length : Int) - w.length, ws.dropLast) else none
noncomputable def ellGo (got : List Nat) (ep : Int) : List (List Nat) → Int → Bool
 | [], _ => true
 | w :: r, sp => if findT got w (clipT got.length sp) (min (clipT got.length ep) got.length) < 0 then false else ellGo got ep r (findT got w (clipT got.length sp) (min (clipT got.length ep) got.length) + w.length)
noncomputable def ellIn (want : List Nat) : Bool := !(Builtin.Str.occurrences (S want) (S [46, 46, 46]) 0 want.length 1).isEmpty
noncomputable def ellW (want : List Nat) : List (List Nat) := (Txt.split (S want) (S [46, 46, 46])).map fun p => p.cps.toList
noncomputable def ellZ (got : List Nat) (ep : Int) (ws : List (List Nat)) (sp : Int) : Bool := if sp > ep then false else ellGo got ep ws sp
noncomputable def ellY (got : List Nat) (sp : Int) (ws : List (List Nat)) : Bool := match ellB got ws with
 | none => false
 | some p => ellZ got p.1 p.2 sp
noncomputable def ellM (want got : List Nat) : Bool := if ellIn want then (match ellF got (ellW want) with
 | none => false
 | some p => ellY got p.1 p.2)
 else decide (want = got)
theorem tr_str {l : List Nat} (h : l.length < 1000000) : truthV O (.str l) = some (!l.isEmpty) := if_pos (lenOk_of h)
theorem len_str {l : List Nat} (h : l.length < 1000000) : callB (u "len") [.str l] b O = some (.int l.length, O) := by
 have e : callB (u "len") [.str l] b O = (if lO l.length then some (V.int l.length) else none).map fun r => (r, O) := by kernel_rfl!
 exact e.trans (congrArg (map fun r => (r, O)) (if_pos (lenOk_of h)))
theorem split_fit {y : List Nat} (h : (!y.isEmpty && lO x.length && lO (Builtin.Str.partsBetween (S x) (Builtin.Str.occurrences (S x) (S y) 0 x.length (x.length + 1)) y.length).length) = true) : methV G3 (u "split") (.str x) [.str y] b O = some (.ref O.length, O ++ [.list (strL ((Txt.split (S x) (S y)).map fun p => p.cps.toList))]) := by
 have e : methV G3 (u "split") (.str x) [.str y] b O = if !y.isEmpty && lO x.length && lO (Builtin.Str.partsBetween (S x) (Builtin.Str.occurrences (S x) (S y) 0 x.length (x.length + 1)) y.length).length then some (.ref O.length, O ++ [.list ((Txt.split (S x) (S y)).map fun p => .str p.cps.toList)]) else none := by kernel_rfl!
 rw [e, if_pos h, strL, map_map]; rfl
theorem set_take {x : AObj} (h : O1.take k = O) (hr : k ≤ r) : (O1.set r x).take k = O := (List.take_set_of_le hr).trans h
theorem new_take {l : Oj} : (O ++ l).take O.length = O := take_left
theorem del0_fit (h : lA O r = some (strL (x :: L))) (hl : (x :: L).length < 300) : delV O (.ref r) (.int 0) = some (O.set r (.list (strL L))) :=
 bs (f := fun (l : List V) => if lO l.length && kOk 0 then (seqIndex? 0 l.length).map fun j => O.set r (.list (l.eraseIdx j)) else none) h (by
  rw [if_pos (show (lO (strL (x :: L)).length && kOk 0) = true from and_eq_true_iff.mpr ⟨lenOk_3 (strL_lt hl), rfl⟩)]
  have e : seqIndex? 0 (strL (x :: L)).length = some 0 := if_pos (and_eq_true_iff.mpr ⟨rfl, decide_eq_true (by rw [strL, length_map]; exact ofNat_lt.mpr (succ_pos _))⟩)
  rw [e]; rfl)
theorem last_ix (h : 0 < n) : seqIndex? (-1) n = some (n - 1) := by
 have e : (if (0 : Int) ≤ (-1 + (n : Int)) && decide (-1 + (n : Int) < n) then some (-1 + (n : Int)).toNat else none) = some (n - 1) := by
  rw [neg_one_add h]
  exact if_pos (and_eq_true_iff.mpr ⟨decide_eq_true (natCast_nonneg _), decide_eq_true (ofNat_lt.mpr (Nat.sub_lt h (by decide)))⟩)
 exact e
theorem last_fit (h : lA O r = some (strL L)) (e : L.getLast? = some x) : idxV O (.ref r) (.int (-1)) = some (.str x) :=
 (idx_list (v := .ref r) h).trans <| bs (f := fun l => atV l (-1)) h (by
  have hl : 0 < (strL L).length := by
   cases L with
   | nil => cases e
   | cons => exact succ_pos _
  rw [atV, if_pos (by rfl), last_ix hl]
  show (strL L)[_]? = _
  rw [← List.getLast?_eq_getElem?, strL, List.getLast?_map, e]; rfl)
theorem del1_fit (h : lA O r = some (strL L)) (e : L.getLast? = some x) (hl : L.length < 300) : delV O (.ref r) (.int (-1)) = some (O.set r (.list (strL L.dropLast))) :=
 bs (f := fun (l : List V) => if lO l.length && kOk (-1) then (seqIndex? (-1) l.length).map fun j => O.set r (.list (l.eraseIdx j)) else none) h (by
  have h0 : 0 < (strL L).length := by
   cases L with
   | nil => cases e
   | cons => exact succ_pos _
  rw [if_pos (show (lO (strL L).length && kOk (-1)) = true from and_eq_true_iff.mpr ⟨lenOk_3 (strL_lt hl), rfl⟩), last_ix h0]
  show some (O.set r (.list ((strL L).eraseIdx _))) = _
  rw [List.eraseIdx_length_sub_one, strL, ← List.map_dropLast]; rfl)
noncomputable def elN : Names := (fScope (stm 11)).names
noncomputable def elF : Stmt := stAt (fBody (stm 11)) 9
noncomputable def elV (want got : List Nat) (r : Nat) (sp ep : Int) (w : Option V) : Vars := [(u "want", some (.str want)), (u "got", some (.str got)), (u "ws", some (.ref r)), (u "startpos", some (.int sp)), (u "endpos", some (.int ep)), (u "w", w)]
theorem next_live {v : V} (h : lA O r = some l) (hk : l[k]? = some v) : nextOf O (.live r k) = some (some (v, .live r (k + 1))) := by
 show (lA O r).map _ = _
 rw [h, Option.map_some, hk]; rfl
theorem next_end (h : lA O r = some l) (hk : l[k]? = none) : nextOf O (.live r k) = some none := by
 show (lA O r).map _ = _
 rw [h, Option.map_some, hk]; rfl
theorem src_live (h : lA O r = some l) : srcOf O (.ref r) = some (.live r 0) := by show (match lA O r with | some _ => some (Src.live r 0) | none => _) = _; rw [h]
theorem drop_at {α : Type} {L : List α} {x : α} {r : List α} (h : L.drop k = x :: r) : L[k]? = some x ∧ L.drop (k + 1) = r := by
 constructor
 ·have := getElem?_drop (xs := L) (i := k) (j := 0)
  rw [h] at this; exact this.symm
 ·rw [← drop_drop, h]; rfl
theorem el_loop {got : List Nat} {Q : Fl → List Fr → Oj → Prop} (hl : lA O r = some (strL L)) (hL : ∀ w ∈ L, w.length < 1000000) (rs : List (List Nat)) : ∀ (f k : Nat) (sp : Int) (w : Option V), L.drop k = rs → rs.length < f →
 (ellGo got ep rs sp = true → ∀ sp w, Q .next [⟨elN, elV want got r sp ep w, false, 0, none⟩] O) → (ellGo got ep rs sp = false → ∀ F, Q (.ret (.bool false)) F O) → forW (W G3 (n + 14)) (foT elF) (foB elF) (foE elF) b Q f (.live r k) [⟨elN, elV want got r sp ep w, false, 0, none⟩] O := by
 induction rs with
 | nil =>
  intro f k sp w hk hf q1 q2
  cases f with
  | zero => exact absurd hf (not_lt_zero _)
  | succ f => exact lf (next_end hl (by rw [strL, getElem?_map, List.getElem?_eq_none (drop_eq_nil_iff.mp hk)]; rfl)) (q1 rfl sp w)
 | cons x rs ih =>
  intro f k sp w hk hf q1 q2
  cases f with
  | zero => exact absurd hf (not_lt_zero _)
  | succ f =>
   obtain ⟨e1, e2⟩ := drop_at hk
   refine lf (next_live (v := .str x) hl (by rw [strL, getElem?_map, e1]; rfl)) ?_
   refine ((sd (p := findT got x (clipT got.length sp) (min (clipT got.length ep) got.length) < 0) (fun h => ?_) fun h => ?_))
   ·exact q2 (if_pos h) _
   ·refine lf (len_str (hL x (mem_of_getElem? e1))) (ih f (k + 1) _ _ e2 (lt_of_succ_lt_succ hf) (fun h2 => q1 ((if_neg h : ellGo got ep (x :: rs) sp = _).trans h2)) fun h2 => q2 ((if_neg h : ellGo got ep (x :: rs) sp = _).trans h2))
theorem bq {c d : Bool} (e : c = d) (hT : O1.take k = O) (q : Q (.bool c) O) : Q (.bool d) (O1.take k) := by subst e; subst hT; exact q
theorem xn {J : WI} {F : List Fr} {Q : Fl → List Fr → Oj → Prop} (h : Q .next F O) : xs J [] F b Q O := h
theorem el_p3 {got : List Nat} (hl : lA O1 r = some (strL L)) (hL : ∀ w ∈ L, w.length < 1000000) (hs : L.length < 300) (hT : O1.take k = O) (q : Q (.bool (ellZ got ep L sp)) O) :
 xs (W G3 (n + 16)) ((fBody (stm 11)).drop 8) [⟨elN, elV want got r sp ep w, false, 0, none⟩] b (fun f _ O1 => match f with
  | .ret v => Lf (leave k v O1) fun r => Q r (O1.take k)
  | .next => Q .none (O1.take k)
  | _ => False) O1 := by
 refine sd (p := sp > ep) (fun h => ?_) fun h => ?_
 ·have e : ellZ got ep L sp = false := if_pos h
  exact bq e hT q
 ·have e : ellZ got ep L sp = ellGo got ep L sp := if_neg h
  refine lf (src_live hl) (toF (el_loop hl hL L 300 0 sp w rfl hs (fun h2 _ _ => ?_) fun h2 _ => ?_))
  ·exact bq (e.trans h2) hT q
  ·exact bq (e.trans h2) hT q
theorem el_p2 {got : List Nat} (hl : lA O1 r = some (strL L)) (hL : ∀ w ∈ L, w.length < 1000000) (hs : L.length < 300) (hn : L ≠ []) (hT : O1.take k = O) (hr : k ≤ r) (q : Q (.bool (ellY got sp L)) O) :
 xs (W G3 (n + 18)) ((fBody (stm 11)).drop 6) [⟨elN, elV want got r sp got.length w, false, 0, none⟩] b (fun f _ O1 => match f with
  | .ret v => Lf (leave k v O1) fun r => Q r (O1.take k)
  | .next => Q .none (O1.take k)
  | _ => False) O1 := by
 have hx : ∃ x, L.getLast? = some x := ⟨_, List.getLast?_eq_some_getLast hn⟩
 obtain ⟨x, hx⟩ := hx
 have hm := hL x (List.mem_of_getLast? hx)
 unfold ellY ellB at q
 rw [hx] at q
 refine lf (last_fit hl hx) (lf (tr_str hm) (sl (t := !x.isEmpty) (fun h => ?_) fun h => ?_))
 ·dsimp only at q
  rw [if_neg (by rw [not_bool h]; decide)] at q
  refine (sl (t := Txt.endswith (S got) (S x)) (fun h2 => ?_) fun h2 => ?_)
  ·rw [if_pos h2] at q
   exact lf (len_str hm) (lf (del1_fit hl hx hs) (xn (xn (el_p3 (n := n + 2) (list_set hl) (fun w hw => hL w (List.dropLast_subset L hw)) (lt_of_le_of_lt (by rw [List.length_dropLast]; exact sub_le _ _) hs) (set_take hT hr) q))))
  ·rw [if_neg (by rw [h2]; decide)] at q
   exact bq rfl hT q
 ·dsimp only at q
  rw [if_pos (not_boolF h)] at q
  exact xn (el_p3 (n := n + 2) hl hL hs hT q)
theorem el_call {got : List Nat} (hw : want.length < 1000) (hg : got.length < 1000)
 (hin : ellIn want = true → (2 ≤ (ellW want).length ∧ (ellW want).length < 300) ∧ (∀ w ∈ ellW want, w.length < 1000000) ∧ (Builtin.Str.partsBetween (S want) (Builtin.Str.occurrences (S want) (S [46, 46, 46]) 0 want.length (want.length + 1)) 3).length ≤ 1000000) (q : Q (.bool (ellM want got)) O) :
 CALL (W G3 (n + 20)) (.cst (.ref 72)) [.str want, .str got] [] b Q O := by
 refine toC (sl (t := !ellIn want) (fun h => ?_) fun h => ?_)
 ·rw [ellM, if_neg (by rw [not_bool h]; decide)] at q
  exact tk (Q := Q) q
 ·have h1 := not_boolF h
  obtain ⟨⟨h2, h3⟩, h4, h5⟩ := hin h1
  rw [ellM, if_pos h1] at q
  have hg1 := lt_trans hg (show 1000 < 1000000 by decide)
  refine lf (split_fit (and_eq_true_iff.mpr ⟨and_eq_true_iff.mpr ⟨rfl, lenOk_of (lt_trans hw (by decide))⟩, decide_eq_true h5⟩)) ?_
  generalize hW : (Txt.split (S want) (S [46, 46, 46])).map (fun p => p.cps.toList) = W0
  have hW : ellW want = W0 := hW
  rw [hW] at h2 h3 h4 q
  cases W0 with
  | nil => cases h2
  | cons x L =>
   have hm := h4 x (mem_cons_self ..)
   refine lf (len_fit (list_new O _) (strL_lt h3)) (gd (decide_eq_true (by rw [strL, length_map]; exact ofNat_le.mpr h2)) (lf (len_str hg1) (lf (at_fit (k := 0) (x := .str x) (list_new O _) (strL_lt h3) rfl) (lf (tr_str hm) (sl (t := !x.isEmpty) (fun h6 => ?_) fun h6 => ?_)))))
   ·rw [ellF, if_neg (by rw [not_bool h6]; decide)] at q
    refine (sl (t := Txt.startswith (S got) (S x)) (fun h7 => ?_) fun h7 => ?_)
    ·rw [if_pos h7] at q
     refine lf (len_str hm) (lf (del0_fit (list_new O _) h3) (xn (xn (el_p2 (list_set (list_new O _)) (fun w hw => h4 w (mem_cons_of_mem _ hw)) (lt_of_succ_lt h3) (fun e => ?_) (set_take new_take (le_refl _)) (le_refl _) q))))
     subst e
     cases h2 with | step h2 => cases h2
    ·rw [if_neg (by rw [h7]; decide)] at q
     exact bq rfl new_take q
   ·rw [ellF, if_pos (not_boolF h6)] at q
    exact xn (el_p2 (list_new O _) h4 h3 (fun e => nomatch e) new_take (le_refl _) q)
end
section
variable {t : Bool} {A B : Prop} {O X : Oj} {n d k : Nat} {l : List V} {s : Src} {v : V} {J : WI} {tgt elt : Expr} {ifs : List Expr} {Q : V → Oj → Prop}
set_option backward.match.sparseCases false
theorem slT {B : Prop} (h : t = true) (a : A) : (match (generalizing := false) t with | true => A | false => B) := by subst h; exact a
theorem slF {A : Prop} (h : t = false) (a : B) : (match (generalizing := false) t with | true => A | false => B) := by subst h; exact a
theorem orE {C : Prop} (h1 : t = true → A) (h2 : t = false → B) : (match (generalizing := false) !t with | true => B | false => (match (generalizing := false) t with | true => A | false => C)) := by
 cases t
 ·exact h2 rfl
 ·exact h1 rfl
theorem listAt_app (h : lA O n = some l) : lA (O ++ X) n = some l := by
 have e := list_at h
 exact at_list (by rw [getElem?_append_left (List.getElem?_eq_some_iff.mp e).1]; exact e)
theorem Thru.cons' (t : Thru O s (v :: l)) : ∃ s', (∀ X, nextOf (O ++ X) s = some (some (v, s'))) ∧ Thru O s' l := by
 generalize e : v :: l = l' at t
 cases t with
 | items l' => exact ⟨.items l, fun _ => by rw [← e]; rfl, .items l⟩
 | @live n k l' h =>
  obtain ⟨e1, e2⟩ := drop_at e.symm
  exact ⟨.live n (k + 1), fun _ => next_live (listAt_app h) e1, e2 ▸ .live h⟩
theorem Thru.nil' (t : Thru O s []) : nextOf (O ++ X) s = some none := by
 generalize e : ([] : List V) = l' at t
 cases t with
 | items l' => rw [← e]; rfl
 | @live n k l' h => exact next_end (listAt_app h) (List.getElem?_eq_none (drop_eq_nil_iff.mp e.symm))
noncomputable def Turn1 {α : Type} (J : WI) (ifs : List Expr) (elt : Expr) (O : Oj) (FR : Option α → List Fr) (p : α → Bool) (g : α → V) (a : α) : Prop :=
 ∀ acc (K1 : V → Oj → Prop) (K2 : Oj → Prop), (p a = true → K1 (g a) (O ++ [.list acc])) → (p a = false → K2 (O ++ [.list acc])) →
  wIfs J ifs (FR (some a)) O.length (fun t O1 => sel t (J.e elt (FR (some a)) O.length K1 O1) (K2 O1)) (O ++ [.list acc])
theorem push_fit {acc : List V} (h : acc.length < 300) : pushAt (O ++ [.list acc]) O.length v = some (O ++ [.list (acc ++ [v])]) := by
 unfold pushAt
 rw [list_new, Option.bind_some, if_pos (lenOk_3 h), List.set_append_right _ _ (le_refl _), sub_self]; rfl
theorem comp_go {α : Type} {FR : Option α → List Fr} {p : α → Bool} {g e : α → V} {Q : Oj → Prop} (set : ∀ t a, setTgt (FR t) tgt (e a) = some (FR (some a))) (l : List α) : ∀ (f : Nat) (t : Option α) (s : Src) (acc : List V),
 (∀ a ∈ l, Turn1 J ifs elt O FR p g a) → Thru O s (l.map e) → l.length < f → acc.length + l.length < 300 → Q (O ++ [.list (acc ++ (l.filter p).map g)]) → compW J tgt ifs elt O.length Q f s (FR t) (O ++ [.list acc]) := by
 induction l with
 | nil =>
  intro f t s acc st h hf ha q
  cases f with
  | zero => exact absurd hf (not_lt_zero _)
  | succ f => exact lf h.nil' (append_nil acc ▸ q)
 | cons a l ih =>
  intro f t s acc st h hf ha q
  replace ha : acc.length + (l.length + 1) < 300 := ha
  cases f with
  | zero => exact absurd hf (not_lt_zero _)
  | succ f =>
   obtain ⟨s', e1, h''⟩ := h.cons'
   refine lf (e1 _) (lf (set t a) (st a (mem_cons_self ..) acc _ _ (fun hp => ?_) fun hp => ?_))
   ·refine lf (push_fit (lt_of_le_of_lt (le_add_right _ _) (by with_reducible assumption))) (ih f _ _ _ (fun x hx => st x (mem_cons_of_mem _ hx)) h'' (lt_of_succ_lt_succ hf) (by rw [length_append]; show acc.length + 1 + l.length < 300; exact lt_of_le_of_lt (le_of_eq (succ_add _ _)) ha) ?_)
    rw [List.filter_cons_of_pos hp, map_cons] at q
    rw [append_assoc]
    exact q
   ·refine ih f _ _ _ (fun x hx => st x (mem_cons_of_mem _ hx)) h'' (lt_of_succ_lt_succ hf) (lt_of_succ_lt ha) ?_
    rw [List.filter_cons_of_neg (by rw [hp]; decide)] at q
    exact q
theorem lc {α : Type} (l : List α) (FR : Option α → List Fr) (p : α → Bool) (g e : α → V) (ts : Thru O s (l.map e)) (set : ∀ t a, setTgt (FR t) tgt (e a) = some (FR (some a)))
 (st : ∀ a ∈ l, Turn1 J ifs elt O FR p g a) (hl : l.length < 300) (hp : pures ((l.filter p).map g) = true) (q : Q (.lst ((l.filter p).map g)) O) : COMP J tgt ifs elt O.length (lcEnd O.length Q) s (FR none) (O ++ [.list []]) := by
 refine ⟨?_⟩
 refine comp_go set l 300 none s [] st ts hl (by rw [length_nil, zero_add]; exact hl) ?_
 refine Lf.of (list_new O _) ?_
 rw [nil_append, hp]
 show Q _ ((O ++ [AObj.list _]).take O.length)
 rw [take_left]
 exact q
noncomputable def yes {α : Type} (_ : α) : Bool := true
theorem filter_yes {α : Type} (l : List α) : l.filter yes = l := List.filter_eq_self.mpr fun _ _ => rfl
theorem lcm {α : Type} (l : List α) (FR : Option α → List Fr) (g e : α → V) (ts : Thru O s (l.map e)) (set : ∀ t a, setTgt (FR t) tgt (e a) = some (FR (some a)))
 (st : ∀ a ∈ l, Turn1 J ifs elt O FR yes g a) (hl : l.length < 300) (hp : pures (l.map g) = true) (q : Q (.lst (l.map g)) O) : COMP J tgt ifs elt O.length (lcEnd O.length Q) s (FR none) (O ++ [.list []]) :=
 lc l FR yes g e ts set st hl (by rw [filter_yes]; exact hp) (by rw [filter_yes]; exact q)
theorem pow_fit (hd : (((d : Int) == 2 || (d : Int) == 3 || (d : Int) == 4 || (d : Int) == 10 || (d : Int) == 64)) = true) (h : k < 600) : binV O .Pow (.int (d : Nat)) (.int (k : Nat)) = some (.int ((d ^ k : Nat) : Int)) := by
 have e : binV O .Pow (.int (d : Nat)) (.int (k : Nat)) = if ((d : Int) == 2 || (d : Int) == 3 || (d : Int) == 4 || (d : Int) == 10 || (d : Int) == 64) && 0 ≤ (k : Int) && (k : Int) < 600 then some (.int ((d : Int) ^ k)) else none := by kernel_rfl!
 exact e.trans ((if_pos (and_eq_true_iff.mpr ⟨and_eq_true_iff.mpr ⟨hd, decide_eq_true (natCast_nonneg k)⟩, decide_eq_true (ofNat_lt.mpr h)⟩)).trans (congrArg (fun i => some (V.int i)) (Int.natCast_pow d k).symm))
theorem intOk_nat (h : k < 2 ^ 300) : intOk (k : Nat) = true := decide_eq_true (lt_trans h (pow_lt_pow_of_lt (by decide) (by decide)))
theorem div_fit {a : Nat} (h : 0 < d) (h2 : d < 2 ^ 300) : binV O .FloorDiv (.int (a : Nat)) (.int (d : Nat)) = some (.int ((a / d : Nat) : Int)) := by
 have e : binV O .FloorDiv (.int (a : Nat)) (.int (d : Nat)) = if (d : Int) > 0 && intOk (d : Nat) then some (.int ((a : Int) / (d : Int))) else none := by kernel_rfl!
 exact e.trans (if_pos (and_eq_true_iff.mpr ⟨decide_eq_true (ofNat_lt.mpr h), intOk_nat h2⟩))
theorem rep_fit (h : k < 1000) (hl : l.length * k < 1000000) : binV O .Mult (.lst l) (.int (k : Nat)) = some (.lst (replicate k l).flatten) := by
 have e : binV O .Mult (.lst l) (.int (k : Nat)) = if 0 ≤ (k : Int) && (k : Int) < 1000 && lO (l.length * k) then some (.lst (replicate k l).flatten) else none := by kernel_rfl!
 exact e.trans (if_pos (and_eq_true_iff.mpr ⟨and_eq_true_iff.mpr ⟨decide_eq_true (natCast_nonneg k), decide_eq_true (ofNat_lt.mpr h)⟩, lenOk_of hl⟩))
theorem cat_fit {r : List V} (hl : l.length + r.length < 1000000) : binV O .Add (.lst l) (.lst r) = some (.lst (l ++ r)) := if_pos (lenOk_of hl)
theorem kq {K : V → Oj → Prop} {i j : Int} (e : i = j) (k : K (.int j) O) : K (.int i) O := e ▸ k
theorem intL_length (l : List Nat) : (intL l).length = l.length := length_map ..
theorem intL_append (l r : List Nat) : intL (l ++ r) = intL l ++ intL r := map_append
theorem pures_intL : ∀ l : List Nat, pures (intL l) = true
 | [] => rfl
 | _ :: l => pures_intL l
mutual
noncomputable def flatV : Nat → V → Bool
 | 0, _ => false
 | n + 1, v => match v with
  | .tup l => l.all (flatV n)
  | .lst l => l.all (flatV n)
  | .ref _ => false
  | _ => true
end
theorem mapM_same {α : Type} {f : α → Option α} : ∀ {l : List α}, (∀ v ∈ l, f v = some v) → l.mapM f = some l
 | [], _ => rfl
 | v :: l, h => by
  rw [List.mapM_cons, h v (mem_cons_self ..), mapM_same fun x hx => h x (mem_cons_of_mem _ hx)]; rfl
theorem freeze_flat {O : Oj} {b : Nat} : ∀ (n : Nat) {v : V}, flatV n v = true → freeze O b n v = some v
 | n + 1, v, h => by
  cases v with
  | tup l => exact (congrArg (map V.tup) (mapM_same fun v hv => freeze_flat n (all_eq_true.mp h v hv)))
  | lst l => exact (congrArg (map V.lst) (mapM_same fun v hv => freeze_flat n (all_eq_true.mp h v hv)))
  | ref => cases h
  | _ => rfl
theorem lv {b : Nat} (h : flatV 4 v = true) : leave b v O = some v := freeze_flat 4 h
theorem flat_intL (l : List Nat) : flatV (n + 2) (.lst (intL l)) = true := all_eq_true.mpr fun v hv => by
 obtain ⟨c, _, rfl⟩ := mem_map.mp hv; rfl
theorem rep64 : ∀ n : Nat, (replicate n [V.int 64]).flatten = intL (replicate n 64)
 | 0 => rfl
 | n + 1 => by rw [replicate_succ, replicate_succ, flatten_cons, rep64 n]; rfl
noncomputable def FRi (nm : Names) (F : List Fr) (x : String) (t : Option Nat) : List Fr := ⟨nm, [(u ".0", none), (u x, t.map fun (k : Nat) => V.int k)], false, 0, none⟩ :: F
theorem pures_i {α : Type} (f : α → Int) : ∀ l : List α, pures (l.map fun a => V.int (f a)) = true
 | [] => rfl
 | _ :: l => pures_i f l
end
section
variable {b : Nat} {O : Oj} {x : List Nat}
set_option backward.match.sparseCases false
noncomputable def splT (x y : List Nat) : List (List Nat) := (Txt.split (S x) (S y)).map fun p => p.cps.toList
noncomputable def joiT (x : List Nat) (l : List (List Nat)) : List Nat := (Txt.join (S x) (l.map S)).cps.toList
noncomputable def splOk (x y : List Nat) : Bool := !y.isEmpty && decide (x.length ≤ 1000000) && decide ((Builtin.Str.partsBetween (S x) (Builtin.Str.occurrences (S x) (S y) 0 x.length (x.length + 1)) y.length).length ≤ 1000000)
noncomputable def joiOk (x : List Nat) (l : List (List Nat)) : Bool := JoinOk (S x) (l.map S)
noncomputable def signs (word : List Nat) : List (List Nat) := word.map fun c => [c]
noncomputable def typ2 (word first second twice both : List Nat) : List Nat := joiT both (splT (joiT twice (splT word (first ++ first))) (first ++ second))
noncomputable def typ0 (word mark : List Nat) : List Nat := joiT mark (signs word) ++ mark
noncomputable def typA (word : List Nat) (base : Nat) : List Nat := word.map fun c => base + c - 97
noncomputable def typN (word : List Nat) (style : Nat) (first second twice both mark : List Nat) (alphabet : Nat) : List Nat :=
 if style % 2 = 1 then typA word (if style = 1 then 65 else alphabet) else if style = 2 then typ2 word first second twice both else typ0 word mark
noncomputable def inB1 (c : Nat) : Bool := b1L.contains (c : Int)
noncomputable def prepL (typed : List Nat) : List (List Nat) := (typed.filter fun c => !inB1 c).map mapB3
noncomputable def signOk (c : Nat) : Bool := decide (c < 2000000) && lO (Txt.lower (S [c])).length
theorem by_contra_b {b : Bool} (h : (b == false) = false) : b = true := by cases b with
 | true => rfl
 | false => cases h
theorem list_str {l : List Nat} (h : l.length < 300) : callY (u "list") [.str l] b O = some (.ref O.length, O ++ [.list (strL (signs l))]) := by
 have e : callY (u "list") [.str l] b O = if lO (l.map fun c => V.str [c]).length then some (.ref O.length, O ++ [.list (l.map fun c => V.str [c])]) else none := by kernel_rfl!
 rw [e, if_pos (lenOk_3 (by rw [length_map]; exact h)), strL, signs, map_map]; rfl
theorem chr_fit {i : Int} {k : Nat} (e : i = (k : Nat)) (h : k < 55000 ∨ 60000 ≤ k ∧ k < 1000000) : callB (u "chr") [.int i] b O = some (.str [k], O) := by
 subst e
 have e : callB (u "chr") [.int (k : Nat)] b O = if 0 ≤ (k : Int) && (decide (k < 55000) || ble 60000 k && decide (k < 1000000)) then some (.str [k], O) else none := by kernel_rfl!
 refine e.trans (if_pos (and_eq_true_iff.mpr ⟨decide_eq_true (natCast_nonneg k), or_eq_true_iff.mpr (h.imp decide_eq_true fun h => and_eq_true_iff.mpr ⟨Nat.ble_eq.mpr h.1, decide_eq_true h.2⟩)⟩))
theorem spl_fit {y : List Nat} (h : splOk x y = true) : methV G3 (u "split") (.str x) [.str y] b O = some (.ref O.length, O ++ [.list (strL (splT x y))]) := split_fit h
theorem joi_fit {v : V} {l : List (List Nat)} (h : iO O v = some (strL l)) (hj : joiOk x l = true) : methV G3 (u "join") (.str x) [v] b O = some (.str (joiT x l), O) := join_fit h hj
theorem pures_s {α : Type} (f : α → List Nat) : ∀ l : List α, pures (l.map fun a => V.str (f a)) = true
 | [] => rfl
 | _ :: l => pures_s f l
noncomputable def FRg {α : Type} (e : α → V) (nm : Names) (F : List Fr) (x : String) (t : Option α) : List Fr := ⟨nm, [(u ".0", none), (u x, t.map e)], false, 0, none⟩ :: F
noncomputable def prN : Names := (fScope (stm 19)).names
theorem pr_call {n : Nat} {t : List Nat} {Q : V → Oj → Prop} (hsg : ∀ c ∈ t, signOk c = true) (hl : t.length < 290) (hf : joiOk [] (prepL t) = true) (q : Q (.str (joiT [] (prepL t))) O) : CALL (W G3 (n + 43)) (.cst (.ref 146)) [.str t] [] b Q O := by
 have e1 : ((t.filter fun c => !inB1 c).map fun c => V.str (mapB3 c)) = strL (prepL t) := by rw [prepL, strL, map_map]; rfl
 refine toC (lc t (FRg (fun c => .str [c]) _ _ "sign") (fun c => !inB1 c) (fun c => .str (mapB3 c)) (fun c => .str [c]) (.items _) (fun _ _ => rfl) (fun c hc acc K1 K2 k1 k2 => ?_) (lt_trans (by with_reducible assumption) (by decide)) (pures_s _ _) ?_)
 ·have h := and_eq_true_iff.mp (hsg c hc)
  refine b1_call (of_decide_eq_true h.1) (sl (t := b1L.contains (c : Int) == false) (fun h2 => b3_call (of_decide_eq_true h.1) h.2 (k1 ?_)) fun h2 => k2 ?_)
  ·exact congrArg (!·) (show inB1 c = false from eq_of_beq h2)
  ·exact congrArg (!·) (show inB1 c = true from by_contra_b h2)
 ·rw [e1]
  exact lf (joi_fit (v := .lst _) rfl hf) (tk (Q := Q) q)
set_option backward.match.sparseCases true
end
section
variable {O : Oj} {Q : V → Oj → Prop} {c n b style alphabet : Nat} {word first second twice both mark : List Nat}
theorem cat_str {x y : List Nat} (h : x.length + y.length < 1000000) : binV O .Add (.str x) (.str y) = some (.str (x ++ y)) := if_pos (lenOk_of h)
theorem vq {v : V} {O1 : Oj} {k : Nat} (hT : O1.take k = O) (q : Q v O) : Q v (O1.take k) := by subst hT; exact q
theorem ch_up (h : 97 ≤ c ∧ c < 1000) : (65 : Int) + c - 97 = ((65 + c - 97 : Nat) : Int) ∧ 65 + c - 97 < 55000 := by exact ⟨(ofNat_sub (le_trans h.1 (le_add_left c 65))).symm, lt_of_le_of_lt (sub_le _ _) (lt_trans (Nat.add_lt_add_left h.2 65) (by decide))⟩
theorem ch_al {a : Nat} (h : 97 ≤ c ∧ c < 1000) (h2 : 60000 ≤ a ∧ a < 900000) : (a : Int) + c - 97 = ((a + c - 97 : Nat) : Int) ∧ 60000 ≤ a + c - 97 ∧ a + c - 97 < 1000000 := by exact ⟨(ofNat_sub (le_trans h.1 (le_add_left c a))).symm, Nat.le_sub_of_add_le (add_le_add h2.1 h.1), lt_of_le_of_lt (sub_le _ _) (lt_trans (Nat.add_lt_add h2.2 h.2) (by decide))⟩
noncomputable def tyN (word : List Nat) (style : Nat) (first second twice both mark : List Nat) (alphabet : Nat) : List Nat :=
 if style = 0 then typ0 word mark else if style = 2 then typ2 word first second twice both else joiT [] (signs (typA word (if style = 1 then 65 else alphabet)))
structure TyOk (word : List Nat) (style : Nat) (first second twice both mark : List Nat) (alphabet : Nat) : Prop where
 hw : word.length < 200
 two : style = 2 → first.length + second.length ≤ 1000 ∧ first.length + first.length ≤ 1000 ∧ splOk word (first ++ first) = true ∧ joiOk twice (splT word (first ++ first)) = true ∧ splOk (joiT twice (splT word (first ++ first))) (first ++ second) = true ∧ joiOk both (splT (joiT twice (splT word (first ++ first))) (first ++ second)) = true
 nul : style = 0 → joiOk mark (signs word) = true ∧ (joiT mark (signs word)).length + mark.length ≤ 1000
 odd : style ≠ 0 → style ≠ 2 → (∀ c ∈ word, 97 ≤ c ∧ c < 1000 ∧ (style = 1 ∨ 60000 ≤ alphabet ∧ alphabet < 900000)) ∧ joiOk [] (signs (typA word (if style = 1 then 65 else alphabet))) = true
noncomputable def worldT (first second twice both mark : List Nat) (alphabet : Nat) : V := .tup [.str first, .str second, .str twice, .str both, .str mark, .int alphabet]
noncomputable def tyNm : Names := (fScope (stm 18)).names
noncomputable def tyV (word : List Nat) (style : Nat) (first second twice both mark : List Nat) (alphabet : Nat) : Vars := [(u "word", some (.str word)), (u "style", some (.int style)), (u "world", some (worldT first second twice both mark alphabet)), (u "first", some (.str first)), (u "second", some (.str second)), (u "twice", some (.str twice)), (u "both", some (.str both)), (u "mark", some (.str mark)), (u "alphabet", some (.int alphabet))]
theorem ty_last (H : TyOk word style first second twice both mark alphabet) (h0 : style ≠ 0) (h2 : style ≠ 2) (q : Q (.str (joiT [] (signs (typA word (if style = 1 then 65 else alphabet))))) O) :
 xs (W G3 (n + 40)) ((fBody (stm 18)).drop 3) [⟨tyNm, tyV word style first second twice both mark alphabet, false, 0, none⟩] b (fun f _ O1 => match f with
  | .ret v => Lf (leave O.length v O1) fun r => Q r (O1.take O.length)
  | .next => Q .none (O1.take O.length)
  | _ => False) O := by
 obtain ⟨hb, hj⟩ := H.odd h0 h2
 have hw := H.hw
 have e1 : (word.map fun c => V.str [(if style = 1 then 65 else alphabet) + c - 97]) = strL (signs (typA word (if style = 1 then 65 else alphabet))) := by rw [typA, signs, strL, map_map, map_map]; rfl
 refine lcm word (FRg (fun c => .str [c]) _ _ "sign") (fun c => .str [(if style = 1 then 65 else alphabet) + c - 97]) (fun c => .str [c]) (.items _) (fun _ _ => rfl) (fun c hc acc K1 K2 k1 k2 => ?_) (lt_trans hw (by decide)) (pures_s _ _) ?_
 ·have hb := hb c hc
  by_cases h1 : style = 1
  ·subst h1
   exact lf (chr_fit (k := 65 + c - 97) (ch_up ⟨hb.1, hb.2.1⟩).1 (.inl (ch_up ⟨hb.1, hb.2.1⟩).2)) (k1 rfl)
  ·have hc := ch_al ⟨hb.1, hb.2.1⟩ (hb.2.2.resolve_left h1)
   refine slF (t := decide ((style : Int) = 1)) (decide_eq_false fun z => h1 (ofNat.inj z)) (lf (chr_fit (k := alphabet + c - 97) hc.1 (.inr hc.2)) ?_)
   rw [if_neg h1] at k1
   exact k1 rfl
 ·rw [e1]
  exact lf (joi_fit (v := .lst _) rfl hj) (tk (Q := Q) q)
theorem ty_mid (H : TyOk word style first second twice both mark alphabet) (h0 : style ≠ 0) (q : Q (.str (tyN word style first second twice both mark alphabet)) O) :
 xs (W G3 (n + 41)) ((fBody (stm 18)).drop 2) [⟨tyNm, tyV word style first second twice both mark alphabet, false, 0, none⟩] b (fun f _ O1 => match f with
  | .ret v => Lf (leave O.length v O1) fun r => Q r (O1.take O.length)
  | .next => Q .none (O1.take O.length)
  | _ => False) O := by
 refine sd (p := ((style : Int) = 2)) (fun h2 => ?_) fun h2 => ?_
 ·have h2 : style = 2 := ofNat.inj h2
  obtain ⟨a1, a2, a3, a4, a5, a6⟩ := H.two h2
  have e : tyN word style first second twice both mark alphabet = typ2 word first second twice both := (if_neg h0).trans (if_pos h2)
  rw [e] at q
  exact lf (cat_str (lt_of_le_of_lt a2 (by decide))) (lf (spl_fit a3) (lf (joi_fit (list_new _ _) a4) (lf (cat_str (lt_of_le_of_lt a1 (by decide))) (lf (spl_fit a5) (lf (joi_fit (list_new _ _) a6) (vq (Q := Q) (by rw [append_assoc]; exact new_take) q))))))
 ·have h2 : style ≠ 2 := fun z => h2 (congrArg ofNat z)
  have e : tyN word style first second twice both mark alphabet = joiT [] (signs (typA word (if style = 1 then 65 else alphabet))) := (if_neg h0).trans (if_neg h2)
  rw [e] at q
  refine xn ?_
  exact ty_last (n := n + 1) H h0 h2 q
theorem ty_call (H : TyOk word style first second twice both mark alphabet) (q : Q (.str (tyN word style first second twice both mark alphabet)) O) :
 CALL (W G3 (n + 43)) (.cst (.ref 141)) [.str word, .int style, worldT first second twice both mark alphabet] [] b Q O := by
 have hw := H.hw
 refine toC (sd (p := ((style : Int) = 0)) (fun h => ?_) fun h => ?_)
 ·have h0 : style = 0 := ofNat.inj h
  obtain ⟨a1, a2⟩ := H.nul h0
  have e : tyN word style first second twice both mark alphabet = typ0 word mark := if_pos h0
  rw [e] at q
  exact lf (list_str (lt_trans hw (by decide))) (lf (joi_fit (list_new _ _) a1) (lf (cat_str (lt_of_le_of_lt a2 (by decide))) (vq (Q := Q) new_take q)))
 ·have h0 : style ≠ 0 := fun z => h (congrArg ofNat z)
  refine xn ?_
  exact ty_mid (n := n + 1) H h0 q
end
section
variable {O : Oj} {r c k n b chosen : Nat} {A : List (Nat × Bool)} {t : Bool}
noncomputable def ansL (A : List (Nat × Bool)) : List (Int × V) := A.map fun p => ((p.1 : Int), .bool p.2)
theorem ansL_len (A : List (Nat × Bool)) : (ansL A).length = A.length := length_map ..
theorem dict_at {l : List (Int × V)} (h : O[r]? = some (.dI l)) : dictAt O r = some (l.map fun e => (.int e.1, e.2)) := by unfold dictAt; rw [h]
theorem ans_get (nd : (A.map (·.1)).Nodup) (h : (c, t) ∈ A) : getD (ansL A) (c : Int) = some (.bool t) := by
 induction A with
 | nil => nomatch h
 | cons p A ih =>
  obtain ⟨h1, h2⟩ := nodup_cons.mp nd
  unfold getD ansL
  rw [map_cons, find?_cons]
  rcases mem_cons.mp h with e | e
  ·subst e
   rw [decide_eq_true (show ((c : Int)) = c from rfl)]; rfl
  ·have hn : ¬ ((p.1 : Int)) = c := fun z => h1 (mem_map.mpr ⟨_, e, (ofNat.inj z).symm⟩)
   rw [decide_eq_false hn]
   exact ih h2 e
theorem idx_ans (hr : O[r]? = some (.dI (ansL A))) (nd : (A.map (·.1)).Nodup) (h : (c, t) ∈ A) : idxV O (.ref r) (.int (c : Nat)) = some (.bool t) := by
 unfold idxV entryAt
 simp only [hr]
 exact ans_get nd h
theorem keys_next {p : Nat × Bool} (hr : O[r]? = some (.dI (ansL A))) (h : A[k]? = some p) : nextOf O (.keys r k A.length) = some (some (.int (p.1 : Nat), .keys r (k + 1) A.length)) := by
 show (dictAt O r).bind _ = _
 rw [dict_at hr, Option.bind_some, if_pos (by rw [length_map, ansL_len]), getElem?_map, ansL, getElem?_map, h]; rfl
theorem keys_end (hr : O[r]? = some (.dI (ansL A))) (h : A[k]? = none) : nextOf O (.keys r k A.length) = some none := by
 show (dictAt O r).bind _ = _
 rw [dict_at hr, Option.bind_some, if_pos (by rw [length_map, ansL_len]), getElem?_map, ansL, getElem?_map, h]; rfl
theorem src_keys (hr : O[r]? = some (.dI (ansL A))) : srcOf O (.ref r) = some (.keys r 0 A.length) := by
 have h1 : lA O r = none := by unfold lA; rw [hr]
 show (match lA O r with | some _ => _ | none => (dictAt O r).map fun l => Src.keys r 0 (length l)) = _
 rw [h1, dict_at hr]
 show some (Src.keys r 0 _) = _
 rw [length_map, ansL_len]
noncomputable def kN (chosen : Nat) : List (Nat × Bool) → Option Bool
 | [] => none
 | p :: r => if p.2 = true ∧ p.1 &&& chosen = chosen then some true else if p.2 = false ∧ p.1 &&& chosen = p.1 then some false else kN chosen r
noncomputable def kvB (o : Option Bool) : V := match o with
 | none => .none
 | some t => .bool t
noncomputable def knF : Stmt := stAt (fBody (stm 21)) 0
noncomputable def knN : Names := (fScope (stm 21)).names
noncomputable def knV (chosen r : Nat) (one : Option V) : Vars := [(u "chosen", some (.int chosen)), (u "answers", some (.ref r)), (u "one", one)]
theorem kn_loop {Q : Fl → List Fr → Oj → Prop} (hr : O[r]? = some (.dI (ansL A))) (nd : (A.map (·.1)).Nodup) (L : List (Nat × Bool)) : ∀ (k f : Nat) (one : Option V), A.drop k = L → L.length < f →
 (∀ one, kN chosen L = none → Q .next [⟨knN, knV chosen r one, false, 0, none⟩] O) → (∀ one t, kN chosen L = some t → Q (.ret (.bool t)) [⟨knN, knV chosen r one, false, 0, none⟩] O) →
 forW (W G3 (n + 14)) (foT knF) (foB knF) (foE knF) b Q f (.keys r k A.length) [⟨knN, knV chosen r one, false, 0, none⟩] O := by
 induction L with
 | nil =>
  intro k f one hk hf q1 q2
  cases f with
  | zero => exact absurd hf (not_lt_zero _)
  | succ f => exact lf (keys_end hr (List.getElem?_eq_none (drop_eq_nil_iff.mp hk))) (q1 one rfl)
 | cons p L ih =>
  intro k f one hk hf q1 q2
  cases f with
  | zero => exact absurd hf (not_lt_zero _)
  | succ f =>
   obtain ⟨hp, hd⟩ := drop_at hk
   obtain ⟨c, t⟩ := p
   have hi := idx_ans (t := t) hr nd (mem_of_getElem? hp)
   have go := fun (e : kN chosen ((c, t) :: L) = kN chosen L) => ih (k + 1) f (some (.int (c : Nat))) hd (lt_of_succ_lt_succ hf) (fun one z => q1 one (e.trans z)) fun one t z => q2 one t (e.trans z)
   refine lf (keys_next hr hp) (lf hi ?_)
   cases t with
   | true =>
    refine sd (p := ((c &&& chosen : Nat) : Int) = chosen) (fun h => ?_) fun h => ?_
    ·exact q2 _ true (if_pos ⟨rfl, ofNat.inj h⟩)
    ·refine slF (t := decide (((c &&& chosen : Nat) : Int) = chosen)) (decide_eq_false h) ?_
     refine lf hi ?_
     exact go ((if_neg fun z => h (congrArg ofNat z.2)).trans (if_neg fun z => nomatch z.1))
   | false =>
    refine lf hi (sd (p := ((c &&& chosen : Nat) : Int) = c) (fun h => ?_) fun h => ?_)
    ·exact q2 _ false ((if_neg fun z => nomatch z.1).trans (if_pos ⟨rfl, ofNat.inj h⟩))
    ·refine slF (t := decide (((c &&& chosen : Nat) : Int) = c)) (decide_eq_false h) ?_
     exact go ((if_neg fun z => nomatch z.1).trans (if_neg fun z => h (congrArg ofNat z.2)))
theorem kn_call {Q : V → Oj → Prop} (hr : O[r]? = some (.dI (ansL A))) (nd : (A.map (·.1)).Nodup) (hl : A.length < 300) (q : Q (kvB (kN chosen A)) O) : CALL (W G3 (n + 20)) (.cst (.ref 158)) [.int chosen, .ref r] [] b Q O := by
 refine toC (lf (src_keys hr) (toF (kn_loop (n := n + 4) hr nd A 0 300 none rfl hl (fun one e => ?_) fun one t e => ?_)))
 ·rw [e] at q; exact tk (Q := Q) q
 ·rw [e] at q; exact tk (Q := Q) q
end
noncomputable def Anti (f : Nat → Bool) : Prop := ∀ x y, y < 32 → x &&& y = x → f y = true → f x = true
structure AnsOk (f : Nat → Bool) (A : List (Nat × Bool)) : Prop where
 is : ∀ p ∈ A, p.2 = f p.1
 lt : ∀ p ∈ A, p.1 < 32
theorem known_app {c : Nat} {t : Bool} (B : List (Nat × Bool)) : ∀ {A : List (Nat × Bool)}, kN c A = some t → kN c (A ++ B) = some t
 | p :: A, h => by
  unfold kN at h
  rw [cons_append]
  unfold kN
  by_cases h1 : p.2 = true ∧ p.1 &&& c = c
  ·rw [if_pos h1] at h ⊢; exact h
  ·rw [if_neg h1] at h ⊢
   by_cases h2 : p.2 = false ∧ p.1 &&& c = p.1
   ·rw [if_pos h2] at h ⊢; exact h
   ·rw [if_neg h2] at h ⊢; exact known_app B h
theorem known_is {f : Nat → Bool} (hf : Anti f) {c : Nat} {t : Bool} (hc : c < 32) : ∀ {A : List (Nat × Bool)}, AnsOk f A → kN c A = some t → t = f c
 | p :: A, ok, h => by
  have hp := ok.is p (mem_cons_self ..)
  have hl := ok.lt p (mem_cons_self ..)
  unfold kN at h
  by_cases h1 : p.2 = true ∧ p.1 &&& c = c
  ·rw [if_pos h1] at h
   cases h
   exact (hf c p.1 hl (by rw [Nat.and_comm]; exact h1.2) (hp ▸ h1.1)).symm
  ·rw [if_neg h1] at h
   by_cases h2 : p.2 = false ∧ p.1 &&& c = p.1
   ·rw [if_pos h2] at h
    cases h
    cases hfc : f c with
    | false => rfl
    | true => exact absurd (hf p.1 c hc h2.2 hfc) (by rw [← hp, h2.1]; decide)
   ·rw [if_neg h2] at h
    exact known_is hf hc ⟨fun q hq => ok.is q (mem_cons_of_mem _ hq), fun q hq => ok.lt q (mem_cons_of_mem _ hq)⟩ h
theorem known_of {f : Nat → Bool} (hf : Anti f) {c d : Nat} (hc : c < 32) : ∀ {A : List (Nat × Bool)}, AnsOk f A → (d, f d) ∈ A → (f d = true ∧ d &&& c = c ∨ f d = false ∧ d &&& c = d) → kN c A = some (f c)
 | p :: A, ok, h, k => by
  have ok' : AnsOk f A := ⟨fun q hq => ok.is q (mem_cons_of_mem _ hq), fun q hq => ok.lt q (mem_cons_of_mem _ hq)⟩
  cases hk : kN c (p :: A) with
  | some t => rw [known_is hf hc ok hk]
  | none =>
   unfold kN at hk
   by_cases h1 : p.2 = true ∧ p.1 &&& c = c
   ·rw [if_pos h1] at hk; cases hk
   ·rw [if_neg h1] at hk
    by_cases h2 : p.2 = false ∧ p.1 &&& c = p.1
    ·rw [if_pos h2] at hk; cases hk
    ·rw [if_neg h2] at hk
     rcases mem_cons.mp h with e | h
     ·subst e
      exact (k.elim (fun z => h1 z) fun z => h2 z).elim
     ·rw [known_of hf hc ok' h k] at hk; cases hk
theorem known_cons {f : Nat → Bool} (hf : Anti f) {c : Nat} (hc : c < 32) {p : Nat × Bool} {A : List (Nat × Bool)} (ok : AnsOk f (p :: A)) (h : kN c A = some (f c)) : kN c (p :: A) = some (f c) := by
 cases hk : kN c (p :: A) with
 | some t => rw [known_is hf hc ok hk]
 | none =>
  unfold kN at hk
  by_cases h1 : p.2 = true ∧ p.1 &&& c = c
  ·rw [if_pos h1] at hk; cases hk
  ·rw [if_neg h1] at hk
   by_cases h2 : p.2 = false ∧ p.1 &&& c = p.1
   ·rw [if_pos h2] at hk; cases hk
   ·rw [if_neg h2, h] at hk; cases hk
theorem known_down {f : Nat → Bool} (hf : Anti f) {c d : Nat} (hd : d < 32) (hcd : c &&& d = c) : ∀ {A : List (Nat × Bool)}, AnsOk f A → kN d A = some true → kN c A = some (f c)
 | p :: A, ok, h => by
  have hc : c < 32 := lt_of_le_of_lt (hcd ▸ Nat.and_le_right) hd
  have ok' : AnsOk f A := ⟨fun q hq => ok.is q (mem_cons_of_mem _ hq), fun q hq => ok.lt q (mem_cons_of_mem _ hq)⟩
  unfold kN at h
  by_cases h1 : p.2 = true ∧ p.1 &&& d = d
  ·have hp := ok.is p (mem_cons_self ..)
   refine known_of (d := p.1) hf hc ok (by rw [← hp]; exact mem_cons_self ..) (.inl ⟨hp ▸ h1.1, ?_⟩)
   rw [← hcd, Nat.and_comm c d, ← Nat.and_assoc, h1.2]
  ·rw [if_neg h1] at h
   by_cases h2 : p.2 = false ∧ p.1 &&& d = p.1
   ·rw [if_pos h2] at h; cases h
   ·rw [if_neg h2] at h
    have := known_down hf hd hcd ok' h
    exact known_cons hf hc ok this
theorem known_up {f : Nat → Bool} (hf : Anti f) {c d : Nat} (hd : d < 32) (hcd : c &&& d = c) : ∀ {A : List (Nat × Bool)}, AnsOk f A → kN c A = some false → kN d A = some (f d)
 | p :: A, ok, h => by
  have ok' : AnsOk f A := ⟨fun q hq => ok.is q (mem_cons_of_mem _ hq), fun q hq => ok.lt q (mem_cons_of_mem _ hq)⟩
  unfold kN at h
  by_cases h1 : p.2 = true ∧ p.1 &&& c = c
  ·rw [if_pos h1] at h; cases h
  ·rw [if_neg h1] at h
   by_cases h2 : p.2 = false ∧ p.1 &&& c = p.1
   ·have hp := ok.is p (mem_cons_self ..)
    refine known_of (d := p.1) hf hd ok (by rw [← hp]; exact mem_cons_self ..) (.inr ⟨hp ▸ h2.1, ?_⟩)
    rw [← h2.2, Nat.and_assoc, hcd]
   ·rw [if_neg h2] at h
    exact known_cons hf hd ok (known_up hf hd hcd ok' h)
theorem known_mid {f : Nat → Bool} (hf : Anti f) {a c d : Nat} (hd : d < 32) (hc : c < 32) (h1 : a &&& d = a) (h2 : d &&& c = d) {A : List (Nat × Bool)} (ok : AnsOk f A) (h : kN d A = some (f d)) : kN a A = some (f a) ∨ kN c A = some (f c) := by
 cases hfd : f d with
 | true => exact .inl (known_down hf hd h1 ok (hfd ▸ h))
 | false => exact .inr (known_up hf hc h2 ok (hfd ▸ h))
noncomputable def chainsL : List (List Nat) := [[24, 25], [18, 22], [12, 28], [10, 26], [20, 21], [8, 9, 11, 27], [2, 6, 14, 30], [4, 5, 13, 29], [16, 17, 19, 23], [0, 1, 3, 7, 15, 31]]
noncomputable def cmpOk (done : List Nat) : List Nat → Bool
 | a :: b :: c :: r => done.contains (a ||| (c ^^^ b)) && decide (a &&& (a ||| (c ^^^ b)) = a) && decide ((a ||| (c ^^^ b)) &&& c = a ||| (c ^^^ b)) && cmpOk done (b :: c :: r)
 | _ => true
noncomputable def upOk : List Nat → Bool
 | a :: b :: r => decide (a &&& b = a) && decide (a ≠ b) && upOk (b :: r)
 | _ => true
noncomputable def chainsOk : List Nat → List (List Nat) → Bool
 | _, [] => true
 | done, ch :: r => cmpOk done ch && upOk ch && chainsOk (done ++ ch) r
theorem chains_ok : chainsOk [] chainsL = true := by decide +kernel
theorem chains_all : chainsL.flatten.length = 32 ∧ (List.range 32).all (chainsL.flatten.contains ·) = true := by decide +kernel
theorem chain_shape {f : Nat → Bool} (hf : Anti f) {A : List (Nat × Bool)} (ok : AnsOk f A) {done : List Nat} (hd : ∀ d ∈ done, d < 32 ∧ kN d A = some (f d)) : ∀ (ch : List Nat), (∀ c ∈ ch, c < 32) → upOk ch = true → cmpOk done ch = true →
 ∃ lo m r, ch.map (kN · A) = replicate lo (some true) ++ (replicate m none ++ replicate r (some false)) ∧ m ≤ 2
 | [], _, _, _ => ⟨0, 0, 0, rfl, by decide⟩
 | [c], hl, _, _ => by
  cases h : kN c A with
  | none => exact ⟨0, 1, 0, by rw [map_cons, h]; rfl, by decide⟩
  | some t => cases t with
   | true => exact ⟨1, 0, 0, by rw [map_cons, h]; rfl, by decide⟩
   | false => exact ⟨0, 0, 1, by rw [map_cons, h]; rfl, by decide⟩
 | c :: d :: r, hl, hu, hm => by
  have hc := hl c (mem_cons_self ..)
  have hdl := hl d (mem_cons_of_mem _ (mem_cons_self ..))
  obtain ⟨hu1, hu2⟩ := and_eq_true_iff.mp (show (decide (c &&& d = c) && decide (c ≠ d) && upOk (d :: r)) = true from hu)
  have hcd : c &&& d = c := of_decide_eq_true (and_eq_true_iff.mp hu1).1
  have hm2 : cmpOk done (d :: r) = true := by
   cases r with
   | nil => rfl
   | cons e r => exact (and_eq_true_iff.mp hm).2
  obtain ⟨lo, m, k, e, hm3⟩ := chain_shape hf ok hd (d :: r) (fun x hx => hl x (mem_cons_of_mem _ hx)) hu2 hm2
  rw [map_cons, e]
  cases lo with
  | succ lo =>
   have hkd : kN d A = some true := (List.cons.inj e).1
   have hfd := known_is hf hdl ok hkd
   have hkc := known_down hf hdl hcd ok hkd
   rw [hf c d hdl hcd hfd.symm] at hkc
   exact ⟨lo + 2, m, k, by rw [hkc]; rfl, hm3⟩
  | zero =>
   cases hk : kN c A with
   | some t => cases t with
    | true => exact ⟨1, m, k, rfl, hm3⟩
    | false =>
     have hkd := known_up hf hdl hcd ok hk
     have hfc := known_is hf hc ok hk
     have hfd : f d = false := by
      cases h : f d with
      | false => rfl
      | true => rw [hf c d hdl hcd h] at hfc; cases hfc
     rw [hfd] at hkd
     cases m with
     | zero => exact ⟨0, 0, k + 1, rfl, by decide⟩
     | succ m => exact nomatch hkd.symm.trans (List.cons.inj e).1
   | none =>
    refine ⟨0, m + 1, k, rfl, ?_⟩
    cases m with
    | zero => decide
    | succ m => cases m with
     | zero => decide
     | succ m =>
      cases r with
      | nil => exact nomatch (List.cons.inj e).2
      | cons x r =>
       have hkx : kN x A = none := (List.cons.inj (List.cons.inj e).2).1
       obtain ⟨h1, _⟩ := and_eq_true_iff.mp hm
       obtain ⟨h1, h2⟩ := and_eq_true_iff.mp h1
       obtain ⟨h0, h1⟩ := and_eq_true_iff.mp h1
       obtain ⟨g1, g2⟩ := hd _ (contains_iff_mem.mp h0)
       have hx := hl x (mem_cons_of_mem _ (mem_cons_of_mem _ (mem_cons_self ..)))
       exact (known_mid hf g1 hx (of_decide_eq_true h1) (of_decide_eq_true h2) ok g2).elim (fun z => nomatch hk.symm.trans z) fun z => nomatch hkx.symm.trans z
noncomputable def askMid (f : Nat → Bool) (A : List (Nat × Bool)) : List Nat → List (Nat × Bool)
 | [a] => A ++ [(a, f a)]
 | [a, b] => if f b = true then A ++ [(b, f b)] else A ++ [(b, f b), (a, f a)]
 | _ => A
theorem AnsOk.app {f : Nat → Bool} {A : List (Nat × Bool)} (ok : AnsOk f A) {c : Nat} (hc : c < 32) : AnsOk f (A ++ [(c, f c)]) :=
 ⟨fun p hp => (mem_append.mp hp).elim (ok.is p) fun h => by rw [mem_singleton.mp h], fun p hp => (mem_append.mp hp).elim (ok.lt p) fun h => by rw [mem_singleton.mp h]; exact hc⟩
theorem key_known {f : Nat → Bool} (hf : Anti f) {A : List (Nat × Bool)} (ok : AnsOk f A) {c : Nat} (h : c ∈ A.map (·.1)) : kN c A = some (f c) := by
 obtain ⟨p, hp, rfl⟩ := mem_map.mp h
 have e := ok.is p hp
 have hm : (p.1, f p.1) ∈ A := by rw [← e]; exact hp
 cases h : f p.1 with
 | true => rw [← h]; exact known_of hf (ok.lt p hp) ok hm (.inl ⟨h, Nat.and_self _⟩)
 | false => rw [← h]; exact known_of hf (ok.lt p hp) ok hm (.inr ⟨h, Nat.and_self _⟩)
structure Asked (f : Nat → Bool) (A A' : List (Nat × Bool)) (mid : List Nat) : Prop where
 ok : AnsOk f A'
 nd : (A'.map (·.1)).Nodup
 len : A'.length ≤ A.length + 2
 pre : ∃ B, A' = A ++ B
 all : ∀ c ∈ mid, kN c A' = some (f c)
theorem nodup_snoc {A : List (Nat × Bool)} {p : Nat × Bool} (nd : (A.map (·.1)).Nodup) (h : p.1 ∉ A.map (·.1)) : ((A ++ [p]).map (·.1)).Nodup := by
 rw [map_append]
 exact nodup_append.mpr ⟨nd, nodup_cons.mpr ⟨not_mem_nil, nodup_nil⟩, fun x hx y hy e => h (by rw [← show y = p.1 from mem_singleton.mp hy, ← e]; exact hx)⟩
theorem ask_ok {f : Nat → Bool} (hf : Anti f) {A : List (Nat × Bool)} (ok : AnsOk f A) (nd : (A.map (·.1)).Nodup) : ∀ {mid : List Nat}, mid.length ≤ 2 → (∀ c ∈ mid, c < 32 ∧ kN c A = none) → upOk mid = true → Asked f A (askMid f A mid) mid
 | [], _, _, _ => ⟨ok, nd, le_add_right _ _, ⟨[], (append_nil A).symm⟩, fun _ h => nomatch h⟩
 | [a], _, h, _ => by
  obtain ⟨ha, hk⟩ := h a (mem_cons_self ..)
  have ok1 := ok.app ha
  refine ⟨ok1, nodup_snoc nd fun z => (nomatch hk.symm.trans (key_known hf ok z)), by show (A ++ _).length ≤ _; rw [length_append]; exact le_succ _, ⟨_, rfl⟩, fun c hc => ?_⟩
  rw [mem_singleton.mp hc]
  exact key_known hf ok1 (by rw [map_append]; exact mem_append_right _ (mem_cons_self ..))
 | [a, b], _, h, hu => by
  obtain ⟨ha, hka⟩ := h a (mem_cons_self ..)
  obtain ⟨hb, hkb⟩ := h b (mem_cons_of_mem _ (mem_cons_self ..))
  have hu : (decide (a &&& b = a) && decide (a ≠ b) && upOk [b]) = true := hu
  obtain ⟨hu, _⟩ := and_eq_true_iff.mp hu
  obtain ⟨h1, h2⟩ := and_eq_true_iff.mp hu
  have hab : a &&& b = a := of_decide_eq_true h1
  have hne : a ≠ b := of_decide_eq_true h2
  have ok1 := ok.app hb
  have nd1 := nodup_snoc (p := (b, f b)) nd fun z => (nomatch hkb.symm.trans (key_known hf ok z))
  have kb : kN b (A ++ [(b, f b)]) = some (f b) := key_known hf ok1 (by rw [map_append]; exact mem_append_right _ (mem_cons_self ..))
  by_cases hfb : f b = true
  ·have e : askMid f A [a, b] = A ++ [(b, f b)] := if_pos hfb
   rw [e]
   refine ⟨ok1, nd1, by rw [length_append]; exact le_succ _, ⟨_, rfl⟩, fun c hc => ?_⟩
   rcases mem_cons.mp hc with rfl | hc
   ·exact known_down hf hb hab ok1 (hfb ▸ kb)
   ·rw [mem_singleton.mp hc]; exact kb
  ·have e : askMid f A [a, b] = A ++ [(b, f b)] ++ [(a, f a)] := (if_neg hfb).trans (append_assoc A [(b, f b)] [(a, f a)]).symm
   rw [e]
   have ok2 := ok1.app ha
   have hnk : kN a (A ++ [(b, f b)]) = none ∨ a ∉ (A ++ [(b, f b)]).map (·.1) := .inr fun z => by
    rw [map_append] at z
    rcases mem_append.mp z with z | z
    ·exact nomatch hka.symm.trans (key_known hf ok z)
    ·exact hne (mem_singleton.mp z)
   refine ⟨ok2, nodup_snoc nd1 (hnk.elim (fun z y => nomatch z.symm.trans (key_known hf ok1 y)) id), by rw [length_append, length_append]; exact le_refl _, ⟨_, append_assoc ..⟩, fun c hc => ?_⟩
   rcases mem_cons.mp hc with rfl | hc
   ·exact key_known hf ok2 (by rw [map_append]; exact mem_append_right _ (mem_cons_self ..))
   ·rw [mem_singleton.mp hc]; exact known_app _ kb
 | _ :: _ :: _ :: _, h, _, _ => absurd h (by simp)
structure Parts (A : List (Nat × Bool)) (ch p mid q : List Nat) : Prop where
 is : ch = p ++ (mid ++ q)
 yes : ∀ c ∈ p, kN c A = some true
 open_ : ∀ c ∈ mid, kN c A = none
 no : ∀ c ∈ q, kN c A = some false
 two : mid.length ≤ 2
theorem map_rep {A : List (Nat × Bool)} {l : List Nat} {n : Nat} {o : Option Bool} (h : l.map (kN · A) = replicate n o) : l.length = n ∧ ∀ c ∈ l, kN c A = o :=
 ⟨by rw [← length_map (as := l) (f := (kN · A)), h, List.length_replicate], fun c hc => List.eq_of_mem_replicate (h ▸ mem_map_of_mem (f := (kN · A)) hc)⟩
theorem chain_parts {f : Nat → Bool} (hf : Anti f) {A : List (Nat × Bool)} (ok : AnsOk f A) {done : List Nat} (hd : ∀ d ∈ done, d < 32 ∧ kN d A = some (f d)) {ch : List Nat} (hl : ∀ c ∈ ch, c < 32) (hu : upOk ch = true) (hm : cmpOk done ch = true) : ∃ p mid q, Parts A ch p mid q := by
 obtain ⟨lo, m, r, e, h2⟩ := chain_shape hf ok hd ch hl hu hm
 obtain ⟨p, l, rfl, e1, e⟩ := List.map_eq_append_iff.mp e
 obtain ⟨mid, q, rfl, e2, e3⟩ := List.map_eq_append_iff.mp e
 exact ⟨p, mid, q, rfl, (map_rep e1).2, (map_rep e2).2, (map_rep e3).2, (map_rep e2).1 ▸ h2⟩
theorem up_right : ∀ {p l : List Nat}, upOk (p ++ l) = true → upOk l = true
 | [], _, h => h
 | [a], [], _ => rfl
 | [a], b :: l, h => (and_eq_true_iff.mp h).2
 | a :: b :: p, l, h => up_right (p := b :: p) (and_eq_true_iff.mp h).2
theorem up_left : ∀ {l q : List Nat}, upOk (l ++ q) = true → upOk l = true
 | [], _, _ => rfl
 | [a], _, _ => rfl
 | a :: b :: l, q, h => and_eq_true_iff.mpr ⟨(and_eq_true_iff.mp h).1, up_left (l := b :: l) (and_eq_true_iff.mp h).2⟩
theorem chain_asked {f : Nat → Bool} (hf : Anti f) {A : List (Nat × Bool)} (ok : AnsOk f A) (nd : (A.map (·.1)).Nodup) {ch p mid q : List Nat} (hl : ∀ c ∈ ch, c < 32) (hu : upOk ch = true) (P : Parts A ch p mid q) : Asked f A (askMid f A mid) ch := by
 have e := P.is
 have hm : ∀ c ∈ mid, c ∈ ch := fun c hc => e ▸ mem_append_right _ (mem_append_left _ hc)
 have X := ask_ok hf ok nd P.two (fun c hc => ⟨hl c (hm c hc), P.open_ c hc⟩) (up_left (q := q) (up_right (p := p) (e ▸ hu)))
 obtain ⟨B, hB⟩ := X.pre
 refine ⟨X.ok, X.nd, X.len, X.pre, fun c hc => ?_⟩
 have hcl := hl c hc
 rw [e] at hc
 rcases mem_append.mp hc with h | h
 ·have k := P.yes c h
  rw [known_is hf hcl ok k] at k
  rw [hB]; exact known_app B k
 ·rcases mem_append.mp h with h | h
  ·exact X.all c h
  ·have k := P.no c h
   rw [known_is hf hcl ok k] at k
   rw [hB]; exact known_app B k
section
variable {f : Nat → Bool}
theorem known_entry {c : Nat} {t : Bool} : ∀ {A : List (Nat × Bool)}, kN c A = some t → ∃ p ∈ A, p.2 = t ∧ (t = true ∧ p.1 &&& c = c ∨ t = false ∧ p.1 &&& c = p.1)
 | p :: A, h => by
  unfold kN at h
  by_cases h1 : p.2 = true ∧ p.1 &&& c = c
  ·rw [if_pos h1] at h; cases h
   exact ⟨p, mem_cons_self .., h1.1, .inl ⟨rfl, h1.2⟩⟩
  ·rw [if_neg h1] at h
   by_cases h2 : p.2 = false ∧ p.1 &&& c = p.1
   ·rw [if_pos h2] at h; cases h
    exact ⟨p, mem_cons_self .., h2.1, .inr ⟨rfl, h2.2⟩⟩
   ·rw [if_neg h2] at h
    obtain ⟨q, hq, r⟩ := known_entry h
    exact ⟨q, mem_cons_of_mem _ hq, r⟩
theorem step_upB : ∀ x, x < 32 → ∀ y, y < 32 → x &&& y = x → x ≠ y → ((List.range 5).any fun k => decide (x / 2 ^ k % 2 = 0) && decide ((x ^^^ 2 ^ k) &&& y = x ^^^ 2 ^ k) && decide (x ^^^ 2 ^ k < 32)) = true := by decide +kernel
theorem step_downB : ∀ x, x < 32 → ∀ y, y < 32 → x &&& y = x → x ≠ y → ((List.range 5).any fun k => decide (y / 2 ^ k % 2 = 1) && decide (x &&& (y ^^^ 2 ^ k) = x) && decide (y ^^^ 2 ^ k < 32)) = true := by decide +kernel
theorem step_up (x : Nat) (hx : x < 32) (y : Nat) (hy : y < 32) (h : x &&& y = x) (hn : x ≠ y) : ∃ k, k < 5 ∧ x / 2 ^ k % 2 = 0 ∧ (x ^^^ 2 ^ k) &&& y = x ^^^ 2 ^ k ∧ x ^^^ 2 ^ k < 32 := by
 obtain ⟨k, hk, h⟩ := any_eq_true.mp (step_upB x hx y hy h hn)
 obtain ⟨h, h3⟩ := and_eq_true_iff.mp h
 obtain ⟨h1, h2⟩ := and_eq_true_iff.mp h
 exact ⟨k, mem_range.mp hk, of_decide_eq_true h1, of_decide_eq_true h2, of_decide_eq_true h3⟩
theorem step_down (x : Nat) (hx : x < 32) (y : Nat) (hy : y < 32) (h : x &&& y = x) (hn : x ≠ y) : ∃ k, k < 5 ∧ y / 2 ^ k % 2 = 1 ∧ x &&& (y ^^^ 2 ^ k) = x ∧ y ^^^ 2 ^ k < 32 := by
 obtain ⟨k, hk, h⟩ := any_eq_true.mp (step_downB x hx y hy h hn)
 obtain ⟨h, h3⟩ := and_eq_true_iff.mp h
 obtain ⟨h1, h2⟩ := and_eq_true_iff.mp h
 exact ⟨k, mem_range.mp hk, of_decide_eq_true h1, of_decide_eq_true h2, of_decide_eq_true h3⟩
theorem near_ok (hf : Anti f) {A : List (Nat × Bool)} (ok : AnsOk f A) {c : Nat} (hc : c < 32) (hn : c ∉ A.map (·.1)) (h : kN c A = some (f c)) : ∃ k, k < 5 ∧ f (c ^^^ 2 ^ k) = f c ∧ decide (c / 2 ^ k % 2 = 1) ≠ f c := by
 obtain ⟨p, hp, e, r⟩ := known_entry h
 have hl := ok.lt p hp
 have hi := ok.is p hp
 have ne : c ≠ p.1 := fun z => hn (z ▸ mem_map_of_mem (f := (·.1)) hp)
 rcases r with ⟨ht, r⟩ | ⟨ht, r⟩
 ·obtain ⟨k, hk, k1, k2, k3⟩ := step_up c hc p.1 hl (by rw [Nat.and_comm]; exact r) ne
  refine ⟨k, hk, ?_, ?_⟩
  ·rw [ht]; exact hf _ _ hl k2 (by rw [← hi, e, ht])
  ·rw [ht, decide_eq_false (by rw [k1]; decide)]; decide
 ·obtain ⟨k, hk, k1, k2, k3⟩ := step_down p.1 hl c hc r ne.symm
  refine ⟨k, hk, ?_, ?_⟩
  ·rw [ht]
   cases h2 : f (c ^^^ 2 ^ k) with
   | false => rfl
   | true => exact absurd (hf _ _ k3 k2 h2) (by rw [← hi, e, ht]; decide)
  ·rw [ht, decide_eq_true k1]; decide
inductive Run (f : Nat → Bool) : List (List Nat) → List (Nat × Bool) → List (Nat × Bool) → Prop
 | nil (A) : Run f [] A A
 | cons {ch p mid q : List Nat} {r : List (List Nat)} {A A' : List (Nat × Bool)} (P : Parts A ch p mid q) (h : Run f r (askMid f A mid) A') : Run f (ch :: r) A A'
theorem run_ok {f : Nat → Bool} (hf : Anti f) : ∀ (chs : List (List Nat)) (done : List Nat) (A : List (Nat × Bool)), chainsOk done chs = true → (∀ ch ∈ chs, ∀ c ∈ ch, c < 32) → AnsOk f A → (A.map (·.1)).Nodup → (∀ d ∈ done, d < 32 ∧ kN d A = some (f d)) →
 ∃ A', Run f chs A A' ∧ AnsOk f A' ∧ (A'.map (·.1)).Nodup ∧ A'.length ≤ A.length + 2 * chs.length ∧ ∀ d ∈ done ++ chs.flatten, kN d A' = some (f d)
 | [], done, A, _, _, ok, nd, hd => ⟨A, .nil A, ok, nd, le_refl _, fun d h => (hd d (by rwa [List.flatten_nil, append_nil] at h)).2⟩
 | ch :: r, done, A, hc, hl, ok, nd, hd => by
  obtain ⟨h1, h3⟩ := and_eq_true_iff.mp (show (cmpOk done ch && upOk ch && chainsOk (done ++ ch) r) = true from hc)
  obtain ⟨h1, h2⟩ := and_eq_true_iff.mp h1
  have hcl := hl ch (mem_cons_self ..)
  obtain ⟨p, mid, q, P⟩ := chain_parts hf ok hd hcl h2 h1
  have X := chain_asked hf ok nd hcl h2 P
  obtain ⟨B, hB⟩ := X.pre
  obtain ⟨A', k1, k2, k3, k4, k5⟩ := run_ok hf r (done ++ ch) (askMid f A mid) h3 (fun x hx => hl x (mem_cons_of_mem _ hx)) X.ok X.nd fun d h => (mem_append.mp h).elim (fun h => ⟨(hd d h).1, by rw [hB]; exact known_app B (hd d h).2⟩) fun h => ⟨hcl d h, X.all d h⟩
  refine ⟨A', .cons P k1, k2, k3, ?_, fun d h => k5 d (by rwa [flatten_cons, ← append_assoc] at h)⟩
  have := X.len
  rw [length_cons]
  exact le_trans k4 (le_trans (add_le_add_right this _) (le_of_eq (add_right_comm _ 2 _)))
theorem hansel (hf : Anti f) : ∃ A, Run f chainsL [] A ∧ AnsOk f A ∧ (A.map (·.1)).Nodup ∧ A.length ≤ 20 ∧ ∀ c, c < 32 → kN c A = some (f c) := by
 obtain ⟨A, h1, h2, h3, h4, h5⟩ := run_ok hf chainsL [] [] chains_ok (by decide) ⟨fun _ h => (nomatch h), fun _ h => (nomatch h)⟩ nodup_nil fun _ h => nomatch h
 exact ⟨A, h1, h2, h3, h4, fun c hc => h5 c (contains_iff_mem.mp (all_eq_true.mp chains_all.2 c (mem_range.mpr hc)))⟩
end
section
variable {n p k b : Nat} {v lo hi : V} {l is front ends text : List Nat} {a c : Option Int} {O : Oj} {inner : List (List Nat)} {Q : V → Oj → Prop}
theorem picked_run {α : Type} (l : List α) (a c : Nat) : picked l (sliceRange a c 1) = (l.drop a).take (c - a) := by
 rw [sliceRange_one]
 exact (congrArg (fun f => ((List.range (c - a)).map (a + ·)).filterMap f) (funext fun i => (List.getElem?_toArray ..).symm)).trans (pick_run l.toArray a (c - a))
theorem clip_in {d : Int} (h : p ≤ n) : clipV n 1 (some (p : Int)) d = p := by
 have e : clipV n 1 (some (p : Int)) d = max 0 (min (if (p : Int) < 0 then (p : Int) + n else p) n) := by kernel_rfl!
 rw [e, if_neg (Int.not_lt.mpr (natCast_nonneg p)), Int.min_eq_left (ofNat_le.mpr h), Int.max_eq_right (natCast_nonneg p)]
theorem sl_from (h : p ≤ n) : sliceIdx (some (p : Int)) none none n = some (sliceRange p n 1) := congrArg (fun i => some (sliceRange i n 1)) (clip_in h)
theorem sl_to (h : p ≤ n) : sliceIdx none (some (p : Int)) none n = some (sliceRange (0 : Nat) p 1) := congrArg (fun i => some (sliceRange (0 : Nat) i 1)) (clip_in h)
theorem sl_fit {l : List V} (h : iO O v = some l) (hs : l.length < 300) (h1 : optInt lo = some a) (h2 : optInt hi = some c) (h3 : sliceIdx a c none l.length = some is) : sliceV O v lo hi .none = some (.lst (picked l is)) := by
 have e : (if lO l.length then (sliceIdx a c none l.length).map fun is => V.lst (picked l is) else none) = some (.lst (picked l is)) := by rw [if_pos (lenOk_3 hs), h3]; rfl
 refine bs h1 (bs h2 ?_)
 cases v with
 | lst l' => cases h; exact e
 | ref n => exact bs (f := fun l : List V => if lO l.length then (sliceIdx a c none l.length).map fun is => V.lst (picked l is) else none) (show lA O n = some l from h) e
 | _ => cases h
theorem to_fit {l : List V} (h : iO O v = some l) (hs : l.length < 300) (hp : p ≤ l.length) : sliceV O v .none (.int (p : Nat)) .none = some (.lst (l.take p)) := by
 have e := sl_fit (lo := .none) (hi := .int (p : Nat)) h hs rfl rfl (sl_to hp)
 rwa [picked_run, drop_zero, sub_zero] at e
theorem picked_rev {α : Type} (l : List α) : picked l (sliceRange ((l.length : Int) - 1) (-1) (-1)) = l.reverse := by
 rw [krv_sliceRange, krv_range, picked, List.filterMap_reverse]
 have h := krv_all l.toArray
 rw [List.size_toArray] at h
 exact congrArg List.reverse ((congrArg (fun f => (List.range l.length).filterMap f) (funext fun i => (List.getElem?_toArray ..).symm)).trans h)
theorem rev_fit {l : List V} (h : l.length < 300) : sliceV O (.lst l) .none .none (.int (-1)) = some (.lst l.reverse) := by
 have e : sliceV O (.lst l) .none .none (.int (-1)) = if lO l.length then some (.lst (picked l (sliceRange ((l.length : Int) - 1) (-1) (-1)))) else none := by kernel_rfl!
 rw [e, if_pos (lenOk_3 h), picked_rev]
theorem str_sl (hs : l.length < 300) (h1 : optInt lo = some a) (h2 : optInt hi = some c) (h3 : sliceIdx a c none l.length = some is) : sliceV O (.str l) lo hi .none = some (.str (picked l is)) := by
 refine bs h1 (bs h2 ?_)
 refine (if_pos (show (lO l.length && true) = true from and_eq_true_iff.mpr ⟨lenOk_3 hs, rfl⟩)).trans ?_
 rw [h3]; rfl
theorem str_to (hs : l.length < 300) (hk : k ≤ l.length) : sliceV O (.str l) .none (.int (k : Nat)) .none = some (.str (l.take k)) := by
 have e := str_sl (O := O) (lo := .none) (hi := .int (k : Nat)) hs rfl rfl (sl_to hk)
 rwa [picked_run, drop_zero, sub_zero] at e
theorem str_from (hs : l.length < 300) (hk : k ≤ l.length) : sliceV O (.str l) (.int (k : Nat)) .none .none = some (.str (l.drop k)) := by
 have e := str_sl (O := O) (lo := .int (k : Nat)) (hi := .none) hs rfl rfl (sl_from hk)
 rwa [picked_run, take_of_length_le (le_of_eq length_drop)] at e
noncomputable def takGo (text : List Nat) (lo : Nat) : List (List Nat) → Nat → Bool
 | [], _ => true
 | p :: r, last => match Builtin.Str.lastOccurrence (S text) (S p) lo (min last text.length) with
  | some i => takGo text lo r i
  | none => false
noncomputable def takenN (front : List Nat) (inner : List (List Nat)) (ends text : List Nat) : Bool :=
 if text.length < front.length + ends.length then false
 else if text.take front.length = front then (if text.drop (text.length - ends.length) = ends then takGo text front.length inner.reverse (text.length - ends.length) else false)
 else false
theorem clipT_nat (n k : Nat) : clipT n (k : Nat) = k := by
 unfold clipT
 rw [if_neg (Int.not_lt.mpr (natCast_nonneg k)), Int.max_eq_right (natCast_nonneg k), Int.toNat_natCast]
noncomputable def tkF : Stmt := stAt (fBody (stm 23)) 2
noncomputable def tkNm : Names := (fScope (stm 23)).names
noncomputable def tkV (front : List Nat) (inner : List (List Nat)) (ends text : List Nat) (last : Int) (piece : Option V) : Vars := [(u "front", some (.str front)), (u "inner", some (.lst (strL inner))), (u "end", some (.str ends)), (u "text", some (.str text)), (u "last", some (.int last)), (u "piece", piece)]
theorem tk_loop {Q : Fl → List Fr → Oj → Prop} (hf : front.length < 300) (L : List (List Nat)) : ∀ (f k : Nat) (last : Int) (piece : Option V), last = (k : Nat) → L.length < f →
 (∀ last piece, takGo text front.length L k = true → Q .next [⟨tkNm, tkV front inner ends text last piece, false, 0, none⟩] O) → (∀ last piece, takGo text front.length L k = false → Q (.ret (.bool false)) [⟨tkNm, tkV front inner ends text last piece, false, 0, none⟩] O) →
 forW (W G3 (n + 14)) (foT tkF) (foB tkF) (foE tkF) b Q f (.items (strL L)) [⟨tkNm, tkV front inner ends text last piece, false, 0, none⟩] O := by
 induction L with
 | nil =>
  intro f k last piece e hf' q1 q2
  cases f with
  | zero => exact absurd hf' (not_lt_zero _)
  | succ f => exact q1 last piece rfl
 | cons p L ih =>
  intro f k last piece e hf' q1 q2
  subst e
  cases f with
  | zero => exact absurd hf' (not_lt_zero _)
  | succ f =>
   have er : rfindT text p (clipT text.length (front.length : Nat)) (min (clipT text.length (k : Nat)) text.length) = rfindT text p front.length (min k text.length) := by rw [clipT_nat, clipT_nat]
   refine lf (len_str (lt_trans hf (by decide))) ?_
   refine sd (p := rfindT text p (clipT text.length (front.length : Nat)) (min (clipT text.length (k : Nat)) text.length) < 0) (fun h => ?_) fun h => ?_
   ·refine q2 _ _ ?_
    rw [er] at h
    cases ho : Builtin.Str.lastOccurrence (S text) (S p) front.length (min k text.length) with
    | none => unfold takGo; rw [ho]
    | some i => unfold rfindT at h; rw [ho] at h; exact absurd h (Int.not_lt.mpr (natCast_nonneg i))
   ·cases ho : Builtin.Str.lastOccurrence (S text) (S p) front.length (min k text.length) with
    | none => rw [er] at h; unfold rfindT at h; rw [ho] at h; exact absurd (show (-1 : Int) < 0 by decide) h
    | some i =>
     have go : takGo text front.length (p :: L) k = takGo text front.length L i := by
      show (match Builtin.Str.lastOccurrence (S text) (S p) front.length (min k text.length) with | some i => takGo text front.length L i | none => false) = _
      rw [ho]
     exact ih f i _ _ (er.trans (by unfold rfindT; rw [ho])) (lt_of_succ_lt_succ hf') (fun l p z => q1 l p (go.trans z)) fun l p z => q2 l p (go.trans z)
theorem tk_rest {last : Int} (hf : front.length < 300) (hi : inner.length < 200) (e : last = (k : Nat)) (q : Q (.bool (takGo text front.length inner.reverse k)) O) :
 xs (W G3 (n + 16)) ((fBody (stm 23)).drop 2) [⟨tkNm, tkV front inner ends text last none, false, 0, none⟩] b (fun f _ O1 => match f with
  | .ret v => Lf (leave O.length v O1) fun r => Q r (O1.take O.length)
  | .next => Q .none (O1.take O.length)
  | _ => False) O := by
 have er : (strL inner).reverse = strL inner.reverse := List.map_reverse.symm
 refine lf (rev_fit (strL_lt (lt_trans hi (by decide)))) (toF ?_)
 rw [er]
 refine tk_loop (n := n + 1) hf inner.reverse 300 k last none e (by rw [List.length_reverse]; exact lt_trans hi (by decide)) (fun l p h => ?_) fun l p h => ?_
 ·rw [h] at q; exact tk (Q := Q) q
 ·rw [h] at q; exact tk (Q := Q) q
theorem sf0 {A B : Prop} (h : B) : sel false A B := h
theorem wts_or {J : WI} {F : List Fr} {Q : Bool → Oj → Prop} (h : Q false O) : wTs J .Or [] F b Q O := h
theorem str_from' {i : Int} (e : i = (k : Nat)) (hs : l.length < 300) (hk : k ≤ l.length) : sliceV O (.str l) (.int i) .none .none = some (.str (l.drop k)) := e ▸ str_from hs hk
theorem tk_call (hf : front.length < 300) (he : ends.length < 300) (ht : text.length < 300) (hi : inner.length < 200) (q : Q (.bool (takenN front inner ends text)) O) : CALL (W G3 (n + 20)) (.cst (.ref 170)) [.str front, .lst (strL inner), .str ends, .str text] [] b Q O := by
 refine toC (lf (len_str (lt_trans ht (by decide))) (lf (len_str (lt_trans he (by decide))) (lf (len_str (lt_trans hf (by decide))) ?_)))
 by_cases h : (text.length : Int) - ends.length < front.length
 ·have hn : text.length < front.length + ends.length := by exact ofNat_lt.mp (Int.lt_add_of_sub_right_lt h)
  rw [show takenN front inner ends text = false from if_pos hn] at q
  exact slF (t := !decide ((text.length : Int) - ends.length < front.length)) (by rw [decide_eq_true h]; rfl) (slT (t := decide ((text.length : Int) - ends.length < front.length)) (decide_eq_true h) (tk (Q := Q) q))
 ·have hn : ¬ text.length < front.length + ends.length := by exact fun z => h (Int.sub_right_lt_of_lt_add (ofNat_lt.mpr z))
  have ek : (text.length : Int) - ends.length = ((text.length - ends.length : Nat) : Int) := (ofNat_sub (le_trans (le_add_left _ _) (not_lt.mp hn))).symm
  have hft : front.length ≤ text.length := le_trans (le_add_right _ _) (not_lt.mp hn)
  refine slT (t := !decide ((text.length : Int) - ends.length < front.length)) (by rw [decide_eq_false h]; rfl) (lf (len_str (lt_trans hf (by decide))) (lf (str_to ht hft) ?_))
  by_cases h2 : text.take front.length = front
  ·refine slT (t := !!decide (text.take front.length = front)) (by rw [decide_eq_true h2]; rfl) (lf (str_from' ek ht (sub_le ..)) ?_)
   by_cases h3 : text.drop (text.length - ends.length) = ends
   ·rw [show takenN front inner ends text = takGo text front.length inner.reverse (text.length - ends.length) from (if_neg hn).trans ((if_pos h2).trans (if_pos h3))] at q
    refine slT (t := !!decide (text.drop (text.length - ends.length) = ends)) (by rw [decide_eq_true h3]; rfl) ?_
    refine wts_or ?_
    refine sf0 ?_
    refine xn ?_
    exact tk_rest (n := n + 3) hf hi ek q
   ·rw [show takenN front inner ends text = false from (if_neg hn).trans ((if_pos h2).trans (if_neg h3))] at q
    exact slF (t := !!decide (text.drop (text.length - ends.length) = ends)) (by rw [decide_eq_false h3]; rfl) (slT (t := !decide (text.drop (text.length - ends.length) = ends)) (by rw [decide_eq_false h3]; rfl) (tk (Q := Q) q))
  ·rw [show takenN front inner ends text = false from (if_neg hn).trans (if_neg h2)] at q
   exact slF (t := !!decide (text.take front.length = front)) (by rw [decide_eq_false h2]; rfl) (slT (t := !decide (text.take front.length = front)) (by rw [decide_eq_false h2]; rfl) (tk (Q := Q) q))
end
section
variable {text : List Nat} {lo : Nat}
open StrLaws Builtin.Str in
theorem last_in (s sub : Str) (hi : Nat) : ∀ (l : List Nat) (st : Option Nat), (forIn l st (lastBody s sub hi)).run = st ∨ ∃ a ∈ l, (forIn l st (lastBody s sub hi)).run = some a
 | [], st => .inl (by simp)
 | a :: l, st => by
  rw [forIn_cons]
  unfold lastBody
  by_cases hc : a + sub.length ≤ hi ∧ subAt s sub a = true
  ·rw [if_pos hc]
   exact .inr ((last_in s sub hi l (some a)).elim (fun h => ⟨a, mem_cons_self .., h⟩) fun ⟨b, hb, h⟩ => ⟨b, mem_cons_of_mem _ hb, h⟩)
  ·rw [if_neg hc]
   exact (last_in s sub hi l st).imp id fun ⟨b, hb, h⟩ => ⟨b, mem_cons_of_mem _ hb, h⟩
open StrLaws Builtin.Str in
theorem last_sp (x y : Str) (lo hi : Nat) : (lastOccurrence x y lo hi = none ∧ ∀ i, lo ≤ i → ¬ At x y hi i) ∨ ∃ i, lastOccurrence x y lo hi = some i ∧ lo ≤ i ∧ At x y hi i ∧ ∀ k, lo ≤ k → At x y hi k → k ≤ i := by
 rw [last_eq]
 have key := last_run x y hi (range' lo (hi + 1 - lo)) [] none (fun _ h => nomatch h) (fun _ h => nomatch h) List.pairwise_lt_range'
 have mem : ∀ i, lo ≤ i → At x y hi i → i ∈ [] ++ range' lo (hi + 1 - lo) := fun i h hi' => by
  have := hi'.1
  rw [nil_append, List.mem_range'_1]
  exact ⟨h, lt_of_lt_of_le (Nat.lt_succ_of_le (le_trans (le_add_right _ _) this)) (Nat.sub_le_iff_le_add'.mp (le_refl _))⟩
 have hin := last_in x y hi (range' lo (hi + 1 - lo)) none
 cases hr : (forIn (range' lo (hi + 1 - lo)) none (lastBody x y hi)).run with
 | none => rw [hr] at key; exact .inl ⟨rfl, fun i h hi' => key i (mem i h hi') hi'⟩
 | some a =>
  rw [hr] at key hin
  obtain ⟨b, hb, e⟩ := hin.resolve_left nofun
  cases e
  exact .inr ⟨a, rfl, (List.mem_range'_1.mp hb).1, key.1, fun k hk hA => Nat.le_of_not_lt fun z => key.2 k (mem k hk hA) z hA⟩
noncomputable def Fits (text : List Nat) (lo : Nat) : List (List Nat) → Nat → Prop
 | [], _ => True
 | p :: r, last => ∃ i, lo ≤ i ∧ StrLaws.At (S text) (S p) last i ∧ Fits text lo r i
theorem at_mono {x y : Str} {h h' i : Nat} (hh : h ≤ h') (a : StrLaws.At x y h i) : StrLaws.At x y h' i := ⟨le_trans a.1 hh, a.2⟩
theorem fits_mono : ∀ {L : List (List Nat)} {a c : Nat}, a ≤ c → Fits text lo L a → Fits text lo L c
 | [], _, _, _, _ => trivial
 | _ :: _, _, _, h, q4 => by obtain ⟨i, h1, h2, h3⟩ := q4; exact ⟨i, h1, at_mono h h2, h3⟩
theorem takGo_iff {text : List Nat} {lo : Nat} : ∀ {L : List (List Nat)} {last : Nat}, last ≤ text.length → (takGo text lo L last = true ↔ Fits text lo L last)
 | [], _, _ => ⟨fun _ => trivial, fun _ => rfl⟩
 | p :: r, last, hl => by
  have em : min last text.length = last := min_eq_left hl
  unfold takGo
  rw [em]
  rcases last_sp (S text) (S p) lo last with ⟨e, hn⟩ | ⟨i, e, h1, h2, h3⟩
  ·rw [e]
   exact ⟨fun h => (nomatch h), fun ⟨i, h1, h2, _⟩ => absurd h2 (hn i h1)⟩
  ·rw [e]
   have hi : i ≤ last := le_trans (le_add_right _ _) h2.1
   have ih := takGo_iff (text := text) (lo := lo) (L := r) (last := i) (le_trans hi hl)
   exact ⟨fun h => ⟨i, h1, h2, ih.mp h⟩, fun ⟨j, g1, g2, g3⟩ => ih.mpr (fits_mono (h3 j g1 g2) g3)⟩
theorem fits_sub {L' L : List (List Nat)} (h : L'.Sublist L) : ∀ {last : Nat}, Fits text lo L last → Fits text lo L' last := by
 induction h with
 | slnil => exact fun _ => trivial
 | cons a _ ih => exact fun ⟨i, h1, h2, h3⟩ => fits_mono (le_trans (le_add_right _ _) h2.1) (ih h3)
 | cons_cons a _ ih => exact fun ⟨i, h1, h2, h3⟩ => ⟨i, h1, h2, ih h3⟩
theorem taken_sub {front ends : List Nat} {inner' inner : List (List Nat)} (h : inner'.Sublist inner) (ht : takenN front inner ends text = true) : takenN front inner' ends text = true := by
 unfold takenN at ht ⊢
 by_cases h1 : text.length < front.length + ends.length
 ·rw [if_pos h1] at ht; cases ht
 ·rw [if_neg h1] at ht ⊢
  by_cases h2 : text.take front.length = front
  ·rw [if_pos h2] at ht ⊢
   by_cases h3 : text.drop (text.length - ends.length) = ends
   ·rw [if_pos h3] at ht ⊢
    exact (takGo_iff (sub_le ..)).mpr (fits_sub h.reverse ((takGo_iff (sub_le ..)).mp ht))
   ·rw [if_neg h3] at ht; cases ht
  ·rw [if_neg h2] at ht; cases ht
noncomputable def chosenP (plain : List (List Nat)) (c : Nat) : List (List Nat) := ((List.range 5).filter fun k => decide (c / 2 ^ k % 2 = 1)).map fun k => plain.getD k []
end
theorem bit_sub : ∀ x, x < 32 → ∀ y, y < 32 → x &&& y = x → ∀ k, k < 5 → x / 2 ^ k % 2 = 1 → y / 2 ^ k % 2 = 1 := by decide +kernel
theorem chosen_sub {plain : List (List Nat)} {x y : Nat} (hy : y < 32) (h : x &&& y = x) : (chosenP plain x).Sublist (chosenP plain y) := by
 have hx : x < 32 := lt_of_le_of_lt (h ▸ Nat.and_le_right) hy
 have e : (List.range 5).filter (fun k => decide (x / 2 ^ k % 2 = 1)) = ((List.range 5).filter fun k => decide (y / 2 ^ k % 2 = 1)).filter fun k => decide (x / 2 ^ k % 2 = 1) := by
  rw [List.filter_filter]
  refine List.filter_congr fun k hk => ?_
  cases hb : decide (x / 2 ^ k % 2 = 1) with
  | false => rfl
  | true => rw [decide_eq_true (bit_sub x hx y hy h k (mem_range.mp hk) (of_decide_eq_true hb))]; rfl
 unfold chosenP
 rw [e]
 exact List.filter_sublist.map _
theorem taken_anti (front ends text : List Nat) (plain : List (List Nat)) : Anti fun c => takenN front (chosenP plain c) ends text := fun x y hy h ht => taken_sub (chosen_sub hy h) ht
noncomputable def FitsF (text : List Nat) (hi : Nat) : List (List Nat) → Nat → Prop
 | [], _ => True
 | p :: r, lo => ∃ i, lo ≤ i ∧ StrLaws.At (S text) (S p) hi i ∧ FitsF text hi r (i + p.length)
theorem fits_snoc {text : List Nat} {p : List Nat} : ∀ {M : List (List Nat)} {lo last : Nat}, Fits text lo (M ++ [p]) last ↔ ∃ j, lo ≤ j ∧ StrLaws.At (S text) (S p) last j ∧ Fits text (j + p.length) M last
 | [], _, _ => Iff.rfl
 | q :: M, lo, last => by
  constructor
  ·rintro ⟨i, h1, h2, h3⟩
   obtain ⟨j, g1, g2, g3⟩ := fits_snoc.mp h3
   exact ⟨j, g1, at_mono (le_trans (le_add_right _ _) h2.1) g2, i, by have := g2.1; rwa [sL] at this, h2, g3⟩
  ·rintro ⟨j, g1, g2, i, h1, h2, h3⟩
   exact ⟨i, le_trans g1 (le_trans (le_add_right _ _) h1), h2, fits_snoc.mpr ⟨j, g1, ⟨by rw [sL]; exact h1, g2.2⟩, h3⟩⟩
theorem fits_rev {text : List Nat} {hi : Nat} : ∀ {L : List (List Nat)} {lo : Nat}, FitsF text hi L lo ↔ Fits text lo L.reverse hi
 | [], _ => Iff.rfl
 | p :: r, lo => by
  rw [List.reverse_cons, fits_snoc]
  exact ⟨fun ⟨i, h1, h2, h3⟩ => ⟨i, h1, h2, fits_rev.mp h3⟩, fun ⟨i, h1, h2, h3⟩ => ⟨i, h1, h2, fits_rev.mpr h3⟩⟩
theorem fitsF_mono {text : List Nat} {hi : Nat} : ∀ {L : List (List Nat)} {a c : Nat}, a ≤ c → FitsF text hi L c → FitsF text hi L a
 | [], _, _, _, _ => trivial
 | _ :: _, _, _, h, q4 => by obtain ⟨i, h1, h2, h3⟩ := q4; exact ⟨i, le_trans h h1, h2, h3⟩
section
variable {i k : Nat} {ps : List (List Nat × List Nat)} {o : AObj} {A : List (Nat × Bool)} {t : Bool} {inner : List (List Nat)}
theorem stN {J : WI} {l : List Stmt} {F : List Fr} {b : Nat} {Q : Fl → List Fr → Oj → Prop} {O : Oj} (hi : l.drop i = stAt l i :: l.drop (i + 1)) (h : J.s (stAt l i) F b (fun f F1 O1 => match f with | .next => xs J (l.drop (i + 1)) F1 b Q O1 | f => Q f F1 O1) O) : xs J (l.drop i) F b Q O := by rw [hi]; exact h
noncomputable def octK (number : Nat) (k : Nat) : Nat := number / 64 ^ k % 64 + if k = 0 then 0 else 64
noncomputable def octC (number : Nat) (k : Nat) : Bool := decide (k = 0) || decide (number ≥ 64 ^ k)
noncomputable def octP (number noughts : Nat) : List Nat := replicate noughts 64 ++ ([5, 4, 3, 2, 1, 0].filter (octC number)).map (octK number)
noncomputable def octN (number noughts high : Nat) : List Nat := (octP number noughts).map (· + high)
theorem octP_len (number noughts : Nat) : (octP number noughts).length ≤ noughts + 6 := by
 unfold octP
 rw [length_append, List.length_replicate, length_map]
 exact add_le_add_left (List.length_filter_le _ [5, 4, 3, 2, 1, 0]) _
theorem mul_fit {O : Oj} {a d : Nat} (h : a < 2 ^ 300) (h2 : d < 2 ^ 300) : binV O .Mult (.int (a : Nat)) (.int (d : Nat)) = some (.int ((a * d : Nat) : Int)) := by
 have e : binV O .Mult (.int (a : Nat)) (.int (d : Nat)) = if intOk (a : Nat) && intOk (d : Nat) then some (.int ((a : Int) * (d : Int))) else none := by kernel_rfl!
 exact e.trans (if_pos (and_eq_true_iff.mpr ⟨intOk_nat h, intOk_nat h2⟩))
noncomputable def wV (pc : Nat) (front ends text : List Nat) (base no hi : Nat) : V := .tup [.str front, .ref pc, .str ends, .str text, .int base, .int no, .int hi]
noncomputable def juV (c r pc : Nat) (front ends text : List Nat) (base no hi : Nat) (number octets reader words inner new : Option V) : Vars := [(u "chosen", some (.int c)), (u "world", some (wV pc front ends text base no hi)), (u "asked", some (.ref r)), (u "front", some (.str front)), (u "pieces", some (.ref pc)), (u "end", some (.str ends)), (u "text", some (.str text)), (u "base", some (.int base)), (u "noughts", some (.int no)), (u "high", some (.int hi)), (u "number", number), (u "octets", octets), (u "reader", reader), (u "words", words), (u "inner", inner), (u "new", new)]
noncomputable def juN : Names := (fScope (stm 22)).names
noncomputable def juF (c r pc : Nat) (front ends text : List Nat) (base no hi : Nat) (number octets reader words inner new : Option V) : List Fr := [⟨juN, juV c r pc front ends text base no hi number octets reader words inner new, false, 0, none⟩]
section
variable {n b c r pc base no hi : Nat} {O : Oj} {front ends text : List Nat} {nu oc re wo inn ne : Option V} {Q : Fl → List Fr → Oj → Prop}
theorem ju_s1 (hc : c < 2 ^ 300) (hb : base < 600) (hp : 2 ^ base < 2 ^ 300) (q : Q .next (juF c r pc front ends text base no hi (some (.int (c * 2 ^ base : Nat))) oc re wo inn ne) O) :
 (W G3 (n + 30)).s (stAt (fBody (stm 22)) 1) (juF c r pc front ends text base no hi nu oc re wo inn ne) b Q O :=
 lf (pow_fit (d := 2) rfl hb) (lf (mul_fit hc hp) q)
theorem ju_s2 {number : Nat} (hno : no < 100) (q : Q .next (juF c r pc front ends text base no hi (some (.int number)) (some (.lst (intL (octP number no)))) re wo inn ne) O) :
 (W G3 (n + 30)).s (stAt (fBody (stm 22)) 2) (juF c r pc front ends text base no hi (some (.int number)) oc re wo inn ne) b Q O := by
 have e3 : (([5, 4, 3, 2, 1, 0].filter (octC number)).map fun k => V.int (octK number k : Nat)) = intL (([5, 4, 3, 2, 1, 0].filter (octC number)).map (octK number)) := by unfold intL; rw [map_map]; rfl
 have e4 : (replicate no [V.int 64]).flatten ++ intL (([5, 4, 3, 2, 1, 0].filter (octC number)).map (octK number)) = intL (octP number no) := by rw [rep64, ← intL_append]; rfl
 have hpl := octP_len number no
 refine lf (rep_fit (lt_trans hno (by decide)) (by simp; exact lt_trans hno (by decide))) (lc [5, 4, 3, 2, 1, 0] (FRi _ _ "k") (octC number) (fun k => .int (octK number k : Nat)) (fun (k : Nat) => .int k) (.items _) (fun _ _ => rfl) (fun k hk acc K1 K2 k1 k2 => ?_) (by decide) (pures_i _ _) ?_)
 ·have hk4 : k < 6 := (show ∀ j ∈ [5, 4, 3, 2, 1, 0], j < 6 by decide) k hk
  have hp0 : 0 < 64 ^ k := pow_pos (by decide)
  have hp1 : 64 ^ k < 2 ^ 300 := lt_of_lt_of_le (pow_lt_pow_of_lt (by decide) hk4) (by decide)
  have hk6 := lt_trans hk4 (show 6 < 600 by decide)
  by_cases h0 : k = 0
  ·subst h0
   exact kq (j := (octK number 0 : Nat)) (by simp [octK]) (k1 rfl)
  ·have h0' : ((k : Nat) : Int) ≠ 0 := fun e => h0 (ofNat.inj e)
   have hv : octK number k = number / 64 ^ k % 64 + 64 := by rw [octK, if_neg h0]
   refine slT (t := !decide ((k : Int) = 0)) (by rw [decide_eq_false h0']; rfl) (lf (pow_fit rfl hk6) (orE (t := decide ((number : Int) ≥ (64 ^ k : Nat))) (fun h => ?_) fun h => ?_))
   ·refine lf (pow_fit rfl hk6) (lf (div_fit hp0 hp1) (slT (t := decide ((k : Int) ≠ 0)) (decide_eq_true h0') ?_))
    exact kq (j := (octK number k : Nat)) (congrArg Nat.cast hv.symm) (k1 (or_eq_true_iff.mpr (.inr (decide_eq_true (ofNat_le.mp (of_decide_eq_true h))))))
   ·exact k2 (Bool.or_eq_false_iff.mpr ⟨decide_eq_false h0, decide_eq_false fun z => of_decide_eq_false h (ofNat_le.mpr z)⟩)
 ·rw [e3]
  refine lf (cat_fit (by rw [← length_append, e4, intL_length]; exact lt_of_le_of_lt hpl (lt_trans (Nat.add_lt_add_right hno 6) (by decide)))) ?_
  rw [e4]
  exact q
theorem ju_s3 {oc' : List Nat} (hl : oc'.length < 300) (q : Q .next (juF c r pc front ends text base no hi nu (some (.lst (intL oc'))) (some (.ref O.length)) wo inn ne) (O ++ [.iter (intL (oc'.map (· + hi)))])) :
 (W G3 (n + 30)).s (stAt (fBody (stm 22)) 3) (juF c r pc front ends text base no hi nu (some (.lst (intL oc'))) re wo inn ne) b Q O := by
 have e6 : (oc'.map fun c => V.int ((c + hi : Nat) : Int)) = intL (oc'.map (· + hi)) := by unfold intL; rw [map_map]; rfl
 refine lcm oc' (FRi _ _ "octet") (fun c => .int ((c + hi : Nat) : Int)) (fun (c : Nat) => .int c) (.items _) (fun _ _ => rfl) (fun c hc acc K1 K2 k1 k2 => k1 rfl) hl (pures_i _ _) ?_
 rw [e6]
 exact q
end
noncomputable def wordsF (f : Nat) : List (List Nat) := (Txt.split (S (pf f)) (S [44, 32])).map fun p => p.cps.toList
structure FlagOk (f : Nat) : Prop where
 lt : f < 2 ^ 36
 join : JoinOk (S [44, 32]) ((pfL f).map S) = true
 len : (pf f).length ≤ 1000000
 parts : (Builtin.Str.partsBetween (S (pf f)) (Builtin.Str.occurrences (S (pf f)) (S [44, 32]) 0 (pf f).length ((pf f).length + 1)) 2).length ≤ 1000000
structure PrOk (t : List Nat) : Prop where
 sg : ∀ c ∈ t, signOk c = true
 len : t.length < 290
 join : joiOk [] (prepL t) = true
noncomputable def pcD (ps : List (List Nat × List Nat)) : List (List Nat × V) := ps.map fun p => (p.1, .str p.2)
theorem pcD_get (w : List Nat) : ∀ ps : List (List Nat × List Nat), getD (pcD ps) w = (ps.lookup w).map V.str
 | [] => rfl
 | p :: ps => by
  unfold getD pcD
  rw [map_cons, find?_cons, lookup_cons]
  by_cases h : w = p.1
  ·subst h; rw [decide_eq_true rfl, beq_self_eq_true]; rfl
  ·rw [decide_eq_false (fun z : p.1 = w => h z.symm), (beq_eq_false_iff_ne.mpr h)]
   exact pcD_get w ps
noncomputable def innP (ps : List (List Nat × List Nat)) (w : List Nat) : Bool := (ps.lookup w).isSome
noncomputable def innW (ps : List (List Nat × List Nat)) (w : List Nat) : List Nat := joiT [] (prepL ((ps.lookup w).getD []))
noncomputable def innN (ps : List (List Nat × List Nat)) (ws : List (List Nat)) : List (List Nat) := (ws.filter (innP ps)).map (innW ps)
theorem in_pcs {O : Oj} {pc : Nat} (h : O[pc]? = some (.dS (pcD ps))) (w : List Nat) : cmpV G3 O .In (.str w) (.ref pc) = some (innP ps w) := by
 show inD G3 O (.str w) (.ref pc) = _
 unfold inD entryAt
 simp only [h, pcD_get]
 unfold innP
 cases ps.lookup w <;> rfl
theorem at_pcs {O : Oj} {pc : Nat} {w : List Nat} (h : O[pc]? = some (.dS (pcD ps))) (hw : innP ps w = true) : idxV O (.ref pc) (.str w) = some (.str ((ps.lookup w).getD [])) := by
 unfold idxV entryAt
 simp only [h, pcD_get]
 unfold innP at hw
 cases hl : ps.lookup w with
 | none => rw [hl] at hw; exact ff_ne hw
 | some t => rfl
theorem lookup_in {α β : Type} [BEq α] [LawfulBEq α] {k : α} {v : β} : ∀ {l : List (α × β)}, l.lookup k = some v → (k, v) ∈ l
 | (y, d) :: l, e => by
  rw [lookup_cons] at e
  split at e
  ·rename_i hx
   cases e
   rw [eq_of_beq hx]; exact mem_cons_self ..
  ·exact mem_cons_of_mem _ (lookup_in e)
theorem at_app {O X : Oj} (h : O[i]? = some o) : (O ++ X)[i]? = some o := by rw [getElem?_append_left (List.getElem?_eq_some_iff.mp h).1]; exact h
theorem set_ne {O : Oj} {j : Nat} {o' : AObj} (h : O[i]? = some o) (hn : j ≠ i) : (O.set j o')[i]? = some o := (getElem?_set_ne hn).trans h
section
variable {n b c r pc base no hi : Nat} {O : Oj} {front ends text : List Nat} {nu oc re wo inn ne : Option V} {Q : Fl → List Fr → Oj → Prop}
theorem ju_s4 {f : Nat} {l : List Nat} (hv : varint l = some (f, [])) (hk : O[k]? = some (.iter (intL l))) (hl : l.length < 300) (hf : FlagOk f)
 (q : Q .next (juF c r pc front ends text base no hi nu oc (some (.ref k)) (some (.ref (O.set k (.iter [])).length)) inn ne) (O.set k (.iter []) ++ [.list (strL (wordsF f))])) :
 (W G3 (n + 34)).s (stAt (fBody (stm 22)) 4) (juF c r pc front ends text base no hi nu oc (some (.ref k)) wo inn ne) b Q O :=
 va_call hv hk hl (pf_call hf.lt hf.join (lf (split_fit (and_eq_true_iff.mpr ⟨and_eq_true_iff.mpr ⟨rfl, decide_eq_true hf.len⟩, decide_eq_true hf.parts⟩)) q))
theorem ju_s5 {wr : Nat} {ws : List (List Nat)} (hw : lA O wr = some (strL ws)) (hws : ws.length < 300) (hp : O[pc]? = some (.dS (pcD ps))) (hps : ∀ p ∈ ps, PrOk p.2)
 (q : Q .next (juF c r pc front ends text base no hi nu oc re (some (.ref wr)) (some (.lst (strL (innN ps ws)))) ne) O) :
 (W G3 (n + 54)).s (stAt (fBody (stm 22)) 5) (juF c r pc front ends text base no hi nu oc re (some (.ref wr)) inn ne) b Q O := by
 have e : ((ws.filter (innP ps)).map fun w => V.str (innW ps w)) = strL (innN ps ws) := by unfold innN strL; rw [map_map]; rfl
 obtain ⟨s, h1, h2⟩ := src_fit (a := .ref wr) hw
 refine lf h1 (lc ws (FRg (fun w => .str w) _ _ "word") (innP ps) (fun w => .str (innW ps w)) (fun w => .str w) h2 (fun _ _ => rfl) (fun w hw acc K1 K2 k1 k2 => ?_) hws (pures_s _ _) ?_)
 ·refine lf (in_pcs (at_app hp) w) (sl (fun h => ?_) fun h => k2 h)
  refine lf (at_pcs (at_app hp) h) ?_
  cases hl : ps.lookup w with
  | none => unfold innP at h; rw [hl] at h; exact ff_ne h
  | some t =>
   have P := hps _ (lookup_in hl)
   refine pr_call P.sg P.len P.join ?_
   have e : innW ps w = joiT [] (prepL t) := by unfold innW; rw [hl]; rfl
   exact e ▸ (show K1 (.str (innW ps w)) _ from k1 h)
 ·rw [e]; exact q
theorem list_done (h : O[k]? = some (.iter [])) : callY (u "list") [.ref k] b O = some (.ref O.length, O.set k .dead ++ [.list []]) := by
 have e : callY (u "list") [.ref k] b O = (match deadIter O (.ref k) with
  | some n => some (V.ref O.length, O.set n .dead ++ [.list []])
  | none => (allItems O (.ref k)).bind fun l => if lO l.length then some (.ref O.length, O ++ [.list l]) else none) := by kernel_rfl!
 have e2 : deadIter O (.ref k) = some k := by
  show (iterAt O k).bind _ = _
  rw [iter_at h]; rfl
 rw [e, e2]
theorem nil_eq {m : Nat} (h : lA O m = some []) : cmpV G3 O .Eq (.ref m) (.lst []) = some true := by
 show (lA O m).bind _ = _
 rw [h]; rfl
theorem ju_s6 (hk : O[k]? = some (.iter [])) (hr : O[r]? = some (.dI (ansL A))) (nd : (A.map (·.1)).Nodup) (hl : A.length < 300) (hc : kN c A = none) (hne : k ≠ r)
 (q : Q .next (juF c r pc front ends text base no hi nu oc (some (.ref k)) wo inn (some (.bool true))) (O.set k .dead ++ [.list []])) :
 (W G3 (n + 34)).s (stAt (fBody (stm 22)) 6) (juF c r pc front ends text base no hi nu oc (some (.ref k)) wo inn ne) b Q O := by
 have hn : lA (O.set k .dead ++ [.list []]) O.length = some [] := by have := list_new (O.set k .dead) []; rwa [length_set] at this
 refine lf (list_done hk) ?_
 refine lf (v := true) ?_ ?_
 ·exact nil_eq hn
 ·refine kn_call (at_app (set_ne hr hne)) nd hl ?_
  rw [hc]
  exact q
noncomputable def wantN (front : List Nat) (inner : List (List Nat)) (ends : List Nat) : List Nat := joiT [46, 46, 46] ([front] ++ inner ++ [ends])
structure ElOk (want : List Nat) : Prop where
 len : want.length < 1000
 hin : ellIn want = true → (2 ≤ (ellW want).length ∧ (ellW want).length < 300) ∧ (∀ w ∈ ellW want, w.length < 1000000) ∧ (Builtin.Str.partsBetween (S want) (Builtin.Str.occurrences (S want) (S [46, 46, 46]) 0 want.length (want.length + 1)) 3).length ≤ 1000000
theorem put_ans (hr : O[r]? = some (.dI (ansL A))) (hl : A.length < 300) (hc : c ∉ A.map (·.1)) : putV O b (.ref r) (.int (c : Nat)) (.bool t) = some (O.set r (.dI (ansL (A ++ [(c, t)])))) := by
 have e : putV O b (.ref r) (.int (c : Nat)) (.bool t) = if writeOk b r (.bool t) then setD O r (.int (c : Nat)) (.bool t) else none := rfl
 rw [e, if_pos (pure_ok rfl)]
 unfold setD
 simp only [hr]
 rw [if_pos (lenOk_3 (by rw [ansL_len]; exact hl))]
 have h2 : ¬ ((ansL A).any fun e => decide (e.1 = (c : Int))) = true := fun z => by
  obtain ⟨e, he, h⟩ := any_eq_true.mp z
  obtain ⟨p, hp, rfl⟩ := mem_map.mp he
  exact hc (mem_map.mpr ⟨p, hp, ofNat.inj (of_decide_eq_true h)⟩)
 rw [putD, if_neg h2, ansL, ansL, map_append]; rfl
theorem ju_s7 (hr : O[r]? = some (.dI (ansL A))) (hl : A.length < 300) (hc : c ∉ A.map (·.1)) (hin : inner.length < 300) (hj : joiOk [46, 46, 46] ([front] ++ inner ++ [ends]) = true) (hE : ElOk (wantN front inner ends)) (ht : text.length < 1000)
 (q : Q .next (juF c r pc front ends text base no hi nu oc re wo (some (.lst (strL inner))) (some (.bool true))) (O.set r (.dI (ansL (A ++ [(c, ellM (wantN front inner ends) text)]))))) :
 (W G3 (n + 34)).s (stAt (fBody (stm 22)) 7) (juF c r pc front ends text base no hi nu oc re wo (some (.lst (strL inner))) (some (.bool true))) b Q O := by
 refine lf (cat_fit (l := [.str front]) (r := strL inner) (by rw [strL, length_map]; show 1 + inner.length < _; exact lt_trans (Nat.add_lt_add_left hin 1) (by decide))) ?_
 refine lf (cat_fit (l := [.str front] ++ strL inner) (r := [.str ends]) (by rw [length_append, strL, length_map]; show 1 + inner.length + 1 < _; exact lt_trans (Nat.add_lt_add_right (Nat.add_lt_add_left hin 1) 1) (by decide))) ?_
 have e : ([V.str front] ++ strL inner) ++ [.str ends] = strL ([front] ++ inner ++ [ends]) := by unfold strL; rw [map_append, map_append]; rfl
 rw [e]
 refine lf (joi_fit (v := .lst _) rfl hj) (el_call hE.len ht hE.hin (lf (put_ans hr hl hc) q))
theorem ju_s8 {QV : V → Oj → Prop} (hr : O[r]? = some (.dI (ansL A))) (nd : (A.map (·.1)).Nodup) (h : (c, t) ∈ A) (q : QV (.int (if t then (0 : Nat) else 1)) (O.take k)) :
 xs (W G3 (n + 34)) ((fBody (stm 22)).drop 8) (juF c r pc front ends text base no hi nu oc re wo inn ne) b (fun f _ O1 => match f with
  | .ret v => Lf (leave k v O1) fun r => QV r (O1.take k)
  | .next => QV .none (O1.take k)
  | _ => False) O := by
 refine lf (idx_ans hr nd h) ?_
 cases t with
 | true => exact q
 | false => exact q
end
structure JuOk (front ends text : List Nat) (ps : List (List Nat × List Nat)) (base no hi c : Nat) (inner : List (List Nat)) : Prop where
 hc : c < 32
 hb : base < 28
 hno : no < 100
 var : varint (octN (c * 2 ^ base) no hi) = some (c * 2 ^ base, [])
 flag : FlagOk (c * 2 ^ base)
 pso : ∀ p ∈ ps, PrOk p.2
 ws : (wordsF (c * 2 ^ base)).length < 300
 inn : innN ps (wordsF (c * 2 ^ base)) = inner
 len : inner.length < 300
 join : joiOk [46, 46, 46] ([front] ++ inner ++ [ends]) = true
 el : ElOk (wantN front inner ends)
 text : text.length < 1000
noncomputable def verdict (front ends text : List Nat) (inner : List (List Nat)) : Bool := ellM (wantN front inner ends) text
theorem ju_call {n b c r pc base no hi : Nat} {O : Oj} {front ends text : List Nat} {Q : V → Oj → Prop} (H : JuOk front ends text ps base no hi c inner) (hpc : O[pc]? = some (.dS (pcD ps))) (hr : O[r]? = some (.dI (ansL A))) (nd : (A.map (·.1)).Nodup) (hl : A.length < 200) (hk : kN c A = none) (hca : c ∉ A.map (·.1))
 (q : Q (.int (if verdict front ends text inner then (0 : Nat) else 1)) (O.set r (.dI (ansL (A ++ [(c, verdict front ends text inner)]))))) :
 CALL (W G3 (n + 80)) (.cst (.ref 163)) [.int c, wV pc front ends text base no hi, .ref r] [] b Q O := by
 have hp : 2 ^ base < 2 ^ 300 := pow_lt_pow_of_lt (by decide) (lt_trans H.hb (by decide))
 have hrl := (List.getElem?_eq_some_iff.mp hr).1
 have hpl := octP_len (c * 2 ^ base) no
 have hno := H.hno
 have hoc : (octP (c * 2 ^ base) no).length < 300 := by exact lt_of_le_of_lt hpl (lt_trans (Nat.add_lt_add_right hno 6) (by decide))
 have hO : O.length ≤ O.length := le_refl _
 have n1 : (O ++ [AObj.iter (intL (octN (c * 2 ^ base) no hi))])[O.length]? = some (.iter (intL (octN (c * 2 ^ base) no hi))) := by rw [getElem?_append_right hO, sub_self]; rfl
 have hne : O.length ≠ r := ne_of_gt hrl
 have hnp : O.length ≠ pc := ne_of_gt (List.getElem?_eq_some_iff.mp hpc).1
 have nd' : ((A ++ [(c, verdict front ends text inner)]).map (·.1)).Nodup := by
  rw [map_append]
  exact nodup_append.mpr ⟨nd, nodup_cons.mpr ⟨not_mem_nil, nodup_nil⟩, fun a ha b hb e => hca ((show a = c from e.trans (mem_singleton.mp hb)) ▸ ha)⟩
 have main : xs (W G3 (n + 79)) ((fBody (stm 22)).drop 1) (juF c r pc front ends text base no hi none none none none none none) O.length (fun f _ O1 => match f with
  | .ret v => Lf (leave O.length v O1) fun r => Q r (O1.take O.length)
  | .next => Q .none (O1.take O.length)
  | _ => False) O := by
  refine stN rfl (ju_s1 (n := n + 49) (lt_trans H.hc (by decide)) (lt_trans H.hb (by decide)) hp (stN rfl (ju_s2 (n := n + 49) hno (stN rfl (ju_s3 (n := n + 49) hoc (stN rfl (ju_s4 (n := n + 45) H.var n1 (by rw [octN, length_map]; exact hoc) H.flag (stN rfl (ju_s5 (n := n + 25) (ws := wordsF (c * 2 ^ base)) (list_new _ _) H.ws (at_app (set_ne (at_app hpc) hnp)) H.pso (stN rfl (ju_s6 (n := n + 45) (A := A) (at_app (iter_set n1)) (at_app (set_ne (at_app hr) hne)) nd (lt_trans hl (by decide)) hk hne (stN rfl ?_))))))))))))
  rw [H.inn]
  refine ju_s7 (n := n + 45) (A := A) (at_app (set_ne (at_app (set_ne (at_app hr) hne)) hne)) (lt_trans hl (by decide)) hca H.len H.join H.el H.text ?_
  refine ju_s8 (n := n + 45) (A := A ++ [(c, verdict front ends text inner)]) (iter_set (at_app (set_ne (at_app (set_ne (at_app hr) hne)) hne))) nd' (mem_append_right _ (mem_cons_self ..)) ?_
  rw [List.take_set, take_append_of_le_length (by rw [length_set, length_append, length_set, length_append]; exact le_trans (le_add_right _ _) (le_add_right _ _)), List.take_set, take_append_of_le_length (by rw [length_set, length_append]; exact le_add_right _ _), List.take_set, take_append_of_le_length (le_refl _), take_length, List.set_eq_of_length_le (le_refl _), List.set_eq_of_length_le (le_refl _)]
  exact q
 exact toC main
end
section
variable {c m lo h k : Nat} {p q mid : List Nat} {Q : Fl → List Fr → Oj → Prop} {f : Nat → Bool} {inner : List (List Nat)} {m0 : Option V}
noncomputable def lmA : Stmt → Arguments
 | .Assign _ (.Lambda a _ _ _) _ => a
 | _ => ⟨[], [], none, [], [], none, []⟩
noncomputable def lmB : Stmt → Expr
 | .Assign _ (.Lambda _ e _ _) _ => e
 | _ => default
noncomputable def lmS : Stmt → Scope
 | .Assign _ (.Lambda _ _ s _) _ => s
 | _ => { kind := .function, names := [], isGenerator := false, isCoroutine := false }
noncomputable def lwFor : Stmt := stAt (fBody (stm 24)) 15
noncomputable def lkS : Stmt := stAt (foB lwFor) 2
noncomputable def lkC (nm : String) (k : Nat) : Clo := ⟨u nm, lmA lkS, lmB lkS, lmS lkS, k⟩
theorem take_set (O : Oj) (k : Nat) (o : AObj) : (O.set k o).take O.length = O.set k o := take_of_length_le (le_of_eq length_set)
noncomputable def cutN (f : Nat → Bool) : List Nat → Nat
 | [a] => if f a = true then 1 else 0
 | [a, b] => if f b = true then 2 else if f a = true then 1 else 0
 | _ => 0
structure LookOk (front ends text : List Nat) (ps : List (List Nat × List Nat)) (base no hi : Nat) (f : Nat → Bool) (A : List (Nat × Bool)) (mid : List Nat) : Prop where
 ju : ∀ c ∈ mid, ∃ inner, JuOk front ends text ps base no hi c inner ∧ verdict front ends text inner = f c
 op : ∀ c ∈ mid, kN c A = none ∧ c ∉ A.map (·.1)
 up : upOk mid = true
 two : mid.length ≤ 2
theorem known_none {c : Nat} (B : List (Nat × Bool)) : ∀ {A : List (Nat × Bool)}, kN c A = none → kN c (A ++ B) = kN c B
 | [], _ => rfl
 | p :: A, h => by
  unfold kN at h
  rw [cons_append]
  show kN c (p :: (A ++ B)) = _
  rw [kN]
  by_cases h1 : p.2 = true ∧ p.1 &&& c = c
  ·rw [if_pos h1] at h; cases h
  ·rw [if_neg h1] at h ⊢
   by_cases h2 : p.2 = false ∧ p.1 &&& c = p.1
   ·rw [if_pos h2] at h; cases h
   ·rw [if_neg h2] at h ⊢; exact known_none B h
theorem known_open {d : Nat} {A : List (Nat × Bool)} (h : kN c A = none) (h1 : c &&& d = c) (h2 : c ≠ d) : kN c (A ++ [(d, false)]) = none := by
 rw [known_none _ h, kN, if_neg (fun z => nomatch z.1), if_neg (fun z => h2 (h1.symm.trans ((Nat.and_comm c d).trans z.2)))]; rfl
theorem half1 (x : Nat) : (x + (x + 1)) / 2 = x := by exact (congrArg (· / 2) ((congrArg (1 + ·) (Nat.mul_two x)).trans (add_comm 1 (x + x))).symm).trans ((Nat.add_mul_div_right 1 x (by decide)).trans (zero_add x))
theorem half2 (x : Nat) : (x + (x + 2)) / 2 = x + 1 := by exact (congrArg (· / 2) ((succ_mul x 2).trans (congrArg (· + 2) (Nat.mul_two x))).symm).trans (Nat.mul_div_cancel (x + 1) (by decide))
theorem at_mid {p m q : List Nat} (k : Nat) (h : m[k]? = some c := by rfl) : (intL (p ++ (m ++ q)))[p.length + k]? = some (.int (c : Nat)) := by
 rw [intL, getElem?_map, getElem?_append_right (le_add_right _ _), Nat.add_sub_cancel_left, getElem?_append_left (List.getElem?_eq_some_iff.mp h).1, h]; rfl
theorem vq' {Q : V → Oj → Prop} {v : V} {O O1 : Oj} (h : O1 = O) (q : Q v O) : Q v O1 := h ▸ q
section
variable {n b r pc base no hi : Nat} {O : Oj} {front ends text : List Nat} {ps : List (List Nat × List Nat)} {a : V} {l : List V} {ad : Addr} {f0 : Fr} {A : List (Nat × Bool)}
theorem items_set {o : List (Int × V)} (h : iO O a = some l) (hr : lA O r = none) : iO (O.set r (.dI o)) a = some l := by
 cases a with
 | ref k =>
  have hk : r ≠ k := fun e => by subst e; exact nomatch hr.symm.trans (show lA O r = some l from h)
  exact at_list (set_ne (list_at h) hk)
 | _ => exact h
theorem lk_bl {f : Nat} {mid : Option V} (hW : getFree [f0] 0 (u "world") = some (wV pc front ends text base no hi)) (hA : getFree [f0] 0 (u "asked") = some (.ref r))
 (ha : iO O a = some l) (hsm : l.length < 300) (hlt : lo < h) (hm : (lo + h) / 2 = m) (hc : l[m]? = some (.int (c : Nat)))
 (H : JuOk front ends text ps base no hi c inner) (hpc : O[pc]? = some (.dS (pcD ps))) (hr : O[r]? = some (.dI (ansL A))) (nd : (A.map (·.1)).Nodup) (hl : A.length < 200) (hk : kN c A = none) (hca : c ∉ A.map (·.1))
 (q1 : verdict front ends text inner = true → whileW (W G3 (n + 100)) (wT blKW) (wB blKW) b Q f [⟨blN, biV a (.int 1) (m + 1) h (.opq ad) (some (.int m)), false, 0, some (lkC "key" 1)⟩, f0] (O.set r (.dI (ansL (A ++ [(c, true)])))))
 (q2 : verdict front ends text inner = false → whileW (W G3 (n + 100)) (wT blKW) (wB blKW) b Q f [⟨blN, biV a (.int 1) lo m (.opq ad) (some (.int m)), false, 0, some (lkC "key" 1)⟩, f0] (O.set r (.dI (ansL (A ++ [(c, false)]))))) :
 whileW (W G3 (n + 100)) (wT blKW) (wB blKW) b Q (f + 1) [⟨blN, biV a (.int 1) lo h (.opq ad) mid, false, 0, some (lkC "key" 1)⟩, f0] O := by
 subst hm
 refine slT (t := decide ((lo : Int) < h)) (decide_eq_true (ofNat_lt.mpr hlt)) ⟨rfl, lf (at_fit (k := (lo + h) / 2) ha hsm hc) (lf hW (lf hA (ju_call H hpc hr nd hl hk hca ?_)))⟩
 rw [take_set]
 cases hv : verdict front ends text inner with
 | true => exact q1 hv
 | false => exact q2 hv
theorem lk_blW (hW : getFree [f0] 0 (u "world") = some (wV pc front ends text base no hi)) (hA : getFree [f0] 0 (u "asked") = some (.ref r))
 (ha : iO O a = some (intL (p ++ (mid ++ q)))) (hsm : (p ++ (mid ++ q)).length < 300) (hpc : O[pc]? = some (.dS (pcD ps))) (hr : O[r]? = some (.dI (ansL A))) (nd : (A.map (·.1)).Nodup) (hl : A.length < 190) (L : LookOk front ends text ps base no hi f A mid) (hra : lA O r = none) (hrp : r ≠ pc)
 (hQ : ∀ h m, Q .next [⟨blN, biV a (.int 1) (p.length + cutN f mid) h (.opq ad) m, false, 0, some (lkC "key" 1)⟩, f0] (O.set r (.dI (ansL (askMid f A mid))))) :
 whileW (W G3 (n + 100)) (wT blKW) (wB blKW) b Q (k + 3) [⟨blN, biV a (.int 1) p.length (p.length + mid.length) (.opq ad) m0, false, 0, some (lkC "key" 1)⟩, f0] O := by
 have done : ∀ {j x : Nat} {m : Option V} {O1 : Oj}, Q .next [⟨blN, biV a (.int 1) x x (.opq ad) m, false, 0, some (lkC "key" 1)⟩, f0] O1 → whileW (W G3 (n + 100)) (wT blKW) (wB blKW) b Q (j + 1) [⟨blN, biV a (.int 1) x x (.opq ad) m, false, 0, some (lkC "key" 1)⟩, f0] O1 := fun {j x m O1} q => slF (t := decide ((x : Int) < x)) (decide_eq_false (lt_irrefl _)) q
 have hsz : (intL (p ++ (mid ++ q))).length < 300 := by rw [intL_length]; exact hsm
 have items : ∀ {o}, iO (O.set r (.dI o)) a = some (intL (p ++ (mid ++ q))) := fun {o} => items_set ha hra
 match mid, L with
 | [], L =>
  refine done ?_
  have := hQ p.length m0
  rwa [show O.set r (.dI (ansL (askMid f A []))) = O from set_self hr] at this
 | [c], L =>
  obtain ⟨inner, J, hv⟩ := L.ju c (mem_cons_self ..)
  have o := L.op c (mem_cons_self ..)
  refine lk_bl (m := p.length) (c := c) hW hA ha hsz (lt_succ_self _) (half1 p.length) (at_mid 0) J hpc hr nd (lt_trans hl (by decide)) o.1 o.2 (fun h => done ?_) fun h => done ?_
  ·have q := hQ (p.length + 1) (some (.int p.length))
   have e : f c = true := hv.symm.trans h
   have e2 : askMid f A [c] = A ++ [(c, true)] := congrArg (fun t => A ++ [(c, t)]) e
   have e3 : cutN f [c] = 1 := if_pos e
   rw [e2, e3] at q
   exact q
  ·have q := hQ p.length (some (.int p.length))
   have e : f c = false := hv.symm.trans h
   have e2 : askMid f A [c] = A ++ [(c, false)] := congrArg (fun t => A ++ [(c, t)]) e
   have e3 : cutN f [c] = 0 := if_neg (fun z => Bool.false_ne_true (e.symm.trans z))
   rw [e2, e3] at q
   exact q
 | [c, d], L =>
  obtain ⟨inner, J, hv⟩ := L.ju d (mem_cons_of_mem _ (mem_cons_self ..))
  have o := L.op d (mem_cons_of_mem _ (mem_cons_self ..))
  refine lk_bl (m := p.length + 1) (c := d) hW hA ha hsz (Nat.lt_add_of_pos_right (show 0 < 2 by decide)) (half2 p.length) (at_mid 1) J hpc hr nd (lt_trans hl (by decide)) o.1 o.2 (fun h => done ?_) fun h => ?_
  ·have q := hQ (p.length + 2) (some (.int (p.length + 1 : Nat)))
   have e : f d = true := hv.symm.trans h
   have e2 : askMid f A [c, d] = A ++ [(d, true)] := (if_pos e).trans (congrArg (fun t => A ++ [(d, t)]) e)
   have e3 : cutN f [c, d] = 2 := if_pos e
   rw [e2, e3] at q
   exact q
  ·obtain ⟨inner', J', hv'⟩ := L.ju c (mem_cons_self ..)
   have o' := L.op c (mem_cons_self ..)
   have e : f d = false := hv.symm.trans h
   have hcd : c &&& d = c ∧ c ≠ d := by
    have z := (and_eq_true_iff.mp (and_eq_true_iff.mp (show (decide (c &&& d = c) && decide (c ≠ d) && upOk [d]) = true from L.up)).1)
    exact ⟨of_decide_eq_true z.1, of_decide_eq_true z.2⟩
   refine lk_bl (m := p.length) (c := c) hW hA items hsz (lt_succ_self _) (half1 p.length) (at_mid 0) J' (set_ne hpc hrp) (iter_set hr) (nodup_snoc nd o.2) (by rw [length_append]; exact lt_of_lt_of_le (Nat.add_lt_add_right hl 1) (by decide)) (known_open o'.1 hcd.1 hcd.2) (fun z => ?_) (fun h2 => done ?_) fun h2 => done ?_
   ·rw [map_append] at z
    rcases mem_append.mp z with z | z
    ·exact o'.2 z
    ·exact hcd.2 (mem_singleton.mp z)
   ·have q := hQ (p.length + 1) (some (.int p.length))
    have e' : f c = true := hv'.symm.trans h2
    have e2 : askMid f A [c, d] = A ++ [(d, false)] ++ [(c, true)] := (if_neg (fun z => Bool.false_ne_true (e.symm.trans z))).trans ((congr (congrArg (fun t t' => A ++ [(d, t), (c, t')]) e) e').trans (append_assoc A [_] [_]).symm)
    have e3 : cutN f [c, d] = 1 := (if_neg (fun z => Bool.false_ne_true (e.symm.trans z))).trans (if_pos e')
    rw [e2, e3] at q
    rw [set_set]
    exact q
   ·have q := hQ p.length (some (.int p.length))
    have e' : f c = false := hv'.symm.trans h2
    have e2 : askMid f A [c, d] = A ++ [(d, false)] ++ [(c, false)] := (if_neg (fun z => Bool.false_ne_true (e.symm.trans z))).trans ((congr (congrArg (fun t t' => A ++ [(d, t), (c, t')]) e) e').trans (append_assoc A [_] [_]).symm)
    have e3 : cutN f [c, d] = 0 := (if_neg (fun z => Bool.false_ne_true (e.symm.trans z))).trans (if_neg (fun z => Bool.false_ne_true (e'.symm.trans z)))
    rw [e2, e3] at q
    rw [set_set]
    exact q
 | c :: d :: e :: _, L => exact absurd L.two (by simp)
theorem lk_bl_call {Q : V → Oj → Prop} (hW : getFree [f0] 0 (u "world") = some (wV pc front ends text base no hi)) (hA : getFree [f0] 0 (u "asked") = some (.ref r)) (hlk : topGet [f0] (u "look") = some (.opq ad))
 (ha : iO O a = some (intL (p ++ (mid ++ q)))) (hsm : (p ++ (mid ++ q)).length < 300) (hpc : O[pc]? = some (.dS (pcD ps))) (hr : O[r]? = some (.dI (ansL A))) (nd : (A.map (·.1)).Nodup) (hl : A.length < 190) (L : LookOk front ends text ps base no hi f A mid) (hra : lA O r = none) (hrp : r ≠ pc)
 (hQ : Q (.int (p.length + cutN f mid : Nat)) (O.set r (.dI (ansL (askMid f A mid))))) :
 CALLK (W G3 (n + 110)) (.cst (.ref 50)) [a, .int 1, .int (p.length : Nat), .int (p.length + mid.length : Nat)] [(u "key", .opq ad)] (u "key") (lkC "look" 0) [f0] b Q O := by
 refine ⟨⟨hlk.symm, ?_⟩⟩
 refine (toW (lk_blW (n := n + 7) (k := 297) hW hA ha hsm hpc hr nd hl L hra hrp fun h m => ⟨rfl, ?_⟩))
 exact vq' (take_set _ _ _) hQ
theorem lk_br {f : Nat} {mid : Option V} (hW : getFree [f0] 0 (u "world") = some (wV pc front ends text base no hi)) (hA : getFree [f0] 0 (u "asked") = some (.ref r))
 (ha : iO O a = some l) (hsm : l.length < 300) (hlt : lo < h) (hm : (lo + h) / 2 = m) (hc : l[m]? = some (.int (c : Nat)))
 (H : JuOk front ends text ps base no hi c inner) (hpc : O[pc]? = some (.dS (pcD ps))) (hr : O[r]? = some (.dI (ansL A))) (nd : (A.map (·.1)).Nodup) (hl : A.length < 200) (hk : kN c A = none) (hca : c ∉ A.map (·.1))
 (q1 : verdict front ends text inner = true → whileW (W G3 (n + 100)) (wT brKW) (wB brKW) b Q f [⟨brN, biV a (.int 0) (m + 1) h (.opq ad) (some (.int m)), false, 0, some (lkC "key" 1)⟩, f0] (O.set r (.dI (ansL (A ++ [(c, true)])))))
 (q2 : verdict front ends text inner = false → whileW (W G3 (n + 100)) (wT brKW) (wB brKW) b Q f [⟨brN, biV a (.int 0) lo m (.opq ad) (some (.int m)), false, 0, some (lkC "key" 1)⟩, f0] (O.set r (.dI (ansL (A ++ [(c, false)]))))) :
 whileW (W G3 (n + 100)) (wT brKW) (wB brKW) b Q (f + 1) [⟨brN, biV a (.int 0) lo h (.opq ad) mid, false, 0, some (lkC "key" 1)⟩, f0] O := by
 subst hm
 refine slT (t := decide ((lo : Int) < h)) (decide_eq_true (ofNat_lt.mpr hlt)) ⟨rfl, lf (at_fit (k := (lo + h) / 2) ha hsm hc) (lf hW (lf hA (ju_call H hpc hr nd hl hk hca ?_)))⟩
 rw [take_set]
 cases hv : verdict front ends text inner with
 | true => exact q1 hv
 | false => exact q2 hv
theorem lk_brW (hW : getFree [f0] 0 (u "world") = some (wV pc front ends text base no hi)) (hA : getFree [f0] 0 (u "asked") = some (.ref r))
 (ha : iO O a = some (intL (p ++ (mid ++ q)))) (hsm : (p ++ (mid ++ q)).length < 300) (hpc : O[pc]? = some (.dS (pcD ps))) (hr : O[r]? = some (.dI (ansL A))) (nd : (A.map (·.1)).Nodup) (hl : A.length < 190) (L : LookOk front ends text ps base no hi f A mid) (hra : lA O r = none) (hrp : r ≠ pc)
 (hQ : ∀ h m, Q .next [⟨brN, biV a (.int 0) (p.length + cutN f mid) h (.opq ad) m, false, 0, some (lkC "key" 1)⟩, f0] (O.set r (.dI (ansL (askMid f A mid))))) :
 whileW (W G3 (n + 100)) (wT brKW) (wB brKW) b Q (k + 3) [⟨brN, biV a (.int 0) p.length (p.length + mid.length) (.opq ad) m0, false, 0, some (lkC "key" 1)⟩, f0] O := by
 have done : ∀ {j x : Nat} {m : Option V} {O1 : Oj}, Q .next [⟨brN, biV a (.int 0) x x (.opq ad) m, false, 0, some (lkC "key" 1)⟩, f0] O1 → whileW (W G3 (n + 100)) (wT brKW) (wB brKW) b Q (j + 1) [⟨brN, biV a (.int 0) x x (.opq ad) m, false, 0, some (lkC "key" 1)⟩, f0] O1 := fun {j x m O1} q => slF (t := decide ((x : Int) < x)) (decide_eq_false (lt_irrefl _)) q
 have hsz : (intL (p ++ (mid ++ q))).length < 300 := by rw [intL_length]; exact hsm
 have items : ∀ {o}, iO (O.set r (.dI o)) a = some (intL (p ++ (mid ++ q))) := fun {o} => items_set ha hra
 match mid, L with
 | [], L =>
  refine done ?_
  have := hQ p.length m0
  rwa [show O.set r (.dI (ansL (askMid f A []))) = O from set_self hr] at this
 | [c], L =>
  obtain ⟨inner, J, hv⟩ := L.ju c (mem_cons_self ..)
  have o := L.op c (mem_cons_self ..)
  refine lk_br (m := p.length) (c := c) hW hA ha hsz (lt_succ_self _) (half1 p.length) (at_mid 0) J hpc hr nd (lt_trans hl (by decide)) o.1 o.2 (fun h => done ?_) fun h => done ?_
  ·have q := hQ (p.length + 1) (some (.int p.length))
   have e : f c = true := hv.symm.trans h
   have e2 : askMid f A [c] = A ++ [(c, true)] := congrArg (fun t => A ++ [(c, t)]) e
   have e3 : cutN f [c] = 1 := if_pos e
   rw [e2, e3] at q
   exact q
  ·have q := hQ p.length (some (.int p.length))
   have e : f c = false := hv.symm.trans h
   have e2 : askMid f A [c] = A ++ [(c, false)] := congrArg (fun t => A ++ [(c, t)]) e
   have e3 : cutN f [c] = 0 := if_neg (fun z => Bool.false_ne_true (e.symm.trans z))
   rw [e2, e3] at q
   exact q
 | [c, d], L =>
  obtain ⟨inner, J, hv⟩ := L.ju d (mem_cons_of_mem _ (mem_cons_self ..))
  have o := L.op d (mem_cons_of_mem _ (mem_cons_self ..))
  refine lk_br (m := p.length + 1) (c := d) hW hA ha hsz (Nat.lt_add_of_pos_right (show 0 < 2 by decide)) (half2 p.length) (at_mid 1) J hpc hr nd (lt_trans hl (by decide)) o.1 o.2 (fun h => done ?_) fun h => ?_
  ·have q := hQ (p.length + 2) (some (.int (p.length + 1 : Nat)))
   have e : f d = true := hv.symm.trans h
   have e2 : askMid f A [c, d] = A ++ [(d, true)] := (if_pos e).trans (congrArg (fun t => A ++ [(d, t)]) e)
   have e3 : cutN f [c, d] = 2 := if_pos e
   rw [e2, e3] at q
   exact q
  ·obtain ⟨inner', J', hv'⟩ := L.ju c (mem_cons_self ..)
   have o' := L.op c (mem_cons_self ..)
   have e : f d = false := hv.symm.trans h
   have hcd : c &&& d = c ∧ c ≠ d := by
    have z := (and_eq_true_iff.mp (and_eq_true_iff.mp (show (decide (c &&& d = c) && decide (c ≠ d) && upOk [d]) = true from L.up)).1)
    exact ⟨of_decide_eq_true z.1, of_decide_eq_true z.2⟩
   refine lk_br (m := p.length) (c := c) hW hA items hsz (lt_succ_self _) (half1 p.length) (at_mid 0) J' (set_ne hpc hrp) (iter_set hr) (nodup_snoc nd o.2) (by rw [length_append]; exact lt_of_lt_of_le (Nat.add_lt_add_right hl 1) (by decide)) (known_open o'.1 hcd.1 hcd.2) (fun z => ?_) (fun h2 => done ?_) fun h2 => done ?_
   ·rw [map_append] at z
    rcases mem_append.mp z with z | z
    ·exact o'.2 z
    ·exact hcd.2 (mem_singleton.mp z)
   ·have q := hQ (p.length + 1) (some (.int p.length))
    have e' : f c = true := hv'.symm.trans h2
    have e2 : askMid f A [c, d] = A ++ [(d, false)] ++ [(c, true)] := (if_neg (fun z => Bool.false_ne_true (e.symm.trans z))).trans ((congr (congrArg (fun t t' => A ++ [(d, t), (c, t')]) e) e').trans (append_assoc A [_] [_]).symm)
    have e3 : cutN f [c, d] = 1 := (if_neg (fun z => Bool.false_ne_true (e.symm.trans z))).trans (if_pos e')
    rw [e2, e3] at q
    rw [set_set]
    exact q
   ·have q := hQ p.length (some (.int p.length))
    have e' : f c = false := hv'.symm.trans h2
    have e2 : askMid f A [c, d] = A ++ [(d, false)] ++ [(c, false)] := (if_neg (fun z => Bool.false_ne_true (e.symm.trans z))).trans ((congr (congrArg (fun t t' => A ++ [(d, t), (c, t')]) e) e').trans (append_assoc A [_] [_]).symm)
    have e3 : cutN f [c, d] = 0 := (if_neg (fun z => Bool.false_ne_true (e.symm.trans z))).trans (if_neg (fun z => Bool.false_ne_true (e'.symm.trans z)))
    rw [e2, e3] at q
    rw [set_set]
    exact q
 | c :: d :: e :: _, L => exact absurd L.two (by simp)
theorem lk_br_call {Q : V → Oj → Prop} (hW : getFree [f0] 0 (u "world") = some (wV pc front ends text base no hi)) (hA : getFree [f0] 0 (u "asked") = some (.ref r)) (hlk : topGet [f0] (u "look") = some (.opq ad))
 (ha : iO O a = some (intL (p ++ (mid ++ q)))) (hsm : (p ++ (mid ++ q)).length < 300) (hpc : O[pc]? = some (.dS (pcD ps))) (hr : O[r]? = some (.dI (ansL A))) (nd : (A.map (·.1)).Nodup) (hl : A.length < 190) (L : LookOk front ends text ps base no hi f A mid) (hra : lA O r = none) (hrp : r ≠ pc)
 (hQ : Q (.int (p.length + cutN f mid : Nat)) (O.set r (.dI (ansL (askMid f A mid))))) :
 CALLK (W G3 (n + 110)) (.cst (.ref 32)) [a, .int 0, .int (p.length : Nat), .int (p.length + mid.length : Nat)] [(u "key", .opq ad)] (u "key") (lkC "look" 0) [f0] b Q O := by
 refine ⟨⟨hlk.symm, ?_⟩⟩
 refine (toW (lk_brW (n := n + 7) (k := 297) hW hA ha hsm hpc hr nd hl L hra hrp fun h m => ⟨rfl, ?_⟩))
 exact vq' (take_set _ _ _) hQ
end
end
section
variable {l : List Nat} {b m k n rc ro bottom c a : Nat} {O O1 : Oj} {ch go pl : Option V} {Q : Fl → List Fr → Oj → Prop} {pa p1 p2 p3 : Pos} {L : List (List Nat)}
theorem intsV_intL : ∀ l : List Nat, intsV (intL l) = some (l.map fun (c : Nat) => (c : Int))
 | [] => rfl
 | _ :: l => congrArg (map _) (intsV_intL l)
theorem sum_nats : ∀ l : List Nat, (l.map fun (c : Nat) => (c : Int)).sum = ((l.sum : Nat) : Int)
 | [] => rfl
 | c :: l => by rw [map_cons, sum_cons, sum_nats l, sum_cons]; rfl
theorem sum_fit {v : V} (h : iO O v = some (intL l)) (hs : l.length < 300) (hb : l.sum < 2 ^ 62) : callB (u "sum") [v] b O = some (.int (l.sum : Nat), O) := by
 have e : callB (u "sum") [v] b O = (iO O v).bind fun l => (intsV l).bind fun is => if is.all (fun i => decide (0 ≤ i)) && decide (is.sum.toNat < 2 ^ 62) && lO l.length then some (V.int is.sum, O) else none := by kernel_rfl!
 rw [e, h, Option.bind_some, intsV_intL, Option.bind_some, sum_nats]
 refine if_pos (and_eq_true_iff.mpr ⟨and_eq_true_iff.mpr ⟨all_eq_true.mpr fun i hi => ?_, decide_eq_true hb⟩, lenOk_3 (by rw [intL_length]; exact hs)⟩)
 obtain ⟨c, _, rfl⟩ := mem_map.mp hi
 exact decide_eq_true (natCast_nonneg c)
noncomputable def opStep (bottom : Nat) (s : List Nat × Bool) (k : Nat) : List Nat × Bool := if bottom / 2 ^ k % 2 = 0 then (s.1 ++ [k], s.2) else if s.1 = [] then (s.1, false) else (s.1.dropLast, s.2)
noncomputable def opAll (bottom : Nat) : List Nat × Bool := [0, 1, 2, 3, 4].foldl (opStep bottom) ([], true)
noncomputable def chainOf (bottom : Nat) (op : List Nat) : List Nat := (List.range (op.length + 1)).map fun k => bottom + ((op.take k).map (2 ^ ·)).sum
noncomputable def chainV (c : List Nat) : V := .lst (intL c)
noncomputable def lensL (L : List (List Nat)) : List Int := L.map fun c => (c.length : Int)
noncomputable def insCh (L : List (List Nat)) (c : List Nat) : List (List Nat) :=
 let p := if L.length % 2 = 1 then blR (lensL L) c.length L.length 0 L.length else brR (lensL L) c.length L.length 0 L.length
 L.take p ++ c :: L.drop p
noncomputable def chStep (L : List (List Nat)) (bottom : Nat) : List (List Nat) := if (opAll bottom).2 then insCh L (chainOf bottom (opAll bottom).1) else L
theorem chains_is : (List.range 32).foldl chStep [] = chainsL := by decide +kernel
noncomputable def chF : Stmt := stAt (fBody (stm 20)) 1
noncomputable def ciF : Stmt := stAt (foB chF) 1
noncomputable def chN : Names := (fScope (stm 20)).names
noncomputable def chFr (rc : Nat) (bo op go pl ch : Option V) : List Fr := [⟨chN, [(u "chains", some (.ref rc)), (u "bottom", bo), (u "opened", op), (u "good", go), (u "place", pl), (u "chain", ch)], false, 0, none⟩]
theorem eq_nil (h : lA O m = some (intL l)) : cmpV G3 O .Eq (.ref m) (.lst []) = some (decide (l = [])) := by
 show (lA O m).bind _ = _
 rw [h]
 cases l <;> rfl
theorem pop_fit (h : lA O k = some (intL l)) (hs : l.length < 300) (hn : l ≠ []) : ∃ x : Nat, methV G3 (u "pop") (.ref k) [] b O = some (.int x, O.set k (.list (intL l.dropLast))) := by
 have hlt : l.length - 1 < l.length := Nat.sub_lt (List.length_pos_iff.mpr hn) (by decide)
 refine ⟨l[l.length - 1], bs (f := fun l => methL (u "pop") k l [] b O) h ?_⟩
 show ((intL l)[(intL l).length - 1]?).bind _ = _
 have e : (intL l)[(intL l).length - 1]? = some (.int (l[l.length - 1] : Nat)) := by rw [intL_length, intL, getElem?_map, getElem?_eq_getElem hlt]; rfl
 rw [e, Option.bind_some, if_pos (lenOk_3 (by rw [intL_length]; exact hs)), intL_length]
 have e2 : (intL l).eraseIdx (l.length - 1) = intL l.dropLast := by
  rw [intL, ← length_map (as := l) fun c => V.int (c : Nat), List.eraseIdx_length_sub_one, ← List.map_dropLast]; rfl
 rw [e2]
theorem opStep_len (bottom : Nat) (s : List Nat × Bool) (k : Nat) : (opStep bottom s k).1.length ≤ s.1.length + 1 := by
 unfold opStep
 split
 ·rw [length_append]; exact le_refl _
 ·split
  ·exact le_succ _
  ·rw [List.length_dropLast]; exact le_trans (sub_le ..) (le_succ _)
theorem ch_in (hb : b ≤ ro) (ks : List Nat) : ∀ (f : Nat) (s : List Nat × Bool) (O1 : Oj) (pl : Option V), (∀ k ∈ ks, k < 5) → ks.length < f → s.1.length + ks.length < 100 → lA O1 ro = some (intL s.1) →
 (∀ pl, Q .next (chFr rc (some (.int bottom)) (some (.ref ro)) (some (.bool (ks.foldl (opStep bottom) s).2)) pl ch) (O1.set ro (.list (intL (ks.foldl (opStep bottom) s).1)))) →
 forW (W G3 (n + 30)) (foT ciF) (foB ciF) (foE ciF) b Q f (.items (rngL ks)) (chFr rc (some (.int bottom)) (some (.ref ro)) (some (.bool s.2)) pl ch) O1 := by
 induction ks with
 | nil =>
  intro f s O1 pl hks hf hl hr q
  cases f with
  | zero => exact absurd hf (not_lt_zero _)
  | succ f =>
   have q := q pl
   rw [show O1.set ro (.list (intL (List.foldl (opStep bottom) s []).1)) = O1 from set_self (list_at hr)] at q
   exact q
 | cons k ks ih =>
  intro f s O1 pl hks hf hl hr q
  replace hl : s.1.length + (ks.length + 1) < 100 := hl
  cases f with
  | zero => exact absurd hf (not_lt_zero _)
  | succ f =>
   have hk := hks k (mem_cons_self ..)
   have hp0 : 0 < 2 ^ k := pow_pos (by decide)
   have hp1 : 2 ^ k < 2 ^ 300 := pow_lt_pow_of_lt (by decide) (lt_trans hk (by decide))
   have hs : s.1.length < 300 := by exact lt_trans (lt_of_le_of_lt (le_add_right _ _) hl) (by decide)
   have go := fun s' O2 (e : opStep bottom s k = s') (hr' : lA O2 ro = some (intL s'.1)) (h2 : ∀ x, O2.set ro x = O1.set ro x) => ih f s' O2 (some (.int (k : Nat))) (fun j hj => hks j (mem_cons_of_mem _ hj)) (lt_of_succ_lt_succ hf) (by have := opStep_len bottom s k; rw [e] at this; exact lt_of_le_of_lt (add_le_add_right this _) (lt_of_le_of_lt (le_of_eq (succ_add _ _)) hl)) hr' fun pl => by rw [h2, ← e]; exact q pl
   refine lf (pow_fit (d := 2) rfl (lt_trans hk (by decide))) (lf (div_fit hp0 hp1) (sd (p := (((bottom / 2 ^ k : Nat) : Int) % 2 = 0)) (fun h => ?_) fun h => ?_))
   ·have h : bottom / 2 ^ k % 2 = 0 := ofNat.inj h
    refine lf (self_l hr rfl) (lf (append_fit hr (by rw [intL_length]; exact hs) (low_ok hb)) ?_)
    have e : opStep bottom s k = (s.1 ++ [k], s.2) := if_pos h
    have e2 : intL s.1 ++ [.int (k : Nat)] = intL (s.1 ++ [k]) := by rw [intL_append]; rfl
    rw [e2]
    exact go (s.1 ++ [k], s.2) _ e (list_set hr) fun x => set_set _
   ·have h : ¬ bottom / 2 ^ k % 2 = 0 := fun z => h (congrArg ofNat z)
    refine lf (eq_nil hr) (sd (p := s.1 = []) (fun h2 => ?_) fun h2 => ?_)
    ·exact go (s.1, false) O1 ((if_neg h).trans (if_pos h2)) hr fun x => rfl
    ·obtain ⟨x, hx⟩ := pop_fit (b := b) hr hs h2
     refine lf (self_l hr rfl) (lf hx ?_)
     exact go (s.1.dropLast, s.2) _ ((if_neg h).trans (if_neg h2)) (list_set hr) fun x => set_set _
noncomputable def len0A (p : Pos) : Arguments := ⟨[], [⟨u "one", none, p⟩], none, [], [], none, []⟩
noncomputable def len0B (p1 p2 p3 : Pos) : Expr := .Call (.Name (u "len") p1) [.Name (u "one") p2] [] p3
noncomputable def len0S : Scope := { kind := .function, names := [(u "one", .local), (u "len", .globalImplicit)], isGenerator := false, isCoroutine := false }
theorem lenK {Q : V → Oj → Prop} (h : l.length < 300) (q : Q (.int (l.length : Nat)) O) : CALL (W G3 (m + 8)) (.lam (len0A pa) (len0B p1 p2 p3) len0S) [chainV l] [] c Q O := by
 refine toC (lf (len_fit (v := chainV l) (l := intL l) rfl (by rw [intL_length]; exact h)) ?_)
 rw [intL_length]
 exact tk (Q := Q) q
theorem lenP (hL : ∀ l ∈ L, l.length < 300) : ∀ i v, (L.map chainV)[i]? = some v → ∀ {m c O Q}, Q (.int ((lensL L).getD i 0)) O → CALL (W G3 (m + 8)) (.lam (len0A pa) (len0B p1 p2 p3) len0S) [v] [] c Q O := by
 intro i v h m c O Q q
 unfold lensL at q
 rw [getD_eq_getElem?_getD, getElem?_map] at q
 rw [getElem?_map] at h
 cases hl : L[i]? with
 | none => rw [hl] at h; cases h
 | some a =>
  rw [hl] at h q
  cases h
  exact lenK (hL a (mem_of_getElem? hl)) q
theorem chain_pure (c : List Nat) : (chainV c).pure = true := pures_intL c
theorem intOk_lt (h : a < 1000000) : intOk (a : Nat) = true := intOk_nat (lt_trans h (by decide))
theorem range1_fit {i : Int} (e : i = (a : Nat)) (h : a < 1000000) : callY (u "range") [.int i] b O = some (.rng 0 (a : Nat) 1, O) := by
 subst e
 exact (show callY (u "range") [.int (a : Nat)] b O = (if intOk (a : Nat) then some (.rng 0 (a : Nat) 1, O) else none) by kernel_rfl!).trans (if_pos (intOk_lt h))
theorem rangeL_two (a c : Nat) : rangeL a c 1 = (range' a (c - a)).map fun (k : Nat) => (k : Int) := by
 rw [rangeL, rsz, List.range'_eq_map_range, map_map]
 exact map_congr_left fun k _ => congrArg ((a : Int) + ·) (Int.mul_one k)
theorem rng_ok (ha : a < 1000000) (hc : c < 1000000) : rngOk a c 1 = true := or_eq_true_iff.mpr (.inl (and_eq_true_iff.mpr ⟨and_eq_true_iff.mpr ⟨decide_eq_true (lt_trans ha (by decide)), decide_eq_true (lt_trans hc (by decide))⟩, rfl⟩))
theorem src2_fit (ha : a < 1000000) (h : c < 1000000) : srcOf O (.rng (a : Nat) (c : Nat) 1) = some (.items (rngL (range' a (c - a)))) := by
 have e : srcOf O (.rng (a : Nat) (c : Nat) 1) = if rngOk a c 1 && lO (rangeL a c 1).length then some (.items ((rangeL a c 1).map .int)) else none := by kernel_rfl!
 rw [e, rng_ok ha h, rangeL_two, length_map, List.length_range', map_map]
 exact if_pos (and_eq_true_iff.mpr ⟨rfl, lenOk_of (lt_of_le_of_lt (sub_le _ _) h)⟩)
theorem src1_fit (h : a < 1000000) : srcOf O (.rng 0 (a : Nat) 1) = some (.items (rngL (List.range a))) := by
 have e := src2_fit (a := 0) (c := a) (O := O) (by decide) h
 rwa [sub_zero, ← List.range_eq_range'] at e
theorem sum_cap {c : Nat} : ∀ {l : List Nat}, (∀ x ∈ l, x ≤ c) → l.sum ≤ l.length * c
 | [], _ => zero_le _
 | x :: l, h => by
  rw [sum_cons, length_cons, succ_mul, add_comm]
  exact add_le_add (sum_cap fun y hy => h y (mem_cons_of_mem _ hy)) (h x (mem_cons_self ..))
theorem ch_new {op : List Nat} (hr : lA O1 ro = some (intL op)) (hop : op.length ≤ 5) (h5 : ∀ k ∈ op, k < 5) (q : Q .next (chFr rc (some (.int bottom)) (some (.ref ro)) go pl (some (chainV (chainOf bottom op)))) O1) :
 (W G3 (n + 40)).s (stAt (ifX (stAt (foB chF) 2)) 0) (chFr rc (some (.int bottom)) (some (.ref ro)) go pl ch) b Q O1 := by
 have e : ((List.range (op.length + 1)).map fun k => V.int ((bottom + ((op.take k).map (2 ^ ·)).sum : Nat) : Int)) = intL (chainOf bottom op) := by unfold intL chainOf; rw [map_map]; rfl
 have hop' : op.length + 1 < 300 := lt_of_le_of_lt (succ_le_succ hop) (by decide)
 refine lf (len_fit hr (by rw [intL_length]; exact lt_of_succ_lt hop')) ?_
 refine lf (range1_fit (a := op.length + 1) (by rw [intL_length]; rfl) (lt_trans hop' (by decide))) (lf (src1_fit (lt_trans hop' (by decide))) (lcm (List.range (op.length + 1)) (FRi _ _ "k") (fun k => .int ((bottom + ((op.take k).map (2 ^ ·)).sum : Nat) : Int)) (fun (k : Nat) => .int k) (.items _) (fun _ _ => rfl) (fun k hk acc K1 K2 k1 k2 => ?_) (by rw [length_range]; exact hop') (pures_i _ _) ?_))
 ·have hk' : k ≤ op.length := le_of_lt_succ (mem_range.mp hk)
  have e2 : ((op.take k).map fun p => V.int ((2 ^ p : Nat) : Int)) = intL ((op.take k).map (2 ^ ·)) := by unfold intL; rw [map_map]; rfl
  have hlt : (op.take k).length < 300 := by rw [length_take]; exact lt_of_le_of_lt (le_trans (min_le_right _ _) hop) (by decide)
  refine lf (to_fit (l := intL op) (listAt_app hr) (by rw [intL_length]; exact lt_of_succ_lt hop') (by rw [intL_length]; exact hk')) ?_
  rw [show (intL op).take k = intL (op.take k) from List.map_take.symm]
  refine lcm (op.take k) (FRi _ _ "place") (fun p => .int ((2 ^ p : Nat) : Int)) (fun (p : Nat) => .int p) (.items _) (fun _ _ => rfl) (fun p hp acc K1 K2 k1 k2 => lf (pow_fit (d := 2) rfl (lt_trans (h5 p (mem_of_mem_take hp)) (by decide))) (k1 rfl)) hlt (pures_i _ _) ?_
  rw [e2]
  refine lf (sum_fit (v := .lst _) rfl (by rw [length_map]; exact hlt) ?_) (k1 rfl)
  refine lt_of_le_of_lt (sum_cap (c := 16) fun x hx => ?_) (lt_of_le_of_lt (Nat.mul_le_mul_right 16 (by rw [length_map]; exact le_of_lt hlt)) (show 300 * 16 < 2 ^ 62 by decide))
  obtain ⟨p, hp, rfl⟩ := mem_map.mp hx
  exact Nat.pow_le_pow_right (by decide) (le_of_lt_succ (h5 p (mem_of_mem_take hp)))
 ·rw [e]; exact q
theorem opAll_ok (bottom : Nat) : (opAll bottom).1.length ≤ 5 ∧ ∀ k ∈ (opAll bottom).1, k < 5 := by
 have go : ∀ (ks : List Nat) (s : List Nat × Bool), (∀ k ∈ ks, k < 5) → (∀ k ∈ s.1, k < 5) → (ks.foldl (opStep bottom) s).1.length ≤ s.1.length + ks.length ∧ ∀ k ∈ (ks.foldl (opStep bottom) s).1, k < 5 := by
  intro ks
  induction ks with
  | nil => exact fun s _ h => ⟨le_refl _, h⟩
  | cons k ks ih =>
   intro s hk hs
   have h1 := opStep_len bottom s k
   have h2 := ih (opStep bottom s k) (fun j hj => hk j (mem_cons_of_mem _ hj)) fun j hj => by
    unfold opStep at hj
    split at hj
    ·rcases mem_append.mp hj with hj | hj
     ·exact hs j hj
     ·rw [mem_singleton.mp hj]; exact hk k (mem_cons_self ..)
    ·split at hj
     ·exact hs j hj
     ·exact hs j ((List.dropLast_sublist _).mem hj)
   exact ⟨le_trans h2.1 (by rw [length_cons]; exact le_trans (add_le_add_right h1 _) (le_of_eq (succ_add _ _))), h2.2⟩
 exact go [0, 1, 2, 3, 4] ([], true) (by decide) fun k hk => nomatch hk
theorem map_ins (L : List (List Nat)) (c : List Nat) (p : Nat) : (L.map chainV).take p ++ chainV c :: (L.map chainV).drop p = (L.take p ++ c :: L.drop p).map chainV := by rw [← List.map_take, ← List.map_drop, map_append]; rfl
theorem ch_turn {op : Option V} (hL : ∀ l ∈ L, l.length < 300) (hl : L.length < 200) (hc : lA O1 rc = some (L.map chainV)) (hO : O1.take O.length = O) (hb : O.length ≤ rc) (hlen : O.length = b)
 (q : ∀ op go pl ch O2, lA O2 rc = some ((chStep L bottom).map chainV) → O2.take O.length = O → Q .next (chFr rc (some (.int bottom)) op go pl ch) O2) :
 xs (W G3 (n + 60)) ((foB chF).drop 0) (chFr rc (some (.int bottom)) op go pl ch) b Q O1 := by
 have hrc := (List.getElem?_eq_some_iff.mp (list_at hc)).1
 have hOl : O.length ≤ O1.length := le_trans hb (le_of_lt hrc)
 obtain ⟨ho1, ho2⟩ := opAll_ok bottom
 have hlc : (L.map chainV).length < 300 := by rw [length_map]; exact lt_trans hl (by decide)
 have hch : (chainOf bottom (opAll bottom).1).length < 300 := by unfold chainOf; rw [length_map, length_range]; exact lt_of_le_of_lt (succ_le_succ ho1) (by decide)
 refine stN rfl ?_
 show xs (W G3 (n + 60)) ((foB chF).drop 1) (chFr rc (some (.int bottom)) (some (.ref O1.length)) (some (.bool true)) pl ch) b Q (O1 ++ [AObj.list (intL [])])
 refine stN rfl (toF ?_)
 refine ch_in (n := n + 29) (ro := O1.length) (hlen ▸ hOl) [0, 1, 2, 3, 4] 300 ([], true) _ pl (by decide) (by decide) (by decide) (list_new O1 _) fun pl => ?_
 show xs (W G3 (n + 60)) ((foB chF).drop 2) (chFr rc (some (.int bottom)) (some (.ref O1.length)) (some (.bool (opAll bottom).2)) pl ch) b Q ((O1 ++ [AObj.list (intL [])]).set O1.length (AObj.list (intL (opAll bottom).1)))
 have hx : (O1 ++ [AObj.list (intL [])]).set O1.length (.list (intL (opAll bottom).1)) = O1 ++ [AObj.list (intL (opAll bottom).1)] := by rw [List.set_append_right _ _ (le_refl _), sub_self]; rfl
 rw [hx]
 have hr2 : lA (O1 ++ [AObj.list (intL (opAll bottom).1)]) O1.length = some (intL (opAll bottom).1) := list_new O1 _
 have hc2 : lA (O1 ++ [AObj.list (intL (opAll bottom).1)]) rc = some (L.map chainV) := listAt_app hc
 have ht2 : (O1 ++ [AObj.list (intL (opAll bottom).1)]).take O.length = O := (take_append_of_le_length hOl).trans hO
 have fin : ∀ {x : AObj}, ((O1 ++ [AObj.list (intL (opAll bottom).1)]).set rc x).take O.length = O := fun {x} => set_take ht2 hb
 refine stN rfl (sl (t := (opAll bottom).2) (fun hg => ?_) fun hg => ?_)
 rotate_left
 ·exact q _ _ _ _ _ (by rw [chStep, hg]; exact hc2) ht2
 ·refine ch_new (n := n + 19) hr2 ho1 ho2 (lf (len_fit (v := .ref rc) hc2 hlc) (sd (p := (((L.map chainV).length : Nat) : Int) % 2 ≠ 0) (fun h => ?_) fun h => ?_))
  ·have e : chStep L bottom = L.take (blR (lensL L) (chainOf bottom (opAll bottom).1).length L.length 0 L.length) ++ chainOf bottom (opAll bottom).1 :: L.drop (blR (lensL L) (chainOf bottom (opAll bottom).1).length L.length 0 L.length) := by
    rw [length_map] at h
    rw [chStep, hg, insCh]
    simp only [odd_of h]
    rfl
   refine inlK_call (l := L.map chainV) (ks := lensL L) (y := ((chainOf bottom (opAll bottom).1).length : Nat)) (fun {m c O Q} q => lenK hch q) (lenP hL) hc2 hlc (chain_pure _) ?_
   rw [length_map, map_ins, ← e]
   refine Gd.of rfl (xn ?_)
   exact q _ _ _ _ _ (list_set hc2) fin
  ·have e : chStep L bottom = L.take (brR (lensL L) (chainOf bottom (opAll bottom).1).length L.length 0 L.length) ++ chainOf bottom (opAll bottom).1 :: L.drop (brR (lensL L) (chainOf bottom (opAll bottom).1).length L.length 0 L.length) := by
    rw [length_map] at h
    rw [chStep, hg, insCh]
    simp only [if_neg (even_of h)]
    rfl
   refine inrK_call (l := L.map chainV) (ks := lensL L) (y := ((chainOf bottom (opAll bottom).1).length : Nat)) (fun {m c O Q} q => lenK hch q) (lenP hL) hc2 hlc (chain_pure _) ?_
   rw [length_map, map_ins, ← e]
   refine Gd.of rfl (xn ?_)
   exact q _ _ _ _ _ (list_set hc2) fin
theorem chStep_ok (hL : ∀ l ∈ L, l.length < 300) : (∀ l ∈ chStep L bottom, l.length < 300) ∧ (chStep L bottom).length ≤ L.length + 1 := by
 have hch : (chainOf bottom (opAll bottom).1).length < 300 := by have := (opAll_ok bottom).1; unfold chainOf; rw [length_map, length_range]; exact lt_of_le_of_lt (succ_le_succ this) (by decide)
 unfold chStep
 split
 ·unfold insCh
  generalize (if L.length % 2 = 1 then blR (lensL L) (chainOf bottom (opAll bottom).1).length L.length 0 L.length else brR (lensL L) (chainOf bottom (opAll bottom).1).length L.length 0 L.length) = p
  refine ⟨fun l hl => ?_, ?_⟩
  ·rcases mem_append.mp hl with hl | hl
   ·exact hL l (mem_of_mem_take hl)
   ·rcases mem_cons.mp hl with rfl | hl
    ·exact hch
    ·exact hL l (List.mem_of_mem_drop hl)
  ·rw [length_append, length_cons, length_take, length_drop]; exact succ_le_succ (le_of_eq ((add_comm _ _).trans ((congrArg _ (Nat.min_comm _ _)).trans (Nat.sub_add_min_cancel _ _))))
 ·exact ⟨hL, le_succ _⟩
theorem ch_loop (hb : O.length ≤ rc) (hlen : O.length = b) (ks : List Nat) : ∀ (f : Nat) (L : List (List Nat)) (O1 : Oj) (bo op go pl ch : Option V), (∀ l ∈ L, l.length < 300) → L.length + ks.length < 200 → ks.length < f → lA O1 rc = some (L.map chainV) → O1.take O.length = O →
 (∀ bo op go pl ch O2, lA O2 rc = some ((ks.foldl chStep L).map chainV) → O2.take O.length = O → Q .next (chFr rc bo op go pl ch) O2) →
 forW (W G3 (n + 60)) (foT chF) (foB chF) (foE chF) b Q f (.items (rngL ks)) (chFr rc bo op go pl ch) O1 := by
 induction ks with
 | nil =>
  intro f L O1 bo op go pl ch hL hl hf hc hO q
  cases f with
  | zero => exact absurd hf (not_lt_zero _)
  | succ f => exact q _ _ _ _ _ _ hc hO
 | cons k ks ih =>
  intro f L O1 bo op go pl ch hL hl hf hc hO q
  replace hl : L.length + (ks.length + 1) < 200 := hl
  cases f with
  | zero => exact absurd hf (not_lt_zero _)
  | succ f =>
   obtain ⟨h1, h2⟩ := chStep_ok (bottom := k) hL
   exact ch_turn (bottom := k) hL (lt_of_le_of_lt (le_add_right _ _) hl) hc hO hb hlen fun op go pl ch O2 hc2 hO2 => ih f (chStep L k) O2 _ op go pl ch h1 (lt_of_le_of_lt (add_le_add_right h2 _) (lt_of_le_of_lt (le_of_eq (succ_add _ _)) hl)) (lt_of_succ_lt_succ hf) hc2 hO2 q
theorem freeze_ref {l : List V} (hk : b ≤ k) (h : lA O k = some l) (hf : ∀ v ∈ l, flatV n v = true) : freeze O b (n + 1) (.ref k) = some (.lst l) := by
 show (if k < b then some (V.ref k) else (lA O k).bind fun l => (l.mapM (freeze O b n)).map .lst) = _
 rw [if_neg (not_lt.mpr hk), h, Option.bind_some, mapM_same fun v hv => freeze_flat n (hf v hv)]; rfl
theorem flat_chain (c : List Nat) : flatV 3 (chainV c) = true := flat_intL (n := 1) c
theorem ch_call {Q : V → Oj → Prop} (q : Q (.lst (chainsL.map chainV)) O) : CALL (W G3 (n + 64)) (.cst (.ref 151)) [] [] b Q O := by
 have hw := fun Q => ch_loop (n := n + 2) (b := O.length) (O := O) (rc := O.length) (Q := Q) (le_refl _) rfl (List.range 32) 300 [] (O ++ [.list []]) none none none none none (fun _ h => nomatch h) (by decide) (by decide) (list_new O _) new_take
 rw [← rng_src 32, chains_is] at hw
 refine toC (toF (hw _ fun bo op go pl ch O2 h1 h2 => ?_))
 have e : leave O.length (.ref O.length) O2 = some (.lst (chainsL.map chainV)) := freeze_ref (n := 3) (le_refl _) h1 fun v hv => by
  obtain ⟨c, _, rfl⟩ := mem_map.mp hv
  exact flat_chain c
 exact lf e (vq (Q := Q) h2 q)
end
section
variable {a : V} {c : Nat} {l : List V} {J : WI} {tgt elt : Expr} {ifs : List Expr}
theorem pyEqs_refl {f : V → V → Option Bool} : ∀ l : List V, (∀ v ∈ l, f v v = some true) → pyEqs f l l = some true
 | [], _ => rfl
 | v :: l, h => bs (h v (mem_cons_self ..)) (by rw [pyEqs_refl l fun x hx => h x (mem_cons_of_mem _ hx)]; rfl)
theorem eq_refl {O : Oj} {c : V} (ha : iO O a = some l) (hc : iO O c = some l) (hl : ∀ v ∈ l, pyEq O 8 v v = some true) : pyEq O 9 a c = some true := by
 have e : eqL O (pyEq O 8) l c = some true := bs hc ((if_pos (beq_self_eq_true _)).trans (pyEqs_refl l hl))
 cases a with
 | lst l' => cases ha; exact e
 | ref n => exact bs (show lA O n = some l from ha) e
 | _ => cases ha
theorem eq_pair {O : Oj} {n : Nat} {x y : V} (hx : pyEq O n x x = some true) (hy : pyEq O n y y = some true) : pyEq O (n + 1) (.tup [x, y]) (.tup [x, y]) = some true :=
 show pyEqs (pyEq O n) [x, y] [x, y] = some true from pyEqs_refl [x, y] fun v hv => by
  rcases mem_cons.mp hv with rfl | hv
  ·exact hx
  ·cases mem_singleton.mp hv; exact hy
theorem ne_fit {O : Oj} {c : V} (ha : iO O a = some l) (hc : iO O c = some l) (hl : ∀ v ∈ l, pyEq O 8 v v = some true) : cmpV G3 O .NotEq a c = some false := congrArg (map (!·)) (eq_refl ha hc hl)
noncomputable def lwN : Names := (fScope (stm 24)).names
noncomputable def lwB : List Stmt := fBody (stm 24)
noncomputable def lwV (scr ce pa ms al le te pl fr en nm bs st px gt td tu ch cs kn lw hg lk cu du ne ak wo : Option V) : Vars := [(u "script", scr), (u "cells", ce), (u "pair", pa), (u "marks", ms), (u "alphabet", al), (u "letters", le), (u "text", te), (u "plain", pl), (u "front", fr), (u "end", en), (u "names", nm), (u "base", bs), (u "styles", st), (u "pieces", px), (u "got", gt), (u "told", td), (u "turn", tu), (u "chain", ch), (u "chosen", cs), (u "known", kn), (u "low", lw), (u "high", hg), (u "look", lk), (u "cut", cu), (u "due", du), (u "near", ne), (u "asked", ak), (u "world", wo)]
noncomputable def lwF (cl : Option Clo) (scr ce pa ms al le te pl fr en nm bs st px gt td tu ch cs kn lw hg lk cu du ne ak wo : Option V) : List Fr := [⟨lwN, lwV scr ce pa ms al le te pl fr en nm bs st px gt td tu ch cs kn lw hg lk cu du ne ak wo, false, 0, cl⟩]
noncomputable abbrev clL : Option Clo := some (lkC "look" 0)
noncomputable def Well (O : Oj) (Q : Fl → List Fr → Oj → Prop) : Prop := ∀ F O1, O1.take O.length = O → Q (.ret (.bool true)) F O1
noncomputable def boolL (f : Nat → Bool) (l : List Nat) : List V := l.map fun c => .bool (f c)
noncomputable def dueV (f : Nat → Bool) : V := .lst (boolL f (List.range 32))
theorem due_at {f : Nat → Bool} {O : Oj} (h : c < 32) : idxV O (dueV f) (.int (c : Nat)) = some (.bool (f c)) :=
 at_fit (l := boolL f (List.range 32)) rfl (by rw [boolL, length_map, length_range]; decide) (by rw [boolL, getElem?_map, getElem?_range h]; rfl)
theorem pures_b {α : Type} (f : α → Bool) : ∀ l : List α, pures (l.map fun a => V.bool (f a)) = true
 | [] => rfl
 | _ :: l => pures_b f l
theorem len_ans {O : Oj} {r b : Nat} {A : List (Nat × Bool)} (hr : O[r]? = some (.dI (ansL A))) (hl : A.length < 300) : callB (u "len") [.ref r] b O = some (.int (A.length : Nat), O) := by
 have e : callB (u "len") [.ref r] b O = (lenD O (.ref r)).map fun r => (r, O) := by kernel_rfl!
 rw [e]
 unfold lenD
 simp only [dict_at hr, length_map, ansL_len]
 rw [if_pos (lenOk_3 hl)]; rfl
theorem toComp {m : Nat} {Q : Oj → Prop} {src : Src} {F : List Fr} {O : Oj} (h : compW J tgt ifs elt m Q 300 src F O) : COMP J tgt ifs elt m Q src F O := ⟨h⟩
theorem keys_none' {O : Oj} {r : Nat} {A : List (Nat × Bool)} {FR : Option Nat → List Fr} {Q : Oj → Prop} (hr : O[r]? = some (.dI (ansL A))) (set : ∀ t (a : Nat), setTgt (FR t) tgt (.int a) = some (FR (some a)))
 (st : ∀ p ∈ A, ∀ (K1 : V → Oj → Prop) (K2 : Oj → Prop), K2 (O ++ [.list []]) → wIfs J ifs (FR (some p.1)) O.length (fun t O1 => sel t (J.e elt (FR (some p.1)) O.length K1 O1) (K2 O1)) (O ++ [.list []])) (q : Q (O ++ [.list []])) (L : List (Nat × Bool)) : ∀ (f k : Nat) (t : Option Nat), A.drop k = L → L.length < f →
 compW J tgt ifs elt O.length Q f (.keys r k A.length) (FR t) (O ++ [.list []]) := by
 induction L with
 | nil =>
  intro f k t hk hf
  cases f with
  | zero => exact absurd hf (not_lt_zero _)
  | succ f => exact lf (keys_end (at_app hr) (List.getElem?_eq_none (drop_eq_nil_iff.mp hk))) q
 | cons p L ih =>
  intro f k t hk hf
  cases f with
  | zero => exact absurd hf (not_lt_zero _)
  | succ f =>
   obtain ⟨hp, hd⟩ := drop_at hk
   exact lf (keys_next (at_app hr) hp) (lf (set t p.1) (st p (mem_of_getElem? hp) _ _ (ih f (k + 1) _ hd (lt_of_succ_lt_succ hf))))
section
variable {n b r : Nat} {O O1 : Oj} {Q : Fl → List Fr → Oj → Prop} {scr ce pa ms al le te pl fr en nm bs st px gt td tu ch cs kn lw hg lk cu du ne ak wo : Option V} {f : Nat → Bool} {A : List (Nat × Bool)}
theorem s_19 (hr : O1[r]? = some (.dI (ansL A))) (nd : (A.map (·.1)).Nodup) (ok : AnsOk f A) (h20 : A.length ≤ 20) (hT : O1.take O.length = O) (q : Well O Q) :
 xs (W G3 (n + 120)) (lwB.drop 19) (lwF clL scr ce pa ms al le te pl fr en nm bs st px gt td tu ch cs kn lw hg lk cu (some (dueV f)) ne (some (.ref r)) wo) b Q O1 := by
 have h3 : A.length < 300 := lt_of_le_of_lt h20 (by decide)
 refine lf (len_ans hr h3) ?_
 refine slT (t := decide ((A.length : Int) ≤ 20)) (decide_eq_true (ofNat_le.mpr h20)) ?_
 refine lf (src_keys hr) (toComp ?_)
 refine keys_none' (FR := FRi _ _ "chosen") hr (fun _ _ => rfl) (fun p hp K1 K2 k2 => ?_) ?_ A 300 0 none rfl h3
 ·have e := ok.is p hp
  refine lf (idx_ans (t := f p.1) (at_app hr) nd (by rw [← e]; exact hp)) (lf (due_at (ok.lt p hp)) ?_)
  exact slF (t := !(f p.1 == f p.1)) (by rw [beq_self_eq_true]; rfl) k2
 ·refine Lf.of (list_new O1 _) ?_
  show Q (.ret (.bool true)) _ ((O1 ++ [AObj.list []]).take O1.length)
  rw [take_left]
  exact q _ _ hT
noncomputable def nearP (f : Nat → Bool) (c k : Nat) : Bool := !(decide (((c / 2 ^ k : Nat) : Int) % 2 = 1) == f c)
noncomputable def nearL (f : Nat → Bool) (c : Nat) : List Bool := ([0, 1, 2, 3, 4].filter (nearP f c)).map fun k => f (c ^^^ 2 ^ k)
theorem any_bool (t : Bool) : ∀ l : List Bool, anyEq (l.map .bool) (.bool t) = some (l.contains t)
 | [] => rfl
 | x :: l => by
  show (leafEq (.bool x) (.bool t)).bind _ = _
  rw [show leafEq (.bool x) (.bool t) = some (x == t) from rfl, Option.bind_some]
  show (anyEq (l.map .bool) (.bool t)).map _ = _
  rw [any_bool t l, Option.map_some, List.contains_cons]
  exact congrArg (fun y => some (y || l.contains t)) (Bool.beq_comm ..)
theorem notin_near {O : Oj} {t : Bool} {l : List Bool} : cmpV G3 O .NotIn (.bool t) (.lst (l.map .bool)) = some (!l.contains t) := congrArg (map (!·)) (any_bool t l)
theorem ans_has {c : Nat} : ∀ A : List (Nat × Bool), (getD (ansL A) (c : Int)).isSome = (A.map (·.1)).contains c
 | [] => rfl
 | p :: A => by
  have ih := ans_has (c := c) A
  unfold getD ansL at ih ⊢
  rw [Option.isSome_map] at ih ⊢
  rw [map_cons, find?_cons, map_cons, List.contains_cons]
  by_cases h : c = p.1
  ·subst h; rw [decide_eq_true rfl, beq_self_eq_true]; rfl
  ·rw [decide_eq_false (fun z : ((p.1 : Nat) : Int) = c => h (ofNat.inj z).symm), (beq_eq_false_iff_ne.mpr h), Bool.false_or]; exact ih
theorem notin_ans {O : Oj} (hr : O[r]? = some (.dI (ansL A))) : cmpV G3 O .NotIn (.int (c : Nat)) (.ref r) = some (!(A.map (·.1)).contains c) := by
 show (inD G3 O (.int (c : Nat)) (.ref r)).map _ = _
 unfold inD entryAt
 simp only [hr]
 rw [ans_has]; rfl
noncomputable def lwF18 : Stmt := stAt lwB 18
theorem s_18t (hc : c < 32) (hr : O1[r]? = some (.dI (ansL A))) (hn : (nearL f c).contains (f c) = true ∨ (A.map (·.1)).contains c = true) (q : ∀ ne, Q .next (lwF clL scr ce pa ms al le te pl fr en nm bs st px gt td tu ch (some (.int c)) kn lw hg lk cu (some (dueV f)) ne (some (.ref r)) wo) O1) :
 xs (W G3 (n + 110)) ((foB lwF18).drop 0) (lwF clL scr ce pa ms al le te pl fr en nm bs st px gt td tu ch (some (.int c)) kn lw hg lk cu (some (dueV f)) ne (some (.ref r)) wo) b Q O1 := by
 have e : (([0, 1, 2, 3, 4].filter (nearP f c)).map fun k => V.bool (f (c ^^^ 2 ^ k))) = (nearL f c).map .bool := by rw [nearL, map_map]; rfl
 refine stN rfl (lc [0, 1, 2, 3, 4] (FRi _ _ "k") (nearP f c) (fun k => .bool (f (c ^^^ 2 ^ k))) (fun (k : Nat) => .int k) (.items _) (fun _ _ => rfl) (fun k hk acc K1 K2 k1 k2 => ?_) (by decide) (pures_b _ _) ?_)
 ·have hk5 : k < 5 := (show ∀ j ∈ [0, 1, 2, 3, 4], j < 5 by decide) k hk
  have hp0 : 0 < 2 ^ k := pow_pos (by decide)
  have hp1 : 2 ^ k < 2 ^ 300 := pow_lt_pow_of_lt (by decide) (lt_trans hk5 (by decide))
  have hx : c ^^^ 2 ^ k < 32 := Nat.xor_lt_two_pow (n := 5) hc (pow_lt hk5)
  refine lf (pow_fit (d := 2) rfl (lt_trans hk5 (by decide))) (lf (div_fit hp0 hp1) (lf (due_at hc) (sl (t := nearP f c k) (fun h => ?_) fun h => k2 h)))
  exact lf (pow_fit (d := 2) rfl (lt_trans hk5 (by decide))) (lf (due_at hx) (k1 h))
 ·rw [e]
  refine stN rfl (lf (due_at hc) (lf notin_near ?_))
  cases h1 : (nearL f c).contains (f c) with
  | true => exact q _
  | false =>
   refine lf (notin_ans hr) (slF (t := !(A.map (·.1)).contains c) ?_ (slF (t := !(A.map (·.1)).contains c) ?_ (q _)))
   ·rw [hn.resolve_left (by rw [h1]; decide)]; rfl
   ·rw [hn.resolve_left (by rw [h1]; decide)]; rfl
theorem s_18w (hr : O1[r]? = some (.dI (ansL A))) (hn : ∀ c, c < 32 → (nearL f c).contains (f c) = true ∨ (A.map (·.1)).contains c = true) (ks : List Nat) : ∀ (g : Nat) (cs ne : Option V), (∀ k ∈ ks, k < 32) → ks.length < g → (∀ cs ne, Q .next (lwF clL scr ce pa ms al le te pl fr en nm bs st px gt td tu ch cs kn lw hg lk cu (some (dueV f)) ne (some (.ref r)) wo) O1) →
 forW (W G3 (n + 110)) (foT lwF18) (foB lwF18) (foE lwF18) b Q g (.items (rngL ks)) (lwF clL scr ce pa ms al le te pl fr en nm bs st px gt td tu ch cs kn lw hg lk cu (some (dueV f)) ne (some (.ref r)) wo) O1 := by
 induction ks with
 | nil =>
  intro g cs ne _ hf q
  cases g with
  | zero => exact absurd hf (not_lt_zero _)
  | succ g => exact q cs ne
 | cons k ks ih =>
  intro g cs ne hk hf q
  cases g with
  | zero => exact absurd hf (not_lt_zero _)
  | succ g => exact s_18t (hk k (mem_cons_self ..)) hr (hn k (hk k (mem_cons_self ..))) fun ne => ih g _ ne (fun j hj => hk j (mem_cons_of_mem _ hj)) (lt_of_succ_lt_succ hf) q
theorem s_18 (hr : O1[r]? = some (.dI (ansL A))) (hn : ∀ c, c < 32 → (nearL f c).contains (f c) = true ∨ (A.map (·.1)).contains c = true) (q : ∀ cs ne, Q .next (lwF clL scr ce pa ms al le te pl fr en nm bs st px gt td tu ch cs kn lw hg lk cu (some (dueV f)) ne (some (.ref r)) wo) O1) :
 (W G3 (n + 112)).s (stAt lwB 18) (lwF clL scr ce pa ms al le te pl fr en nm bs st px gt td tu ch cs kn lw hg lk cu (some (dueV f)) ne (some (.ref r)) wo) b Q O1 := by
 have hw := s_18w (n := n + 1) (b := b) (Q := Q) (scr := scr) (ce := ce) (pa := pa) (ms := ms) (al := al) (le := le) (te := te) (pl := pl) (fr := fr) (en := en) (nm := nm) (bs := bs) (st := st) (px := px) (gt := gt) (td := td) (tu := tu) (ch := ch) (kn := kn) (lw := lw) (hg := hg) (lk := lk) (cu := cu) (wo := wo) hr hn (List.range 32) 300 cs ne (fun k hk => mem_range.mp hk) (by decide) q
 rw [← rng_src 32] at hw
 exact toF hw
end
end
section
variable {text : List Nat}
noncomputable def ansV (f : Nat → Bool) (c : Nat) : V := .tup [.int (c : Nat), .bool (f c)]
noncomputable def pairsV (f : Nat → Bool) (l : List Nat) : List V := l.map (ansV f)
theorem sort_fit {l r : List V} {b : Nat} {O : Oj} (h2 : 2 ≤ l.length) (h64 : l.length < 64) (h : sortV l = some r) : callB (u "sorted") [.lst l] b O = some (.lst r, O) := by
 have e : callB (u "sorted") [.lst l] b O = if 2 ≤ l.length && l.length < 64 then (sortV l).map fun r => (V.lst r, O) else none := by kernel_rfl!
 rw [e, if_pos (and_eq_true_iff.mpr ⟨decide_eq_true h2, decide_eq_true h64⟩), h]; rfl
theorem eq_ansV (O : Oj) (f : Nat → Bool) (l : List Nat) : ∀ v ∈ pairsV f l, pyEq O 8 v v = some true := fun v hv => by
 obtain ⟨c, _, rfl⟩ := mem_map.mp hv
 exact eq_pair (congrArg some (decide_eq_true rfl)) (congrArg some (beq_self_eq_true _))
theorem str_fit {v : V} {l : List (List Nat)} {k : Nat} {O : Oj} (h : iO O v = some (strL l)) (hs : l.length < 300) (hk : k < l.length) : idxV O v (.int (k : Nat)) = some (.str (l.getD k [])) :=
 at_fit h (strL_lt hs) (by rw [strL, getElem?_map, getElem?_eq_getElem hk, getD_eq_getElem?_getD, getElem?_eq_getElem hk]; rfl)
section
variable {n b r : Nat} {O O1 : Oj} {Q : Fl → List Fr → Oj → Prop} {scr ce pa ms al le te pl fr en nm bs st px gt td tu ch cs kn lw hg lk cu du ne ak wo : Option V} {f : Nat → Bool} {A : List (Nat × Bool)}
theorem s_17 {fl : List Nat} (h2 : 2 ≤ fl.length) (h64 : fl.length < 64) (hsort : sortV (pairsV f fl) = some (pairsV f (List.range 32))) (q : Q .next (lwF clL scr ce pa ms al le (some (.str text)) pl fr en nm bs st px (some (.str text)) (some (.lst (pairsV f fl))) tu ch cs kn lw hg lk cu (some (dueV f)) ne ak wo) (O1 ++ [.list (pairsV f (List.range 32))])) :
 (W G3 (n + 112)).s (stAt lwB 17) (lwF clL scr ce pa ms al le (some (.str text)) pl fr en nm bs st px (some (.str text)) (some (.lst (pairsV f fl))) tu ch cs kn lw hg lk cu (some (dueV f)) ne ak wo) b Q O1 := by
 have e : (pairsV f fl).length = fl.length := length_map ..
 refine slT (t := !!decide (text = text)) (by rw [decide_eq_true rfl]; rfl) (lf (sort_fit (e ▸ h2) (e ▸ h64) hsort) ?_)
 exact lf (ne_fit (l := pairsV f (List.range 32)) (c := .ref O1.length) rfl (list_new O1 (pairsV f (List.range 32))) (eq_ansV _ f _)) q
noncomputable def takenF (front : List Nat) (plain : List (List Nat)) (ends text : List Nat) (c : Nat) : Bool := takenN front (chosenP plain c) ends text
theorem s_16 {front ends : List Nat} {plain : List (List Nat)} (h5 : plain.length = 5) (hf : front.length < 300) (he : ends.length < 300) (ht : text.length < 300) (q : Q .next (lwF clL scr ce pa ms al le (some (.str text)) (some (.lst (strL plain))) (some (.str front)) (some (.str ends)) nm bs st px gt td tu ch cs kn lw hg lk cu (some (dueV (takenF front plain ends text))) ne ak wo) O1) :
 (W G3 (n + 112)).s (stAt lwB 16) (lwF clL scr ce pa ms al le (some (.str text)) (some (.lst (strL plain))) (some (.str front)) (some (.str ends)) nm bs st px gt td tu ch cs kn lw hg lk cu du ne ak wo) b Q O1 := by
 refine lcm (List.range 32) (FRi _ _ "chosen") (fun c => .bool (takenF front plain ends text c)) (fun (c : Nat) => .int c) (.items _) (fun _ _ => rfl) (fun c hc acc K1 K2 k1 k2 => ?_) (by decide) (pures_b _ _) q
 have e1 : ([0, 1, 2, 3, 4].filter fun k => decide (((c / 2 ^ k : Nat) : Int) % 2 ≠ 0)) = [0, 1, 2, 3, 4].filter fun k => decide (c / 2 ^ k % 2 = 1) := List.filter_congr fun k _ => decide_eq_decide.mpr ⟨odd_of, fun h z => absurd (h.symm.trans (ofNat.inj z)) (by decide)⟩
 have e : ((([0, 1, 2, 3, 4].filter fun k => decide (((c / 2 ^ k : Nat) : Int) % 2 ≠ 0))).map fun k => V.str (plain.getD k [])) = strL (chosenP plain c) := by rw [e1, chosenP, strL, map_map]; rfl
 refine lc [0, 1, 2, 3, 4] (FRi _ _ "k") (fun k => decide (((c / 2 ^ k : Nat) : Int) % 2 ≠ 0)) (fun k => .str (plain.getD k [])) (fun (k : Nat) => .int k) (.items _) (fun _ _ => rfl) (fun k hk acc K1 K2 k1 k2 => ?_) (by decide) (pures_s _ _) ?_
 ·have hk5 : k < 5 := (show ∀ j ∈ [0, 1, 2, 3, 4], j < 5 by decide) k hk
  have hp0 : 0 < 2 ^ k := pow_pos (by decide)
  have hp1 : 2 ^ k < 2 ^ 300 := pow_lt_pow_of_lt (by decide) (lt_trans hk5 (by decide))
  refine lf (pow_fit (d := 2) rfl (lt_trans hk5 (by decide))) (lf (div_fit hp0 hp1) (sl (t := decide (((c / 2 ^ k : Nat) : Int) % 2 ≠ 0)) (fun h => ?_) fun h => k2 h))
  exact lf (str_fit (l := plain) rfl (h5 ▸ (by decide)) (h5 ▸ hk5)) (k1 h)
 ·rw [e]
  refine tk_call hf he ht ?_ (k1 rfl)
  unfold chosenP
  rw [length_map]
  exact lt_of_le_of_lt (List.length_filter_le _ _) (by decide)
end
end
section
variable {p mid c q' dn : List Nat} {l : List V} {t k : Nat} {v : V} {A' : List (Nat × Bool)}
theorem cut_mid {f : Nat → Bool} (hf : Anti f) : ∀ {mid : List Nat}, mid.length ≤ 2 → upOk mid = true → (∀ c ∈ mid, c < 32) → cutN f mid ≤ mid.length ∧ ∀ j, j < mid.length → decide (j < cutN f mid) = f (mid.getD j 0)
 | [], _, _, _ => ⟨le_refl _, fun j h => absurd h (not_lt_zero _)⟩
 | [a], _, _, _ => by
  cases h : f a with
  | true => exact ⟨by rw [cutN, h]; exact le_refl 1, fun j hj => by cases Nat.lt_one_iff.mp hj; rw [cutN, h]; exact h.symm⟩
  | false => exact ⟨by rw [cutN, h]; exact zero_le 1, fun j hj => by cases Nat.lt_one_iff.mp hj; rw [cutN, h]; exact h.symm⟩
 | [a, b], _, hu, hl => by
  have hab := of_decide_eq_true (and_eq_true_iff.mp (and_eq_true_iff.mp (show (decide (a &&& b = a) && decide (a ≠ b) && upOk [b]) = true from hu)).1).1
  have hb := hl b (mem_cons_of_mem _ (mem_cons_self ..))
  have two : ∀ {P : Nat → Prop}, P 0 → P 1 → ∀ j, j < 2 → P j := fun {P} h0 h1 j hj => match j, hj with
   | 0, _ => h0
   | 1, _ => h1
  cases h : f b with
  | true =>
   have ha : f a = true := hf a b hb hab h
   rw [cutN, if_pos h]
   exact ⟨le_refl _, two (P := fun j => decide (j < 2) = f ([a, b].getD j 0)) ha.symm h.symm⟩
  | false =>
   rw [cutN, if_neg (by rw [h]; decide)]
   cases h1 : f a with
   | true => exact ⟨le_succ 1, two (P := fun j => decide (j < if true = true then 1 else 0) = f ([a, b].getD j 0)) h1.symm h.symm⟩
   | false => exact ⟨zero_le 2, two (P := fun j => decide (j < if false = true then 1 else 0) = f ([a, b].getD j 0)) h1.symm h.symm⟩
 | _ :: _ :: _ :: _, h, _, _ => absurd h (by simp)
theorem cut_is {f : Nat → Bool} {q : List Nat} (hp : ∀ c ∈ p, f c = true) (hq : ∀ c ∈ q, f c = false) (hm : cutN f mid ≤ mid.length ∧ ∀ j, j < mid.length → decide (j < cutN f mid) = f (mid.getD j 0)) {i : Nat} (hi : i < (p ++ (mid ++ q)).length) : decide (i < p.length + cutN f mid) = f ((p ++ (mid ++ q)).getD i 0) := by
 rw [getD_eq_getElem?_getD]
 rcases lt_or_ge i p.length with h | h
 ·rw [getElem?_append_left h, getElem?_eq_getElem h, getD_some, hp _ (getElem_mem h)]
  exact decide_eq_true (lt_of_lt_of_le h (le_add_right _ _))
 ·obtain ⟨j, rfl⟩ := Nat.exists_eq_add_of_le h
  rw [getElem?_append_right (le_add_right _ _), Nat.add_sub_cancel_left]
  have e : decide (p.length + j < p.length + cutN f mid) = decide (j < cutN f mid) := decide_eq_decide.mpr (Nat.add_lt_add_iff_left ..)
  rw [e]
  rcases lt_or_ge j mid.length with h2 | h2
  ·rw [getElem?_append_left h2, ← getD_eq_getElem?_getD]
   exact hm.2 j h2
  ·have h3 : j - mid.length < q.length := by rw [length_append, length_append] at hi; exact Nat.sub_lt_left_of_lt_add h2 (Nat.lt_of_add_lt_add_left hi)
   rw [getElem?_append_right h2, getElem?_eq_getElem h3, getD_some, hq _ (getElem_mem h3)]
   exact decide_eq_false (not_lt.mpr (le_trans hm.1 h2))
theorem cnt_app (t : Bool) : ∀ (l r : List V) {k m : Nat}, cntB t l = some k → cntB t r = some m → cntB t (l ++ r) = some (k + m)
 | [], _, k, m, h, h2 => by cases h; rw [zero_add]; exact h2
 | v :: l, r, k, m, h, h2 => by
  cases v with
  | none => exact cnt_app t l r h h2
  | bool c =>
   obtain ⟨j, hj, e⟩ := map_eq_some_iff.mp h
   have ih := cnt_app t l r hj h2
   show (cntB t (l ++ r)).map _ = _
   rw [ih, ← e, Option.map_some]
   split
   ·rw [add_right_comm]
   ·rfl
  | _ => cases h
theorem cnt_kv {A : List (Nat × Bool)} (t : Bool) {o : Option Bool} : ∀ {l : List Nat}, (∀ c ∈ l, kN c A = o) → cntB t (l.map fun c => kvB (kN c A)) = some (if o = some t then l.length else 0)
 | [], _ => by split <;> rfl
 | c :: l, h => by
  have ih := cnt_kv t (o := o) (l := l) fun x hx => h x (mem_cons_of_mem _ hx)
  rw [map_cons, h c (mem_cons_self ..)]
  cases o with
  | none => exact ih
  | some x =>
   show (cntB t _).map _ = _
   rw [ih, Option.map_some]
   cases x <;> cases t <;> rfl
noncomputable def knownV (A : List (Nat × Bool)) (l : List Nat) : List V := l.map fun c => kvB (kN c A)
theorem cnt_fit {t : Bool} {b : Nat} {O : Oj} (h : cntB t l = some k) : methV G3 (u "count") (.lst l) [.bool t] b O = some (.int (k : Nat), O) := by
 have e : methV G3 (u "count") (.lst l) [.bool t] b O = (cntB t l).map fun k => (V.int (k : Nat), O) := by kernel_rfl!
 rw [e, h]; rfl
theorem pures_kv (A : List (Nat × Bool)) : ∀ l : List Nat, pures (knownV A l) = true
 | [] => rfl
 | c :: l => by
  have ih := pures_kv A l
  show ((kvB (kN c A)).pure && pures (knownV A l)) = true
  rw [ih]
  cases kN c A <;> rfl
theorem nat_fit {l : List Nat} {O : Oj} (h : iO O v = some (intL l)) (hs : l.length < 300) (hk : k < l.length) : idxV O v (.int (k : Nat)) = some (.int (l.getD k 0 : Nat)) :=
 at_fit h (by rw [intL_length]; exact hs) (by rw [intL, getElem?_map, getElem?_eq_getElem hk, getD_eq_getElem?_getD, getElem?_eq_getElem hk]; rfl)
theorem cat_any {O : Oj} {r : List V} (h : iO O v = some l) (hl : l.length + r.length < 300) : binV O .Add v (.lst r) = some (.lst (l ++ r)) := by
 have e : addL O l (.lst r) = some (.lst (l ++ r)) := if_pos (lenOk_3 hl)
 cases v with
 | lst l' => cases h; exact e
 | ref n => exact bs (f := fun l => addL O l (.lst r)) (show lA O n = some l from h) e
 | _ => cases h
theorem pures_ans (f : Nat → Bool) : ∀ l : List Nat, pures (pairsV f l) = true
 | [] => rfl
 | _ :: l => pures_ans f l
section
variable {n b r pc base no hi : Nat} {O O1 : Oj} {Q : Fl → List Fr → Oj → Prop} {scr ce pa ms al le te pl fr en nm bs st px gt td tu ch cs kn lw hg lk cu du ne ak wo : Option V} {f : Nat → Bool} {A : List (Nat × Bool)} {front ends text : List Nat} {ps : List (List Nat × List Nat)} {cl : Option Clo}
theorem b_0 (hr : O1[r]? = some (.dI (ansL A))) (nd : (A.map (·.1)).Nodup) (hl : A.length < 300) (hc : c.length < 300) (hcl : cl = none ∨ cl = clL) (q : Q .next (lwF cl scr ce pa ms al le te pl fr en nm bs st px gt td tu (some (chainV c)) cs (some (.lst (knownV A c))) lw hg lk cu du ne (some (.ref r)) wo) O1) :
 (W G3 (n + 120)).s (stAt (foB lwFor) 0) (lwF cl scr ce pa ms al le te pl fr en nm bs st px gt td tu (some (chainV c)) cs kn lw hg lk cu du ne (some (.ref r)) wo) b Q O1 := by
 rcases hcl with rfl | rfl
 ·exact lcm c (FRi _ _ "chosen") (fun c => kvB (kN c A)) (fun (c : Nat) => .int c) (.items _) (fun _ _ => rfl) (fun c hc acc K1 K2 k1 k2 => kn_call (at_app hr) nd hl (k1 rfl)) hc (pures_kv A c) q
 ·exact lcm c (FRi _ _ "chosen") (fun c => kvB (kN c A)) (fun (c : Nat) => .int c) (.items _) (fun _ _ => rfl) (fun c hc acc K1 K2 k1 k2 => kn_call (at_app hr) nd hl (k1 rfl)) hc (pures_kv A c) q
theorem b_1 (P : Parts A (p ++ (mid ++ q')) p mid q') (hc : (p ++ (mid ++ q')).length < 300) (hcl : cl = none ∨ cl = clL) (q : Q .next (lwF cl scr ce pa ms al le te pl fr en nm bs st px gt td (some (.int (t + 1 : Nat))) (some (chainV (p ++ (mid ++ q')))) cs (some (.lst (knownV A (p ++ (mid ++ q'))))) (some (.int (p.length : Nat))) (some (.int (p.length + mid.length : Nat))) lk cu du ne ak wo) O1) :
 (W G3 (n + 120)).s (stAt (foB lwFor) 1) (lwF cl scr ce pa ms al le te pl fr en nm bs st px gt td (some (.int (t : Nat))) (some (chainV (p ++ (mid ++ q')))) cs (some (.lst (knownV A (p ++ (mid ++ q'))))) lw hg lk cu du ne ak wo) b Q O1 := by
 have c1 : cntB true (knownV A (p ++ (mid ++ q'))) = some p.length := by
  rw [knownV, map_append, map_append]
  exact cnt_app _ _ _ (cnt_kv true P.yes) (cnt_app _ _ _ (cnt_kv true P.open_) (cnt_kv true P.no))
 have c2 : cntB false (knownV A (p ++ (mid ++ q'))) = some q'.length := by
  rw [knownV, map_append, map_append]
  refine (cnt_app _ _ _ (cnt_kv false P.yes) (cnt_app _ _ _ (cnt_kv false P.open_) (cnt_kv false P.no))).trans ?_
  show some (0 + (0 + q'.length)) = _
  rw [zero_add, zero_add]
 have e : (((intL (p ++ (mid ++ q'))).length : Nat) : Int) - (q'.length : Nat) = ((p.length + mid.length : Nat) : Int) := by rw [intL_length, length_append, length_append]; rw [← add_assoc]; exact Int.add_sub_cancel ((p.length + mid.length : Nat) : Int) q'.length
 rw [← e] at q
 have hl := intL_length (p ++ (mid ++ q')) ▸ hc
 rcases hcl with rfl | rfl
 ·exact lf (cnt_fit c1) (lf (len_fit (v := chainV (p ++ (mid ++ q'))) (l := intL (p ++ (mid ++ q'))) rfl hl) (lf (cnt_fit c2) q))
 ·exact lf (cnt_fit c1) (lf (len_fit (v := chainV (p ++ (mid ++ q'))) (l := intL (p ++ (mid ++ q'))) rfl hl) (lf (cnt_fit c2) q))
theorem b_2 (hcl : cl = none ∨ cl = clL) (q : ∀ ad, Q .next (lwF clL scr ce pa ms al le te pl fr en nm bs st px gt td tu ch cs kn lw hg (some (.opq ad)) cu du ne ak wo) O1) : (W G3 (n + 120)).s (stAt (foB lwFor) 2) (lwF cl scr ce pa ms al le te pl fr en nm bs st px gt td tu ch cs kn lw hg lk cu du ne ak wo) b Q O1 := by
 rcases hcl with rfl | rfl
 ·exact q
 ·exact q
theorem b_3 {ad : Addr} (hsm : (p ++ (mid ++ q')).length < 300) (hpc : O1[pc]? = some (.dS (pcD ps))) (hr : O1[r]? = some (.dI (ansL A))) (nd : (A.map (·.1)).Nodup) (hl : A.length < 190) (L : LookOk front ends text ps base no hi f A mid) (hra : lA O1 r = none) (hrp : r ≠ pc)
 (q : Q .next (lwF clL scr ce pa ms al le te pl fr en nm bs st px gt td (some (.int (t : Nat))) (some (chainV (p ++ (mid ++ q')))) cs kn (some (.int (p.length : Nat))) (some (.int (p.length + mid.length : Nat))) (some (.opq ad)) (some (.int (p.length + cutN f mid : Nat))) du ne (some (.ref r)) (some (wV pc front ends text base no hi))) (O1.set r (.dI (ansL (askMid f A mid))))) :
 (W G3 (n + 120)).s (stAt (foB lwFor) 3) (lwF clL scr ce pa ms al le te pl fr en nm bs st px gt td (some (.int (t : Nat))) (some (chainV (p ++ (mid ++ q')))) cs kn (some (.int (p.length : Nat))) (some (.int (p.length + mid.length : Nat))) (some (.opq ad)) cu du ne (some (.ref r)) (some (wV pc front ends text base no hi))) b Q O1 := by
 refine sd (p := (t : Int) % 2 ≠ 0) (fun h => ?_) fun h => ?_
 ·exact lk_bl_call (q := q') rfl rfl rfl rfl hsm hpc hr nd hl L hra hrp q
 ·exact lk_br_call (q := q') rfl rfl rfl rfl hsm hpc hr nd hl L hra hrp q
theorem b_4 (h2 : mid.length ≤ 2) (q : Q .next (lwF clL scr ce pa ms al le te pl fr en nm bs st px gt td tu ch cs kn (some (.int (p.length : Nat))) (some (.int (p.length + mid.length : Nat))) lk cu du ne ak wo) O1) :
 (W G3 (n + 120)).s (stAt (foB lwFor) 4) (lwF clL scr ce pa ms al le te pl fr en nm bs st px gt td tu ch cs kn (some (.int (p.length : Nat))) (some (.int (p.length + mid.length : Nat))) lk cu du ne ak wo) b Q O1 :=
 slF (t := decide (((p.length + mid.length : Nat) : Int) - (p.length : Nat) > 2)) (decide_eq_false (Int.not_lt.mpr (Int.sub_left_le_of_le_add (ofNat_le.mpr (add_le_add_left h2 _))))) q
theorem b_5 {cut : Nat} (hv : iO O1 v = some (pairsV f dn)) (hl : dn.length + c.length < 200) (hcut : ∀ i, i < c.length → decide (i < cut) = f (c.getD i 0)) (q : Q .next (lwF clL scr ce pa ms al le te pl fr en nm bs st px gt (some (.lst (pairsV f (dn ++ c)))) tu (some (chainV c)) cs kn lw hg lk (some (.int (cut : Nat))) du ne ak wo) O1) :
 (W G3 (n + 120)).s (stAt (foB lwFor) 5) (lwF clL scr ce pa ms al le te pl fr en nm bs st px gt (some (v)) tu (some (chainV c)) cs kn lw hg lk (some (.int (cut : Nat))) du ne ak wo) b Q O1 := by
 have hc : c.length < 300 := by exact lt_trans (lt_of_le_of_lt (le_add_left _ _) hl) (by decide)
 have hci := intL_length c ▸ hc
 have e : ((List.range c.length).map fun i => V.tup [.int (c.getD i 0 : Nat), .bool (decide ((i : Int) < (cut : Nat)))]) = pairsV f c := by
  apply List.ext_getElem (by rw [length_map, length_range, pairsV, length_map])
  intro i h1 h2
  rw [length_map, length_range] at h1
  have h := hcut i h1
  have h3 : decide ((i : Int) < (cut : Nat)) = decide (i < cut) := decide_eq_decide.mpr ofNat_lt
  rw [List.getElem_map, List.getElem_range, h3, h, getD_eq_getElem?_getD, getElem?_eq_getElem h1, getD_some]
  exact (List.getElem_map (ansV f)).symm
 refine lf (len_fit (v := chainV c) (l := intL c) rfl hci) (lf (range1_fit (a := c.length) (by rw [intL_length]) (lt_trans hc (by decide))) (lf (src1_fit (lt_trans hc (by decide))) (lcm (List.range c.length) (FRi _ _ "place") (fun i => V.tup [.int (c.getD i 0 : Nat), .bool (decide ((i : Int) < (cut : Nat)))]) (fun (k : Nat) => .int k) (.items _) (fun _ _ => rfl) (fun i hi acc K1 K2 k1 k2 => ?_) (by rw [length_range]; exact hc) ?_ ?_)))
 ·exact lf (nat_fit (v := chainV c) (l := c) rfl hc (mem_range.mp hi)) (k1 rfl)
 ·rw [e]
  exact pures_ans f c
 ·rw [e]
  refine lf (cat_any hv (by rw [pairsV, pairsV, length_map, length_map]; exact lt_trans hl (by decide))) ?_
  rw [show pairsV f dn ++ pairsV f c = pairsV f (dn ++ c) from map_append.symm]
  exact q
structure LoopS (O O1 : Oj) (r pc : Nat) (ps : List (List Nat × List Nat)) (A : List (Nat × Bool)) : Prop where
 ak : O1[r]? = some (.dI (ansL A))
 px : O1[pc]? = some (.dS (pcD ps))
 tk : O1.take O.length = O
 hr : O.length ≤ r
 ne : r ≠ pc
theorem LoopS.set (S : LoopS O O1 r pc ps A) : LoopS O (O1.set r (.dI (ansL A'))) r pc ps A' := ⟨iter_set S.ak, set_ne S.px S.ne, set_take S.tk S.hr, S.hr, S.ne⟩
theorem LoopS.nl (S : LoopS O O1 r pc ps A) : lA O1 r = none := by unfold lA; rw [S.ak]
theorem b_all (hf : Anti f) (S : LoopS O O1 r pc ps A) (nd : (A.map (·.1)).Nodup) (ok : AnsOk f A) (hl : A.length < 190) (h32 : ∀ c ∈ p ++ (mid ++ q'), c < 32) (hu : upOk mid = true) (P : Parts A (p ++ (mid ++ q')) p mid q') (hJ : ∀ c, c < 32 → ∃ inner, JuOk front ends text ps base no hi c inner ∧ verdict front ends text inner = f c)
 (hdl : dn.length + (p ++ (mid ++ q')).length < 200) (hv : iO O1 v = some (pairsV f dn)) (hcl : cl = none ∨ cl = clL)
 (q : ∀ kn lw hg lk cu O2, LoopS O O2 r pc ps (askMid f A mid) → Q .next (lwF clL scr ce pa ms al le te pl fr en nm bs st px gt (some (.lst (pairsV f (dn ++ (p ++ (mid ++ q')))))) (some (.int (t + 1 : Nat))) (some (chainV (p ++ (mid ++ q')))) cs kn lw hg lk cu du ne (some (.ref r)) (some (wV pc front ends text base no hi))) O2) :
 xs (W G3 (n + 121)) ((foB lwFor).drop 0) (lwF cl scr ce pa ms al le te pl fr en nm bs st px gt (some (v)) (some (.int (t : Nat))) (some (chainV (p ++ (mid ++ q')))) cs kn lw hg lk cu du ne (some (.ref r)) (some (wV pc front ends text base no hi))) b Q O1 := by
 have hc : (p ++ (mid ++ q')).length < 300 := by exact lt_trans (lt_of_le_of_lt (le_add_left _ _) hdl) (by decide)
 have hm : ∀ c ∈ mid, c < 32 := fun c hc => h32 c (mem_append_right _ (mem_append_left _ hc))
 have L : LookOk front ends text ps base no hi f A mid := ⟨fun c hc => hJ c (hm c hc), fun c hc => ⟨P.open_ c hc, fun z => nomatch (P.open_ c hc).symm.trans (key_known hf ok z)⟩, hu, P.two⟩
 have hcut := fun i (hi : i < (p ++ (mid ++ q')).length) => cut_is (f := f) (p := p) (mid := mid) (q := q') (fun c hc => (known_is hf (h32 c (mem_append_left _ hc)) ok (P.yes c hc)).symm) (fun c hc => (known_is hf (h32 c (mem_append_right _ (mem_append_right _ hc))) ok (P.no c hc)).symm) (cut_mid hf P.two hu hm) hi
 refine stN rfl (b_0 (n := n + 1) S.ak nd (lt_trans hl (by decide)) hc hcl (stN rfl (b_1 (n := n + 1) P hc hcl (stN rfl (b_2 (n := n + 1) hcl fun ad => stN rfl (b_3 (n := n + 1) hc S.px S.ak nd hl L S.nl S.ne (stN rfl (b_4 (n := n + 1) P.two (stN rfl (b_5 (n := n + 1) (items_set hv S.nl) hdl hcut ?_))))))))))
 exact q _ _ _ _ _ _ S.set
theorem b_loop {chs : List (List Nat)} (hf : Anti f) (hJ : ∀ c, c < 32 → ∃ inner, JuOk front ends text ps base no hi c inner ∧ verdict front ends text inner = f c) (R : Run f chs A A') : ∀ (g t : Nat) (dn : List Nat) (O1 : Oj) (v : V) (cl : Option Clo) (ch kn lw hg lk cu : Option V), LoopS O O1 r pc ps A → (A.map (·.1)).Nodup → AnsOk f A → A.length + 2 * chs.length < 180 → (∀ c ∈ chs, (∀ x ∈ c, x < 32) ∧ upOk c = true) →
 chs.length < g → dn.length + chs.flatten.length < 200 → iO O1 v = some (pairsV f dn) → (cl = none ∨ cl = clL) → (chs = [] → cl = clL ∧ ∃ l, v = .lst l) →
 (∀ ch tu kn lw hg lk cu O2, LoopS O O2 r pc ps A' → Q .next (lwF clL scr ce pa ms al le te pl fr en nm bs st px gt (some (.lst (pairsV f (dn ++ chs.flatten)))) tu ch cs kn lw hg lk cu du ne (some (.ref r)) (some (wV pc front ends text base no hi))) O2) →
 forW (W G3 (n + 121)) (foT lwFor) (foB lwFor) (foE lwFor) b Q g (.items (chs.map chainV)) (lwF cl scr ce pa ms al le te pl fr en nm bs st px gt (some (v)) (some (.int (t : Nat))) ch cs kn lw hg lk cu du ne (some (.ref r)) (some (wV pc front ends text base no hi))) O1 := by
 induction R with
 | nil A =>
  intro g t dn O1 v cl ch kn lw hg lk cu S nd ok hl hc hg' hdl hv hcl h0 q
  obtain ⟨rfl, l, rfl⟩ := h0 rfl
  cases hv
  cases g with
  | zero => exact absurd hg' (not_lt_zero _)
  | succ g =>
   have q := q ch (some (.int (t : Nat))) kn lw hg lk cu O1 S
   rw [List.flatten_nil, append_nil] at q
   exact q
 | @cons c p mid q' rr A A' P R ih =>
  intro g t dn O1 v cl ch kn lw hg lk cu S nd ok hl hc hg' hdl hv hcl h0 q
  cases g with
  | zero => exact absurd hg' (not_lt_zero _)
  | succ g =>
   cases P.is
   obtain ⟨h32, hu⟩ := hc _ (mem_cons_self ..)
   have X := chain_asked hf ok nd h32 hu P
   have hlen := X.len
   have hu' := up_left (q := q') (up_right (p := p) hu)
   rw [flatten_cons, length_append] at hdl
   rw [length_cons] at hl
   have go : ∀ cl', (cl' = none ∨ cl' = clL) → xs (W G3 (n + 121)) ((foB lwFor).drop 0) (lwF cl' scr ce pa ms al le te pl fr en nm bs st px gt (some (v)) (some (.int (t : Nat))) (some (chainV (p ++ (mid ++ q')))) cs kn lw hg lk cu du ne (some (.ref r)) (some (wV pc front ends text base no hi))) b (fun f F2 O2 => match f with
    | .next => forW (W G3 (n + 121)) (foT lwFor) (foB lwFor) (foE lwFor) b Q g (.items (rr.map chainV)) F2 O2
    | .cont => forW (W G3 (n + 121)) (foT lwFor) (foB lwFor) (foE lwFor) b Q g (.items (rr.map chainV)) F2 O2
    | .brk => Q .next F2 O2
    | .ret v => Q (.ret v) F2 O2) O1 := fun cl' hcl => b_all (t := t) hf S nd ok (lt_trans (lt_of_le_of_lt (le_add_right _ _) hl) (by decide)) h32 hu' P hJ (lt_of_le_of_lt (add_le_add_left (le_add_right _ _) _) hdl) hv hcl fun kn lw hg lk cu O2 S2 => ?_
   ·rcases hcl with rfl | rfl
    ·exact go none (.inl rfl)
    ·exact go clL (.inr rfl)
   refine ih g (t + 1) (dn ++ (p ++ (mid ++ q'))) O2 (.lst _) clL _ kn lw hg lk cu S2 X.nd X.ok (lt_of_le_of_lt (add_le_add_right hlen _) (lt_of_le_of_lt (le_of_eq (add_right_comm _ 2 _)) hl)) (fun c hc' => hc c (mem_cons_of_mem _ hc')) (lt_of_succ_lt_succ hg') (by rw [length_append]; exact lt_of_le_of_lt (le_of_eq (add_assoc _ _ _)) hdl) rfl (.inr rfl) (fun _ => ⟨rfl, _, rfl⟩) fun ch tu kn lw hg lk cu O3 S3 => ?_
   have q := q ch tu kn lw hg lk cu O3 S3
   rw [flatten_cons, ← append_assoc] at q
   exact q
theorem s_15 (hf : Anti f) (hJ : ∀ c, c < 32 → ∃ inner, JuOk front ends text ps base no hi c inner ∧ verdict front ends text inner = f c) (R : Run f chainsL [] A') (S : LoopS O O1 r pc ps []) (hv : iO O1 v = some [])
 (q : ∀ ch tu kn lw hg lk cu O2, LoopS O O2 r pc ps A' → Q .next (lwF clL scr ce pa ms al le te pl fr en nm bs st px gt (some (.lst (pairsV f chainsL.flatten))) tu ch cs kn lw hg lk cu du ne (some (.ref r)) (some (wV pc front ends text base no hi))) O2) :
 (W G3 (n + 123)).s (stAt lwB 15) (lwF none scr ce pa ms al le te pl fr en nm bs st px gt (some (v)) (some (.int (0 : Nat))) ch cs kn lw hg lk cu du ne (some (.ref r)) (some (wV pc front ends text base no hi))) b Q O1 := by
 refine ch_call (toF ?_)
 exact b_loop (n := n + 1) hf hJ R 300 0 [] O1 v none _ _ _ _ _ _ S nodup_nil ⟨fun _ h => (nomatch h), fun _ h => nomatch h⟩ (by decide) (by decide) (by decide) (by decide) hv (.inl rfl) (fun h => nomatch h) q
end
end
section
variable {l script : List Int} {k : Nat} {x : V} {d : Int} {text : List Nat}
noncomputable def paV (p0 p1 p2 p3 : List Nat) : V := .tup [.str p0, .str p1, .str p2, .str p3]
noncomputable def twoN (p0 p1 : List Nat) (i : Nat) : List Nat := if i = 0 then p0 else p1
noncomputable def textL (p0 p1 : List Nat) (c : Nat) : List (List Nat) := (List.range (c % 9)).map fun j => twoN p0 p1 (c / 9 / 2 ^ j % 2)
noncomputable def textN (p0 p1 : List Nat) (c : Nat) : List Nat := joiT [] (textL p0 p1 c)
noncomputable def fourN (a0 a1 a2 a3 : List Nat) (i : Nat) : List Nat := if i = 0 then a0 else if i = 1 then a1 else if i = 2 then a2 else a3
noncomputable def plainN (p0 p1 : List Nat) (c : Nat) : List (List Nat) := [0, 1, 2, 3, 4].map fun k => fourN p0 p1 (p0 ++ p0) (p0 ++ p1) (c / 4 ^ k % 4)
noncomputable def frontN (p0 p1 text : List Nat) (c : Nat) : List Nat := fourN [] (text.take 1) (text.take 2) (p0 ++ p1) (c % 4)
noncomputable def endN (p0 p1 text : List Nat) (c : Nat) : List Nat := fourN [] (text.drop (text.length - 1)) (text.drop (text.length - 2)) (p0 ++ p1) (c / 4 % 4)
theorem at_tup {O : Oj} {l : List V} (hs : l.length < 300) (hk : l[k]? = some x) : idxV O (.tup l) (.int (k : Nat)) = some x := atV_k hs hk
theorem at_four {O : Oj} {a c d e : V} (hk : [a, c, d, e][k]? = some x) : idxV O (.tup [a, c, d, e]) (.int (k : Nat)) = some x := atV_k (show 4 < 300 by decide) hk
theorem two_at {p0 p1 p2 p3 : List Nat} (h : k < 2) : [V.str p0, .str p1, .str p2, .str p3][k]? = some (.str (twoN p0 p1 k)) := match k, h with
 | 0, _ => rfl
 | 1, _ => rfl
theorem four_at {p0 p1 p2 p3 : List Nat} (h : k < 4) : [V.str p0, .str p1, .str p2, .str p3][k]? = some (.str (fourN p0 p1 p2 p3 k)) := match k, h with
 | 0, _ => rfl
 | 1, _ => rfl
 | 2, _ => rfl
 | 3, _ => rfl
theorem cell_fit {C : List Nat} {i : Nat} {O : Oj} (h7 : C.length = 7) (hi : i < 7) : idxV O (.lst (intL C)) (.int (i : Nat)) = some (.int (C.getD i 0 : Nat)) := nat_fit (l := C) rfl (lt_of_le_of_lt (le_of_eq h7) (by decide)) (Nat.lt_of_lt_of_eq hi h7.symm)
theorem clip_k {n : Nat} (k : Nat) : clipV n 1 (some (k : Int)) d = (min k n : Nat) := by
 have e : clipV n 1 (some (k : Int)) d = max 0 (min (if (k : Int) < 0 then (k : Int) + n else k) n) := by kernel_rfl!
 rw [e, if_neg (Int.not_lt.mpr (natCast_nonneg k)), cmin, Int.max_eq_right (Int.le_min.mpr ⟨natCast_nonneg _, natCast_nonneg _⟩)]
theorem clip_neg {n : Nat} (k : Nat) (hk : 0 < k) : clipV n 1 (some (-(k : Int))) d = (n - k : Nat) := by
 have e : clipV n 1 (some (-(k : Int))) d = max 0 (min (if -(k : Int) < 0 then -(k : Int) + n else -(k : Int)) n) := by kernel_rfl!
 have h1 := Int.add_le_add_right (Int.le_of_lt (Int.neg_neg_of_pos (ofNat_lt.mpr hk))) (n : Int)
 rw [Int.zero_add] at h1
 rw [e, if_pos (Int.neg_neg_of_pos (ofNat_lt.mpr hk)), Int.min_eq_left h1, Int.add_comm, ← Int.sub_eq_add_neg]
 rcases Nat.le_total k n with h | h
 ·rw [ofNat_sub h]; exact Int.max_eq_right (Int.sub_nonneg_of_le (ofNat_le.mpr h))
 ·rw [Nat.sub_eq_zero_of_le h]; exact Int.max_eq_left (Int.sub_nonpos_of_le (ofNat_le.mpr h))
theorem str_take {O : Oj} {l : List Nat} (k : Nat) (hs : l.length < 300) : sliceV O (.str l) .none (.int (k : Nat)) .none = some (.str (l.take k)) := by
 have e := str_sl (O := O) (lo := .none) (hi := .int (k : Nat)) (a := none) (c := some (k : Int)) (is := sliceRange (0 : Nat) (min k l.length : Nat) 1) hs rfl rfl (congrArg (fun i => some (sliceRange (0 : Nat) i 1)) (clip_k k))
 rwa [picked_run, drop_zero, sub_zero, ← List.take_eq_take_min] at e
theorem str_last {O : Oj} {l : List Nat} (k : Nat) (hk : 0 < k) (hs : l.length < 300) : sliceV O (.str l) (.int (-(k : Int))) .none .none = some (.str (l.drop (l.length - k))) := by
 have e := str_sl (O := O) (lo := .int (-(k : Int))) (hi := .none) (a := some (-(k : Int))) (c := none) (is := sliceRange (l.length - k : Nat) (l.length : Nat) 1) hs rfl rfl (congrArg (fun i => some (sliceRange i (l.length : Nat) 1)) (clip_neg k hk))
 rwa [picked_run, take_of_length_le (le_of_eq length_drop)] at e
section
variable {n b : Nat} {O O1 : Oj} {Q : Fl → List Fr → Oj → Prop} {scr ce pa ms al le te pl fr en nm bs st px gt td tu ch cs kn lw hg lk cu du ne ak wo : Option V} {C : List Nat} {p0 p1 p2 p3 : List Nat}
theorem s_5 (h7 : C.length = 7) (hj : joiOk [] (textL p0 p1 (C.getD 0 0)) = true) (q : Q .next (lwF none scr (some (.lst (intL C))) (some (paV p0 p1 p2 p3)) ms al le (some (.str (textN p0 p1 (C.getD 0 0)))) pl fr en nm bs st px gt td tu ch cs kn lw hg lk cu du ne ak wo) O1) :
 (W G3 (n + 112)).s (stAt lwB 5) (lwF none scr (some (.lst (intL C))) (some (paV p0 p1 p2 p3)) ms al le te pl fr en nm bs st px gt td tu ch cs kn lw hg lk cu du ne ak wo) b Q O1 := by
 have h9 : C.getD 0 0 % 9 < 9 := mod_lt _ (by decide)
 have e : ((List.range (C.getD 0 0 % 9)).map fun j => V.str (twoN p0 p1 (C.getD 0 0 / 9 / 2 ^ j % 2))) = strL (textL p0 p1 (C.getD 0 0)) := by rw [strL, textL, map_map]; rfl
 refine lf (cell_fit (i := 0) h7 (by decide)) (lf (range1_fit (a := C.getD 0 0 % 9) rfl (lt_trans h9 (by decide))) (lf (src1_fit (lt_trans h9 (by decide))) (lcm (List.range (C.getD 0 0 % 9)) (FRi _ _ "place") (fun j => V.str (twoN p0 p1 (C.getD 0 0 / 9 / 2 ^ j % 2))) (fun (k : Nat) => .int k) (.items _) (fun _ _ => rfl) (fun j hj acc K1 K2 k1 k2 => ?_) (by rw [length_range]; exact lt_trans h9 (by decide)) (pures_s _ _) ?_)))
 ·have hj9 : j < 9 := lt_trans (mem_range.mp hj) h9
  exact lf (cell_fit (i := 0) h7 (by decide)) (lf (pow_fit (d := 2) rfl (lt_trans hj9 (by decide))) (lf (div_fit (pow_pos (by decide)) (pow_lt_pow_of_lt (by decide) (lt_trans hj9 (by decide)))) (lf (at_four (k := C.getD 0 0 / 9 / 2 ^ j % 2) (two_at (mod_lt _ (by decide)))) (k1 rfl))))
 ·rw [e]
  exact lf (joi_fit (v := .lst _) rfl hj) q
theorem s_6 (h7 : C.length = 7) (h0 : p0.length ≤ 5) (h1 : p1.length ≤ 5) (q : Q .next (lwF none scr (some (.lst (intL C))) (some (paV p0 p1 p2 p3)) ms al le te (some (.lst (strL (plainN p0 p1 (C.getD 1 0))))) fr en nm bs st px gt td tu ch cs kn lw hg lk cu du ne ak wo) O1) :
 (W G3 (n + 112)).s (stAt lwB 6) (lwF none scr (some (.lst (intL C))) (some (paV p0 p1 p2 p3)) ms al le te pl fr en nm bs st px gt td tu ch cs kn lw hg lk cu du ne ak wo) b Q O1 := by
 have e : ([0, 1, 2, 3, 4].map fun k => V.str (fourN p0 p1 (p0 ++ p0) (p0 ++ p1) (C.getD 1 0 / 4 ^ k % 4))) = strL (plainN p0 p1 (C.getD 1 0)) := by rw [strL, plainN, map_map]; rfl
 refine lcm [0, 1, 2, 3, 4] (FRi _ _ "k") (fun k => V.str (fourN p0 p1 (p0 ++ p0) (p0 ++ p1) (C.getD 1 0 / 4 ^ k % 4))) (fun (k : Nat) => .int k) (.items _) (fun _ _ => rfl) (fun k hk acc K1 K2 k1 k2 => ?_) (by decide) (pures_s _ _) (e ▸ q)
 have hk5 : k < 5 := (show ∀ j ∈ [0, 1, 2, 3, 4], j < 5 by decide) k hk
 have hp1 : 4 ^ k < 2 ^ 300 := lt_of_lt_of_le (pow_lt_pow_of_lt (by decide) hk5) (by decide)
 exact lf (cat_str (lt_of_le_of_lt (add_le_add h0 h0) (by decide))) (lf (cat_str (lt_of_le_of_lt (add_le_add h0 h1) (by decide))) (lf (cell_fit (i := 1) h7 (by decide)) (lf (pow_fit (d := 4) rfl (lt_trans hk5 (by decide))) (lf (div_fit (pow_pos (by decide)) hp1) (lf (at_four (k := C.getD 1 0 / 4 ^ k % 4) (four_at (mod_lt _ (by decide)))) (k1 rfl))))))
theorem s_7 (h7 : C.length = 7) (h0 : p0.length ≤ 5) (h1 : p1.length ≤ 5) (ht : text.length < 300) (q : Q .next (lwF none scr (some (.lst (intL C))) (some (paV p0 p1 p2 p3)) ms al le (some (.str text)) pl (some (.str (frontN p0 p1 text (C.getD 3 0)))) en nm bs st px gt td tu ch cs kn lw hg lk cu du ne ak wo) O1) :
 (W G3 (n + 112)).s (stAt lwB 7) (lwF none scr (some (.lst (intL C))) (some (paV p0 p1 p2 p3)) ms al le (some (.str text)) pl fr en nm bs st px gt td tu ch cs kn lw hg lk cu du ne ak wo) b Q O1 :=
 lf (str_take 1 ht) (lf (str_take 2 ht) (lf (cat_str (lt_of_le_of_lt (add_le_add h0 h1) (by decide))) (lf (cell_fit (i := 3) h7 (by decide)) (lf (at_four (k := C.getD 3 0 % 4) (four_at (mod_lt _ (by decide)))) q))))
theorem s_8 (h7 : C.length = 7) (h0 : p0.length ≤ 5) (h1 : p1.length ≤ 5) (ht : text.length < 300) (q : Q .next (lwF none scr (some (.lst (intL C))) (some (paV p0 p1 p2 p3)) ms al le (some (.str text)) pl fr (some (.str (endN p0 p1 text (C.getD 3 0)))) nm bs st px gt td tu ch cs kn lw hg lk cu du ne ak wo) O1) :
 (W G3 (n + 112)).s (stAt lwB 8) (lwF none scr (some (.lst (intL C))) (some (paV p0 p1 p2 p3)) ms al le (some (.str text)) pl fr en nm bs st px gt td tu ch cs kn lw hg lk cu du ne ak wo) b Q O1 :=
 lf (str_last 1 (by decide) ht) (lf (str_last 2 (by decide) ht) (lf (cat_str (lt_of_le_of_lt (add_le_add h0 h1) (by decide))) (lf (cell_fit (i := 3) h7 (by decide)) (lf (at_four (k := C.getD 3 0 / 4 % 4) (four_at (mod_lt _ (by decide)))) q))))
noncomputable def pairS : Nat → List (List Nat)
 | 0 => [(u "s").cps.toList, (u "t").cps.toList, (u "ß").cps.toList, (u "ﬆ").cps.toList]
 | 1 => [(u "f").cps.toList, (u "i").cps.toList, (u "ﬀ").cps.toList, (u "ﬁ").cps.toList]
 | _ => [(u "f").cps.toList, (u "l").cps.toList, (u "ﬀ").cps.toList, (u "ﬂ").cps.toList]
noncomputable def pwN (c4 i : Nat) : List Nat := (pairS (c4 % 3)).getD i []
noncomputable def pairC (c4 : Nat) : V := paV (pwN c4 0) (pwN c4 1) (pwN c4 2) (pwN c4 3)
noncomputable def markL : List Int := [173, 847, 6150, 6155, 6156, 6157, 8203, 8204, 8205, 8288, 65279, 65024, 65025, 65026, 65027, 65028, 65029, 65030, 65031, 65032, 65033, 65034, 65035, 65036, 65037, 65038, 65039]
noncomputable def markN (c4 : Nat) : List Nat := [(markL.getD (c4 / 3 % 27) 0).toNat]
noncomputable def alphaL : List Int := [0, 1, 2, 4, 7, 8, 9, 10, 11, 12]
noncomputable def alphaN (c4 : Nat) : Nat := 119808 + 52 * (alphaL.getD (c4 / 81 % 10) 0).toNat
theorem at_ints {O : Oj} {v : V} (h : iO O v = some (l.map .int)) (hs : l.length < 300) (hk : k < l.length) : idxV O v (.int (k : Nat)) = some (.int (l.getD k 0)) :=
 at_fit h (by rw [length_map]; exact hs) (by rw [getElem?_map, getElem?_eq_getElem hk, getD_eq_getElem?_getD, getElem?_eq_getElem hk]; rfl)
theorem ints_at (hk : k < l.length) : (l.map V.int)[k]? = some (.int (l.getD k 0)) := by rw [getElem?_map, getElem?_eq_getElem hk, getD_eq_getElem?_getD, getElem?_eq_getElem hk]; rfl
theorem mark_ok : ∀ k, k < 27 → markL.getD k 0 = ((markL.getD k 0).toNat : Int) ∧ ((markL.getD k 0).toNat < 55000 ∨ 60000 ≤ (markL.getD k 0).toNat ∧ (markL.getD k 0).toNat < 1000000) := by decide
theorem alpha_ok : ∀ k, k < 10 → alphaL.getD k 0 = ((alphaL.getD k 0).toNat : Int) ∧ (alphaL.getD k 0).toNat < 1000 := by decide
theorem s_4 (h7 : C.length = 7) {al' : Nat} (q : Q .next (lwF none scr (some (.lst (intL C))) (some (paV p0 p1 p2 p3)) (some (.lst (markL.map .int))) (some (.int (al' : Nat))) (some (worldT p0 p1 p2 p3 (markN (C.getD 4 0)) al')) te pl fr en nm bs st px gt td tu ch cs kn lw hg lk cu du ne ak wo) O1) :
 (W G3 (n + 112)).s (stAt lwB 4) (lwF none scr (some (.lst (intL C))) (some (paV p0 p1 p2 p3)) (some (.lst (markL.map .int))) (some (.int (al' : Nat))) le te pl fr en nm bs st px gt td tu ch cs kn lw hg lk cu du ne ak wo) b Q O1 := by
 have hm : C.getD 4 0 / 3 % 27 < 27 := mod_lt _ (by decide)
 obtain ⟨m1, m2⟩ := mark_ok _ hm
 exact lf (cell_fit (i := 4) h7 (by decide)) (lf (at_ints (v := .lst (markL.map .int)) (k := C.getD 4 0 / 3 % 27) rfl (by decide) hm) (lf (chr_fit m1 m2) q))
theorem s_3 (h7 : C.length = 7) (q : Q .next (lwF none scr (some (.lst (intL C))) pa ms (some (.int (alphaN (C.getD 4 0) : Nat))) le te pl fr en nm bs st px gt td tu ch cs kn lw hg lk cu du ne ak wo) O1) :
 (W G3 (n + 112)).s (stAt lwB 3) (lwF none scr (some (.lst (intL C))) pa ms al le te pl fr en nm bs st px gt td tu ch cs kn lw hg lk cu du ne ak wo) b Q O1 := by
 have ha : C.getD 4 0 / 81 % 10 < 10 := mod_lt _ (by decide)
 obtain ⟨a1, a2⟩ := alpha_ok _ ha
 have ia : ∀ {O : Oj}, idxV O (.tup (alphaL.map .int)) (.int (C.getD 4 0 / 81 % 10 : Nat)) = some (.int ((alphaL.getD (C.getD 4 0 / 81 % 10) 0).toNat : Nat)) := by
  intro O
  rw [← a1]
  exact at_tup (by decide) (ints_at ha)
 exact lf (cell_fit (i := 4) h7 (by decide)) (lf ia (lf (mul_fit (a := 52) (by decide) (lt_trans a2 (by decide))) q))
theorem s_2 (q : ∀ O2, (∀ k, k ≤ O1.length → O2.take k = O1.take k) → Q .next (lwF none scr ce pa (some (.lst (markL.map .int))) al le te pl fr en nm bs st px gt td tu ch cs kn lw hg lk cu du ne ak wo) O2) :
 (W G3 (n + 112)).s (stAt lwB 2) (lwF none scr ce pa ms al le te pl fr en nm bs st px gt td tu ch cs kn lw hg lk cu du ne ak wo) b Q O1 := by
 have e : binV (O1 ++ [AObj.list ((rangeL 65024 65040 1).map .int)]) .Add (.lst ((markL.take 11).map .int)) (.ref O1.length) = some (.lst (markL.map .int)) := by
  rw [show rangeL 65024 65040 1 = markL.drop 11 by decide]
  exact Mine.bs (f := fun r => if lO (((markL.take 11).map V.int).length + r.length) then some (V.lst ((markL.take 11).map V.int ++ r)) else none) (list_new O1 _) rfl
 exact lf e (q _ fun k hk => take_append_of_le_length hk)
theorem s_1 (h7 : C.length = 7) (q : ∀ O2, (∀ k, k ≤ O1.length → O2.take k = O1.take k) → Q .next (lwF none scr (some (.lst (intL C))) (some (pairC (C.getD 4 0))) ms al le te pl fr en nm bs st px gt td tu ch cs kn lw hg lk cu du ne ak wo) O2) :
 (W G3 (n + 112)).s (stAt lwB 1) (lwF none scr (some (.lst (intL C))) pa ms al le te pl fr en nm bs st px gt td tu ch cs kn lw hg lk cu du ne ak wo) b Q O1 := by
 refine lf (cell_fit (i := 4) h7 (by decide)) (lf (at_fit (k := C.getD 4 0 % 3) (x := pairC (C.getD 4 0)) (l := [pairC 0, pairC 1, pairC 2]) (list_new O1 _) (by decide) ?_) (q _ fun k hk => take_append_of_le_length hk))
 unfold pairC pwN
 rcases mod3 (C.getD 4 0) with h | h | h <;> rw [h] <;> rfl
noncomputable def isN (n k : Nat) : List Nat := sliceRange (clipV n 7 (some (k : Int)) 0) (clipV n 7 (some 60) n) 7
theorem cnt7 {A B : Int} (hA : 0 ≤ A) (hB : B ≤ 60) : (if A < B then (B - A + 7 - 1) / 7 else 0).toNat ≤ 64 := by
 split
 ·rw [Int.toNat_le]
  exact Int.le_trans (Int.ediv_le_ediv (by decide) (show B - A + 7 - 1 ≤ 66 by omega)) (by decide)
 ·exact zero_le _
theorem isN_len {n : Nat} (h : n < 64) : (isN n k).length ≤ 64 := by
 have e : (isN n k).length = (if max 0 (min (if (k : Int) < 0 then (k : Int) + n else k) n) < max 0 (min (60 : Int) n) then (max 0 (min (60 : Int) n) - max 0 (min (if (k : Int) < 0 then (k : Int) + n else k) n) + 7 - 1) / 7 else 0).toNat := by
  unfold isN sliceRange
  rw [length_map, length_range]; rfl
 exact e ▸ cnt7 (Int.le_max_left ..) (Int.max_le.mpr ⟨by decide, Int.le_trans (Int.min_le_left ..) (by decide)⟩)
theorem picked_map {α β : Type} (f : α → β) (l : List α) (is : List Nat) : picked (l.map f) is = (picked l is).map f := by
 rw [picked, picked, List.map_filterMap]
 exact congrArg (fun g => is.filterMap g) (funext fun i => getElem?_map ..)
theorem sl7_fit {O : Oj} (h : l.length < 64) : sliceV O (.lst (l.map .int)) (.int (k : Nat)) (.int 60) (.int 7) = some (.lst ((picked l (isN l.length k)).map .int)) := by
 have e : sliceV O (.lst (l.map .int)) (.int (k : Nat)) (.int 60) (.int 7) = if lO (l.map V.int).length then some (.lst (picked (l.map V.int) (isN (l.map V.int).length k))) else none := by kernel_rfl!
 rw [e, length_map, if_pos (lenOk_3 (lt_trans h (by decide))), picked_map]
theorem sum_mod (l : List Int) : 0 ≤ (l.map fun (i : Int) => i % 1000000).sum ∧ (l.map fun (i : Int) => i % 1000000).sum ≤ 1000000 * (l.length : Int) ∧ (l.map fun i => i % 1000000).all (fun i => decide (0 ≤ i)) = true := by
 induction l with
 | nil => exact ⟨by decide, by decide, rfl⟩
 | cons i l ih =>
  have h1 := Int.emod_nonneg i (show (1000000 : Int) ≠ 0 by decide)
  have h2 := Int.emod_lt_of_pos i (show (0 : Int) < 1000000 by decide)
  rw [map_cons, sum_cons, length_cons]
  exact ⟨by omega, by omega, and_eq_true_iff.mpr ⟨decide_eq_true h1, ih.2.2⟩⟩
theorem intsV_map : ∀ l : List Int, intsV (l.map .int) = some l
 | [] => rfl
 | _ :: l => congrArg (map _) (intsV_map l)
noncomputable def cellS (script : List Int) (k : Nat) : List Int := (picked script (isN script.length k)).map fun i => i % 1000000
noncomputable def cellN (script : List Int) (p : Nat × Nat) : Nat := p.2 + (cellS script p.1).sum.toNat
noncomputable def cellL : List (Nat × Nat) := [(0, 1502), (1, 412), (2, 2488), (3, 1), (4, 0), (5, 6), (6, 4)]
theorem sumS {b : Nat} {O : Oj} (h : script.length < 64) : callB (u "sum") [.lst ((picked script (isN script.length k)).map fun i => V.int (i % 1000000))] b O = some (.int (cellS script k).sum, O) := by
 obtain ⟨h1, h2, h3⟩ := sum_mod (picked script (isN script.length k))
 have hl : (picked script (isN script.length k)).length ≤ 64 := le_trans (List.length_filterMap_le _ _) (isN_len h)
 have e : ((picked script (isN script.length k)).map fun i => V.int (i % 1000000)) = (cellS script k).map .int := by rw [cellS, map_map]; rfl
 have e2 : callB (u "sum") [.lst ((cellS script k).map .int)] b O = (intsV ((cellS script k).map .int)).bind fun is => if is.all (fun i => decide (0 ≤ i)) && decide (is.sum.toNat < 2 ^ 62) && lO ((cellS script k).map V.int).length then some (V.int is.sum, O) else none := by kernel_rfl!
 rw [e, e2, intsV_map, Option.bind_some]
 refine if_pos (and_eq_true_iff.mpr ⟨and_eq_true_iff.mpr ⟨h3, decide_eq_true ?_⟩, lenOk_3 (by rw [length_map, cellS, length_map]; exact lt_of_le_of_lt hl (by decide))⟩)
 show ((picked script (isN script.length k)).map fun i => i % 1000000).sum.toNat < _
 omega
theorem s_0 (h : script.length < 64) (q : Q .next (lwF none (some (.lst (script.map .int))) (some (.lst (intL (cellL.map (cellN script))))) pa ms al le te pl fr en nm bs st px gt td tu ch cs kn lw hg lk cu du ne ak wo) O1) :
 (W G3 (n + 112)).s (stAt lwB 0) (lwF none (some (.lst (script.map .int))) ce pa ms al le te pl fr en nm bs st px gt td tu ch cs kn lw hg lk cu du ne ak wo) b Q O1 := by
 have e : (cellL.map fun p => V.int (cellN script p : Nat)) = intL (cellL.map (cellN script)) := by rw [intL, map_map]; rfl
 refine lcm cellL (fun t => ⟨_, [(u ".0", none), (u "k", t.map fun p => .int (p.1 : Nat)), (u "cell", t.map fun p => .int (p.2 : Nat))], false, 0, none⟩ :: _) (fun p => V.int (cellN script p : Nat)) (fun p => .tup [.int (p.1 : Nat), .int (p.2 : Nat)]) (.items _) (fun _ _ => rfl) (fun p hp acc K1 K2 k1 k2 => ?_) (by decide) (pures_i _ _) (e ▸ q)
 have hl : (picked script (isN script.length p.1)).length ≤ 64 := le_trans (List.length_filterMap_le _ _) (isN_len h)
 refine lf (sl7_fit h) (lcm (picked script (isN script.length p.1)) (FRg (fun i => .int i) _ _ "number") (fun i => V.int (i % 1000000)) (fun i => .int i) (.items _) (fun _ _ => rfl) (fun i hi acc K1 K2 k1 k2 => k1 rfl) (lt_of_le_of_lt hl (by decide)) (pures_i _ _) (lf (sumS h) (kq ?_ (k1 rfl))))
 have h1 := (sum_mod (picked script (isN script.length p.1))).1
 show (p.2 : Int) + ((picked script (isN script.length p.1)).map fun i => i % 1000000).sum = ((p.2 + ((picked script (isN script.length p.1)).map fun i => i % 1000000).sum.toNat : Nat) : Int)
 exact congrArg ((p.2 : Int) + ·) (Int.toNat_of_nonneg h1).symm
end
end
section
variable {sty : List Nat} {base : Nat}
noncomputable def nmL : List (List Nat) := ["OPTIMIZED", "NEWLOCALS", "VARARGS", "VARKEYWORDS", "NESTED", "GENERATOR", "NOFREE", "COROUTINE", "ITERABLE_COROUTINE", "ASYNC_GENERATOR"].map fun s => (ofString s).cps.toList
theorem words_nm (b : Nat) (O : Oj) : methV G3 (u "split") (.str (ofString "OPTIMIZED NEWLOCALS VARARGS VARKEYWORDS NESTED GENERATOR NOFREE COROUTINE ITERABLE_COROUTINE ASYNC_GENERATOR").cps.toList) [] b O = some (.ref O.length, O ++ [.list (strL nmL)]) := by kernel_rfl!
noncomputable def nameN (base k : Nat) : List Nat := if base + k < 10 then nmL.getD (base + k) [] else hexT (2 ^ (base + k))
noncomputable def styN (c : Nat) : List Nat := [0, 1, 2, 3, 4, 5].map fun k => c / 4 ^ k % 4
theorem sq2 {K : V → Oj → Prop} {O : Oj} {x : V} {i j : List Nat} (e : i = j) (k : K (.tup [.str j, x]) O) : K (.tup [.str i, x]) O := e ▸ k
noncomputable def pcV (ps : List (List Nat × List Nat)) : List V := ps.map fun p => .tup [.str p.1, .str p.2]
theorem pures_pc : ∀ ps : List (List Nat × List Nat), pures (pcV ps) = true
 | [] => rfl
 | _ :: ps => pures_pc ps
theorem strPairs_pc : ∀ ps : List (List Nat × List Nat), strPairs (pcV ps) = some (pcD ps)
 | [] => rfl
 | p :: ps => by
  show (strPair (.tup [.str p.1, .str p.2])).bind _ = _
  rw [show strPair (.tup [.str p.1, .str p.2]) = some (p.1, .str p.2) from rfl, Option.bind_some]
  show (strPairs (pcV ps)).map _ = _
  rw [strPairs_pc ps]; rfl
theorem putAll_pc : ∀ (ps d : List (List Nat × List Nat)), ((d ++ ps).map (·.1)).Nodup → putAll (pcD d) (pcD ps) = pcD (d ++ ps)
 | [], d, _ => by rw [append_nil]; rfl
 | p :: ps, d, h => by
  have e : putD (pcD d) p.1 (.str p.2) = pcD (d ++ [p]) := by
   unfold putD
   rw [if_neg ?_]
   ·unfold pcD; rw [map_append]; rfl
   ·intro z
    obtain ⟨x, hx, hx2⟩ := any_eq_true.mp z
    obtain ⟨y, hy, rfl⟩ := mem_map.mp hx
    rw [map_append, map_cons] at h
    exact (nodup_append.mp h).2.2 y.1 (mem_map_of_mem hy) p.1 (mem_cons_self ..) (of_decide_eq_true hx2)
  show putAll (putD (pcD d) p.1 (.str p.2)) (pcD ps) = _
  rw [e, putAll_pc ps (d ++ [p]) (by rw [append_assoc]; exact h), append_assoc]; rfl
theorem dict_fit {b : Nat} {O : Oj} {ps : List (List Nat × List Nat)} (h : (ps.map (·.1)).Nodup) (hl : ps.length < 300) : callY (u "dict") [.lst (pcV ps)] b O = some (.ref O.length, O ++ [.dS (pcD ps)]) := by
 have e : callY (u "dict") [.lst (pcV ps)] b O = if lO (pcV ps).length then (strPairs (pcV ps)).map fun es => (V.ref O.length, O ++ [.dS (putAll [] es)]) else none := by kernel_rfl!
 rw [e, if_pos (lenOk_3 (by rw [pcV, length_map]; exact hl)), strPairs_pc, Option.map_some, show putAll [] (pcD ps) = pcD ps from putAll_pc ps [] h]
noncomputable def psN (plain : List (List Nat)) (sty : List Nat) (base : Nat) (p0 p1 p2 p3 mk : List Nat) (al : Nat) : List (List Nat × List Nat) := [0, 1, 2, 3, 4].map fun k => (nameN base k, tyN (plain.getD k []) (sty.getD k 0) p0 p1 p2 p3 mk al)
section
variable {n b : Nat} {O O1 : Oj} {Q : Fl → List Fr → Oj → Prop} {scr ce pa ms al le te pl fr en nm bs st px gt td tu ch cs kn lw hg lk cu du ne ak wo : Option V} {C : List Nat} {p0 p1 p2 p3 : List Nat} {mk : List Nat} {al' : Nat}
theorem s_9 (q : Q .next (lwF none scr ce pa ms al le te pl fr en (some (.ref O1.length)) bs st px gt td tu ch cs kn lw hg lk cu du ne ak wo) (O1 ++ [.list (strL nmL)])) : (W G3 (n + 112)).s (stAt lwB 9) (lwF none scr ce pa ms al le te pl fr en nm bs st px gt td tu ch cs kn lw hg lk cu du ne ak wo) b Q O1 :=
 lf (words_nm b O1) q
theorem s_10 (h7 : C.length = 7) (q : Q .next (lwF none scr (some (.lst (intL C))) pa ms al le te pl fr en nm (some (.int (C.getD 5 0 % 28 : Nat))) (some (.lst (intL (styN (C.getD 2 0))))) px gt td tu ch cs kn lw hg lk cu du ne ak wo) O1) :
 (W G3 (n + 112)).s (stAt lwB 10) (lwF none scr (some (.lst (intL C))) pa ms al le te pl fr en nm bs st px gt td tu ch cs kn lw hg lk cu du ne ak wo) b Q O1 := by
 have e : ([0, 1, 2, 3, 4, 5].map fun k => V.int (C.getD 2 0 / 4 ^ k % 4 : Nat)) = intL (styN (C.getD 2 0)) := by rw [intL, styN, map_map]; rfl
 refine lf (cell_fit (i := 5) h7 (by decide)) (lcm [0, 1, 2, 3, 4, 5] (FRi _ _ "k") (fun k => V.int (C.getD 2 0 / 4 ^ k % 4 : Nat)) (fun (k : Nat) => .int k) (.items _) (fun _ _ => rfl) (fun k hk acc K1 K2 k1 k2 => ?_) (by decide) (pures_i _ _) (e ▸ q))
 have hk6 : k < 6 := (show ∀ j ∈ [0, 1, 2, 3, 4, 5], j < 6 by decide) k hk
 have hp1 : 4 ^ k < 2 ^ 300 := lt_of_lt_of_le (pow_lt_pow_of_lt (by decide) hk6) (by decide)
 exact lf (cell_fit (i := 2) h7 (by decide)) (lf (pow_fit (d := 4) rfl (lt_trans hk6 (by decide))) (lf (div_fit (pow_pos (by decide)) hp1) (k1 rfl)))
theorem s_11 {plain : List (List Nat)} {nb : Nat} (h5 : plain.length = 5) (h6 : sty.length = 6) (hb : base < 28) (hn : lA O1 nb = some (strL nmL)) (hty : ∀ k, k < 5 → TyOk (plain.getD k []) (sty.getD k 0) p0 p1 p2 p3 mk al') (hnd : ((psN plain sty base p0 p1 p2 p3 mk al').map (·.1)).Nodup)
 (q : Q .next (lwF none scr ce pa ms al (some (worldT p0 p1 p2 p3 mk al')) te (some (.lst (strL plain))) fr en (some (.ref nb)) (some (.int (base : Nat))) (some (.lst (intL sty))) (some (.ref O1.length)) gt td tu ch cs kn lw hg lk cu du ne ak wo) (O1 ++ [.dS (pcD (psN plain sty base p0 p1 p2 p3 mk al'))])) :
 (W G3 (n + 112)).s (stAt lwB 11) (lwF none scr ce pa ms al (some (worldT p0 p1 p2 p3 mk al')) te (some (.lst (strL plain))) fr en (some (.ref nb)) (some (.int (base : Nat))) (some (.lst (intL sty))) px gt td tu ch cs kn lw hg lk cu du ne ak wo) b Q O1 := by
 have e : ([0, 1, 2, 3, 4].map fun k => V.tup [.str (nameN base k), .str (tyN (plain.getD k []) (sty.getD k 0) p0 p1 p2 p3 mk al')]) = pcV (psN plain sty base p0 p1 p2 p3 mk al') := by rw [pcV, psN, map_map]; rfl
 refine lcm [0, 1, 2, 3, 4] (FRi _ _ "k") (fun k => V.tup [.str (nameN base k), .str (tyN (plain.getD k []) (sty.getD k 0) p0 p1 p2 p3 mk al')]) (fun (k : Nat) => .int k) (.items _) (fun _ _ => rfl) (fun k hk acc K1 K2 k1 k2 => ?_) (by decide) ?_ ?_
 ·have hk5 : k < 5 := (show ∀ j ∈ [0, 1, 2, 3, 4], j < 5 by decide) k hk
  refine sd (p := ((base : Int) + k < 10)) (fun h => ?_) fun h => ?_
  ·have h : base + k < 10 := by exact ofNat_lt.mp h
   have e : nmL.getD (base + k) [] = nameN base k := (if_pos h).symm
   exact lf (str_fit (v := .ref nb) (k := base + k) (listAt_app hn) (by decide) (lt_of_lt_of_le h (by decide))) (lf (str_fit (l := plain) rfl (lt_of_le_of_lt (le_of_eq h5) (by decide)) (Nat.lt_of_lt_of_eq hk5 h5.symm)) (lf (nat_fit (l := sty) rfl (lt_of_le_of_lt (le_of_eq h6) (by decide)) (Nat.lt_of_lt_of_eq (Nat.lt_succ_of_lt hk5) h6.symm)) (ty_call (hty k hk5) (sq2 e (k1 rfl)))))
  ·have h : ¬ base + k < 10 := by exact fun z => h (ofNat_lt.mpr z)
   have e : hexT (2 ^ (base + k)) = nameN base k := (if_neg h).symm
   exact lf (pow_fit (d := 2) (k := base + k) rfl (lt_trans (Nat.add_lt_add hb hk5) (by decide))) (lf (hex_fit (f := 2 ^ (base + k)) (pow_lt (lt_trans (Nat.add_lt_add hb hk5) (by decide)))) (lf (str_fit (l := plain) rfl (lt_of_le_of_lt (le_of_eq h5) (by decide)) (Nat.lt_of_lt_of_eq hk5 h5.symm)) (lf (nat_fit (l := sty) rfl (lt_of_le_of_lt (le_of_eq h6) (by decide)) (Nat.lt_of_lt_of_eq (Nat.lt_succ_of_lt hk5) h6.symm)) (ty_call (hty k hk5) (sq2 e (k1 rfl))))))
 ·rw [e]; exact pures_pc _
 ·rw [e]
  have hl : (psN plain sty base p0 p1 p2 p3 mk al').length < 300 := by rw [psN, length_map]; decide
  generalize psN plain sty base p0 p1 p2 p3 mk al' = ps at hnd q hl ⊢
  exact lf (dict_fit (O := O1) hnd hl) q
theorem s_12 {text : List Nat} (h6 : sty.length = 6) (hty : TyOk text (sty.getD 5 0) p0 p1 p2 p3 mk al') (hpr : PrOk (tyN text (sty.getD 5 0) p0 p1 p2 p3 mk al')) (he : joiT [] (prepL (tyN text (sty.getD 5 0) p0 p1 p2 p3 mk al')) = text)
 (q : Q .next (lwF none scr ce pa ms al (some (worldT p0 p1 p2 p3 mk al')) (some (.str text)) pl fr en nm bs (some (.lst (intL sty))) px (some (.str text)) td tu ch cs kn lw hg lk cu du ne ak wo) O1) :
 (W G3 (n + 112)).s (stAt lwB 12) (lwF none scr ce pa ms al (some (worldT p0 p1 p2 p3 mk al')) (some (.str text)) pl fr en nm bs (some (.lst (intL sty))) px gt td tu ch cs kn lw hg lk cu du ne ak wo) b Q O1 :=
 lf (nat_fit (k := 5) (l := sty) rfl (lt_of_le_of_lt (le_of_eq h6) (by decide)) (Nat.lt_of_lt_of_eq (by decide) h6.symm)) (ty_call hty (pr_call hpr.sg hpr.len hpr.join (by rw [he]; exact q)))
theorem s_13 {front ends got : List Nat} {pc : Nat} (h7 : C.length = 7) (q : Q .next (lwF none scr (some (.lst (intL C))) pa ms al le te pl (some (.str front)) (some (.str ends)) nm (some (.int (base : Nat))) st (some (.ref pc)) (some (.str got)) td tu ch cs kn lw hg lk cu du ne ak (some (wV pc front ends got base (C.getD 6 0 % 3) (C.getD 6 0 / 3 % 2 * 128)))) O1) :
 (W G3 (n + 112)).s (stAt lwB 13) (lwF none scr (some (.lst (intL C))) pa ms al le te pl (some (.str front)) (some (.str ends)) nm (some (.int (base : Nat))) st (some (.ref pc)) (some (.str got)) td tu ch cs kn lw hg lk cu du ne ak wo) b Q O1 :=
 lf (cell_fit (i := 6) h7 (by decide)) (lf (cell_fit (i := 6) h7 (by decide)) (lf (mul_fit (a := C.getD 6 0 / 3 % 2) (d := 128) (lt_trans (mod_lt _ (by decide)) (show 2 < 2 ^ 300 by decide)) (by decide)) q))
theorem s_14 (q : Q .next (lwF none scr ce pa ms al le te pl fr en nm bs st px gt (some (.ref (O1 ++ [AObj.dI []]).length)) (some (.int (0 : Nat))) ch cs kn lw hg lk cu du ne (some (.ref O1.length)) wo) (O1 ++ [.dI []] ++ [.list []])) :
 (W G3 (n + 112)).s (stAt lwB 14) (lwF none scr ce pa ms al le te pl fr en nm bs st px gt td tu ch cs kn lw hg lk cu du ne ak wo) b Q O1 := q
end
end
section
variable {script : List Int}
theorem near_has {f : Nat → Bool} (hf : Anti f) {A : List (Nat × Bool)} (ok : AnsOk f A) (hk : ∀ c, c < 32 → kN c A = some (f c)) (c : Nat) (hc : c < 32) : (nearL f c).contains (f c) = true ∨ (A.map (·.1)).contains c = true := by
 by_cases h : c ∈ A.map (·.1)
 ·exact .inr (contains_iff_mem.mpr h)
 ·obtain ⟨k, h5, h1, h2⟩ := near_ok hf ok hc h (hk c hc)
  refine .inl (contains_iff_mem.mpr (mem_map.mpr ⟨k, mem_filter.mpr ⟨?_, ?_⟩, h1⟩))
  ·have : ∀ k, k < 5 → k ∈ [0, 1, 2, 3, 4] := by decide
   exact this k h5
  ·have e : decide (((c / 2 ^ k : Nat) : Int) % 2 = 1) = decide (c / 2 ^ k % 2 = 1) := decide_eq_decide.mpr ⟨fun z => ofNat.inj z, fun z => congrArg ofNat z⟩
   unfold nearP
   rw [e, beq_eq_false_iff_ne.mpr h2]; rfl
structure PlainOk (p0 p1 p2 p3 mk : List Nat) (al : Nat) (text front ends : List Nat) (plain : List (List Nat)) (sty : List Nat) (base no hi : Nat) : Prop where
 h5 : plain.length = 5
 h6 : sty.length = 6
 hb : base < 28
 tl : text.length < 300
 fl : front.length < 300
 el : ends.length < 300
 ty : ∀ k, k < 5 → TyOk (plain.getD k []) (sty.getD k 0) p0 p1 p2 p3 mk al
 nd : ((psN plain sty base p0 p1 p2 p3 mk al).map (·.1)).Nodup
 tyt : TyOk text (sty.getD 5 0) p0 p1 p2 p3 mk al
 prt : PrOk (tyN text (sty.getD 5 0) p0 p1 p2 p3 mk al)
 same : joiT [] (prepL (tyN text (sty.getD 5 0) p0 p1 p2 p3 mk al)) = text
 ju : ∀ c, c < 32 → ∃ inner, JuOk front ends text (psN plain sty base p0 p1 p2 p3 mk al) base no hi c inner ∧ verdict front ends text inner = takenF front plain ends text c
structure Plain (C : List Nat) : Prop where
 l0 : (pwN (C.getD 4 0) 0).length ≤ 5
 l1 : (pwN (C.getD 4 0) 1).length ≤ 5
 tj : joiOk [] (textL (pwN (C.getD 4 0) 0) (pwN (C.getD 4 0) 1) (C.getD 0 0)) = true
 all : PlainOk (pwN (C.getD 4 0) 0) (pwN (C.getD 4 0) 1) (pwN (C.getD 4 0) 2) (pwN (C.getD 4 0) 3) (markN (C.getD 4 0)) (alphaN (C.getD 4 0)) (textN (pwN (C.getD 4 0) 0) (pwN (C.getD 4 0) 1) (C.getD 0 0)) (frontN (pwN (C.getD 4 0) 0) (pwN (C.getD 4 0) 1) (textN (pwN (C.getD 4 0) 0) (pwN (C.getD 4 0) 1) (C.getD 0 0)) (C.getD 3 0)) (endN (pwN (C.getD 4 0) 0) (pwN (C.getD 4 0) 1) (textN (pwN (C.getD 4 0) 0) (pwN (C.getD 4 0) 1) (C.getD 0 0)) (C.getD 3 0)) (plainN (pwN (C.getD 4 0) 0) (pwN (C.getD 4 0) 1) (C.getD 1 0)) (styN (C.getD 2 0)) (C.getD 5 0 % 28) (C.getD 6 0 % 3) (C.getD 6 0 / 3 % 2 * 128)
noncomputable def SortOk : Prop := ∀ f : Nat → Bool, sortV (pairsV f chainsL.flatten) = some (pairsV f (List.range 32))
section
variable {n b : Nat} {O O1 : Oj} {Q : Fl → List Fr → Oj → Prop} {scr ce pa ms al le te pl fr en nm bs st px gt td tu ch cs kn lw hg lk cu du ne ak wo : Option V} {C : List Nat} {p0 p1 p2 p3 : List Nat} {mk : List Nat} {al' : Nat}
theorem law_c {text front ends : List Nat} {plain : List (List Nat)} {sty : List Nat} {base nb : Nat} (h7 : C.length = 7) (hs : SortOk) (H : PlainOk p0 p1 p2 p3 mk al' text front ends plain sty base (C.getD 6 0 % 3) (C.getD 6 0 / 3 % 2 * 128)) (hn : lA O1 nb = some (strL nmL)) (hT : O1.take O.length = O) (hOl : O.length ≤ O1.length) (q : Well O Q) :
 xs (W G3 (n + 124)) (lwB.drop 11) (lwF none scr (some (.lst (intL C))) pa ms al (some (worldT p0 p1 p2 p3 mk al')) (some (.str text)) (some (.lst (strL plain))) (some (.str front)) (some (.str ends)) (some (.ref nb)) (some (.int (base : Nat))) (some (.lst (intL sty))) px gt td tu ch cs kn lw hg lk cu du ne ak wo) b Q O1 := by
 obtain ⟨A, hR, ok, nd, h20, hk⟩ := hansel (taken_anti front ends text plain)
 refine stN rfl (s_11 (n := n + 12) H.h5 H.h6 H.hb hn H.ty H.nd (stN rfl (s_12 (n := n + 12) H.h6 H.tyt H.prt H.same (stN rfl (s_13 (n := n + 12) h7 (stN rfl (s_14 (n := n + 12) ?_)))))))
 have hJ := H.ju
 generalize psN plain sty base p0 p1 p2 p3 mk al' = ps at hJ ⊢
 have x1 : (O1 ++ [AObj.dS (pcD ps)] ++ [AObj.dI []] ++ [AObj.list []])[O1.length]? = some (.dS (pcD ps)) := at_app (at_app (by rw [getElem?_append_right (le_refl _), sub_self]; rfl))
 have x2 : (O1 ++ [AObj.dS (pcD ps)] ++ [AObj.dI []] ++ [AObj.list []])[(O1 ++ [AObj.dS (pcD ps)]).length]? = some (.dI (ansL [])) := at_app (by rw [getElem?_append_right (le_refl _), sub_self]; rfl)
 have h1 : O.length ≤ (O1 ++ [AObj.dS (pcD ps)]).length := by rw [length_append]; exact le_trans hOl (le_add_right _ _)
 have h2 : O.length ≤ (O1 ++ [AObj.dS (pcD ps)] ++ [AObj.dI []]).length := by rw [length_append]; exact le_trans h1 (le_add_right _ _)
 have S : LoopS O (O1 ++ [AObj.dS (pcD ps)] ++ [AObj.dI []] ++ [AObj.list []]) (O1 ++ [AObj.dS (pcD ps)]).length O1.length ps [] := ⟨x2, x1, by rw [take_append_of_le_length h2, take_append_of_le_length h1, take_append_of_le_length hOl]; exact hT, h1, by rw [length_append]; exact Nat.succ_ne_self _⟩
 refine stN rfl (s_15 (n := n + 1) (taken_anti front ends text plain) hJ hR S (list_new (O1 ++ [AObj.dS (pcD ps)] ++ [AObj.dI []]) []) fun ch tu kn lw hg lk cu O2 S2 => ?_)
 refine stN rfl (s_16 (n := n + 12) H.h5 H.fl H.el H.tl (stN rfl (s_17 (n := n + 12) (fl := chainsL.flatten) (f := takenF front plain ends text) (by decide) (by decide) (hs _) (stN rfl (s_18 (n := n + 12) (A := A) (at_app S2.ak) (near_has (taken_anti front ends text plain) ok hk) fun cs ne => ?_)))))
 exact s_19 (n := n + 4) (at_app S2.ak) nd ok h20 (by rw [take_append_of_le_length (le_trans S2.hr (le_of_lt (List.getElem?_eq_some_iff.mp S2.ak).1))]; exact S2.tk) q
theorem law_a (hs : script.length < 64) (hso : SortOk) (hP : ∀ C : List Nat, C.length = 7 → Plain C) (hT : O1.take O.length = O) (q : Well O Q) :
 xs (W G3 (n + 124)) (lwB.drop 0) (lwF none (some (.lst (script.map .int))) ce pa ms al le te pl fr en nm bs st px gt td tu ch cs kn lw hg lk cu du ne ak wo) b Q O1 := by
 have h7 : (cellL.map (cellN script)).length = 7 := length_map ..
 refine stN rfl (s_0 (n := n + 12) hs ?_)
 generalize cellL.map (cellN script) = C at h7
 have P := hP C h7
 have hl : O.length ≤ O1.length := by rw [← hT, length_take]; exact min_le_right _ _
 refine stN rfl (s_1 (n := n + 12) h7 fun O2 t2 => stN rfl (s_2 (n := n + 12) fun O3 t3 => stN rfl (s_3 (n := n + 12) h7 (stN rfl (s_4 (n := n + 12) h7 (stN rfl (s_5 (n := n + 12) h7 P.tj (stN rfl (s_6 (n := n + 12) h7 P.l0 P.l1 (stN rfl (s_7 (n := n + 12) h7 P.l0 P.l1 P.all.tl (stN rfl (s_8 (n := n + 12) h7 P.l0 P.l1 P.all.tl (stN rfl (s_9 (n := n + 12) (stN rfl (s_10 (n := n + 12) h7 ?_)))))))))))))))))
 have hT2 : O2.take O.length = O := (t2 _ hl).trans hT
 have hl2 : O.length ≤ O2.length := by rw [← hT2, length_take]; exact min_le_right _ _
 have hT3 : O3.take O.length = O := (t3 _ hl2).trans hT2
 have hl3 : O.length ≤ O3.length := by rw [← hT3, length_take]; exact min_le_right _ _
 exact law_c h7 hso P.all (list_new O3 _) (by rw [take_append_of_le_length hl3]; exact hT3) (by rw [length_append]; exact le_trans hl3 (le_add_right _ _)) q
end
theorem law_call {n b : Nat} {O : Oj} {Q : V → Oj → Prop} (hs : script.length < 64) (hso : SortOk) (hP : ∀ C : List Nat, C.length = 7 → Plain C) (q : Q (.bool true) O) : CALL (W G3 (n + 125)) (.cst (.ref 175)) [.lst (script.map .int)] [] b Q O :=
 toC (law_a (b := O.length) (O := O) hs hso hP take_length fun F O1 hT => vq (Q := Q) hT q)
end
noncomputable def flatC : List Nat := [24, 25, 18, 22, 12, 28, 10, 26, 20, 21, 8, 9, 11, 27, 2, 6, 14, 30, 4, 5, 13, 29, 16, 17, 19, 23, 0, 1, 3, 7, 15, 31]
theorem flat_is : chainsL.flatten = flatC := by decide
noncomputable def kf (i j : Nat) : Option Bool := (flatC[i]?).bind fun a => (flatC[j]?).bind fun c => if (a : Int) = c then none else some (decide ((a : Int) < c))
noncomputable def kfF (i j : Nat) : Option Bool := (flatC[i]?).bind fun a => (flatC[j]?).bind fun c => if Nat.beq a c then none else some (ble (a + 1) c)
theorem kf_fast : kf = kfF := funext fun i => funext fun j => by
 unfold kf kfF
 cases flatC[i]? with
 | none => rfl
 | some a =>
  cases flatC[j]? with
  | none => rfl
  | some c =>
   show (if (a : Int) = c then none else some (decide ((a : Int) < c))) = if Nat.beq a c = true then none else some (ble (a + 1) c)
   by_cases h : a = c
   ·rw [if_pos (show (a : Int) = c from congrArg ofNat h), if_pos (Nat.beq_eq.mpr h)]
   ·rw [if_neg (fun z : (a : Int) = c => h (ofNat.inj z)), if_neg (fun z => h (Nat.beq_eq.mp z))]
    exact congrArg some (Bool.eq_iff_iff.mpr ⟨fun z => Nat.ble_eq.mpr (ofNat_lt.mp (of_decide_eq_true z)), fun z => decide_eq_true (ofNat_lt.mpr (Nat.ble_eq.mp z))⟩)
noncomputable def permC : List Nat := (List.range 32).map fun c => flatC.findIdx fun x => Nat.beq x c
theorem run32 : (runK kfF (kas_sort 32)).map Array.toList = some permC := by decide +kernel
theorem pick32 : picked flatC permC = List.range 32 := by decide
theorem lt_ans (f : Nat → Bool) : ltAtV (pairsV f flatC) = kf := funext fun i => funext fun j => by
 unfold ltAtV kf pairsV
 rw [getElem?_map, getElem?_map]
 cases flatC[i]? with
 | none => rfl
 | some a =>
  cases flatC[j]? with
  | none => rfl
  | some c => rfl
theorem sort_ok : SortOk := fun f => by
 have h1 : (pairsV f chainsL.flatten).all pairI = true := all_eq_true.mpr fun v hv => by
  obtain ⟨c, _, rfl⟩ := mem_map.mp hv; rfl
 have hl : (pairsV f chainsL.flatten).length = 32 := by rw [flat_is, pairsV, length_map]; rfl
 obtain ⟨p, h2, h3⟩ := map_eq_some_iff.mp run32
 have h4 : (permC.all fun i => decide (i < 32)) = true := by decide
 unfold sortV
 rw [if_pos h1, hl, flat_is, lt_ans, kf_fast, h2, Option.bind_some, h3, if_pos h4, pairsV, picked_map, pick32]; rfl
section
variable {x y : List Nat}
noncomputable def occF (x y : List Nat) (hi limit : Nat) : List Nat → Nat → Nat → List Nat
 | [], _, _ => []
 | i :: r, n, free => if n < limit && free ≤ i && i + y.length ≤ hi && ((x.drop i).take y.length == y) then i :: occF x y hi limit r (n + 1) (i + y.length) else occF x y hi limit r n free
theorem occ_run (x y : List Nat) (hi limit : Nat) : ∀ (l : List Nat) (a : Array Nat) (free : Nat), (forIn l (a, free) (StrLaws.occBody (S x) (S y) hi limit)).run.fst.toList = a.toList ++ occF x y hi limit l a.size free
 | [], a, free => by simp [occF]
 | i :: l, a, free => by
  rw [forIn_cons]
  unfold StrLaws.occBody occF
  have e : Builtin.Str.subAt (S x) (S y) i = ((x.drop i).take y.length == y) := by
   rw [StrLaws.subAt_eq, sL]; rfl
  rw [e, sL]
  by_cases hc : ((a.size < limit ∧ free ≤ i) ∧ i + y.length ≤ hi) ∧ ((x.drop i).take y.length == y) = true
  ·rw [if_pos hc, if_pos (by simp only [and_eq_true, decide_eq_true_eq]; exact hc)]
   have := occ_run x y hi limit l (a.push i) (i + y.length)
   rw [Array.size_push] at this
   refine Eq.trans this ?_
   simp
  ·rw [if_neg hc, if_neg (by simp only [and_eq_true, decide_eq_true_eq]; exact hc)]
   exact occ_run x y hi limit l a free
theorem occ_fast (x y : List Nat) (lo hi limit : Nat) : Builtin.Str.occurrences (S x) (S y) lo hi limit = occF x y hi limit (range' lo (hi + 1 - lo)) 0 lo := by
 rw [StrLaws.occ_eq, occ_run]
 rfl
noncomputable def kindF (x : List Nat) : Nat := if x.all (fun c => decide (c < 256)) then 1 else if x.all (fun c => decide (c < 65536)) then 2 else 4
theorem kind_fast (x : List Nat) : Builtin.Str.strKind (S x) = kindF x := by
 unfold Builtin.Str.strKind kindF S
 simp
noncomputable def partsF (x cuts : List Nat) (w : Nat) : List (List Nat) := ((0 :: cuts.map (· + w)).zip (cuts ++ [x.length])).map fun p => (x.drop p.1).take (p.2 - p.1)
theorem parts_fast (x cuts : List Nat) (w : Nat) : (Builtin.Str.partsBetween (S x) cuts w).map (fun p => p.cps.toList) = partsF x cuts w := by
 unfold Builtin.Str.partsBetween partsF
 rw [sL, map_map]
 apply map_congr_left
 intro p _
 show (Builtin.Str.strSub (S x) p.1 p.2).cps.toList = _
 rw [StrLaws.strSub_toList]; rfl
noncomputable def occ0 (x y : List Nat) : List Nat := occF x y x.length (x.length + 1) (range' 0 (x.length + 1)) 0 0
noncomputable def splF (x y : List Nat) : List (List Nat) := if decide (x.length < y.length) || decide (kindF x < kindF y) then [x] else if (occ0 x y).isEmpty then [x] else partsF x (occ0 x y) y.length
theorem split_fast (x y : List Nat) : (Txt.split (S x) (S y)).map (fun p => p.cps.toList) = splF x y := by
 unfold Txt.split splF
 rw [kind_fast, kind_fast, sL, sL, occ_fast]
 show List.map _ (if (decide (x.length < y.length) || decide (kindF x < kindF y)) = true then [S x] else if (occ0 x y).isEmpty = true then [S x] else Builtin.Str.partsBetween (S x) (occ0 x y) y.length) = _
 split
 ·rfl
 ·split
  ·rfl
  ·exact parts_fast _ _ _
theorem parts_len (x cuts : List Nat) (w : Nat) : (Builtin.Str.partsBetween (S x) cuts w).length = cuts.length + 1 := by
 unfold Builtin.Str.partsBetween
 simp
theorem occF_len (x y : List Nat) (hi limit : Nat) : ∀ (l : List Nat) (n free : Nat), (occF x y hi limit l n free).length ≤ l.length
 | [], _, _ => le_refl _
 | i :: l, n, free => by
  unfold occF
  split
  ·exact succ_le_succ (occF_len x y hi limit l _ _)
  ·exact Nat.le_succ_of_le (occF_len x y hi limit l _ _)
theorem partsOk {k : Nat} (h : x.length ≤ 100000) : (Builtin.Str.partsBetween (S x) (Builtin.Str.occurrences (S x) (S y) 0 x.length (x.length + 1)) k).length ≤ 1000000 := by
 rw [parts_len, occ_fast]
 have := occF_len x y x.length (x.length + 1) (range' 0 (x.length + 1 - 0)) 0 0
 rw [List.length_range'] at this
 exact le_trans (succ_le_succ this) (le_trans (succ_le_succ (succ_le_succ h)) (by decide))
noncomputable def joiF (x : List Nat) : List (List Nat) → List Nat
 | [] => []
 | w :: l => w ++ l.flatMap fun p => x ++ p
theorem join_fast (x : List Nat) (l : List (List Nat)) : joiT x l = joiF x l := by
 have go : ∀ (l : List (List Nat)) (a : Array Nat), ((l.map S).foldl (fun acc p => acc ++ (S x).cps ++ p.cps) a).toList = a.toList ++ l.flatMap fun p => x ++ p := by
  intro l
  induction l with
  | nil => intro a; simp
  | cons w l ih => intro a; simp only [map_cons, foldl_cons, ih, flatMap_cons]; simp [S]
 cases l with
 | nil => rfl
 | cons w l =>
  show (((S w :: l.map S).drop 1).foldl (fun acc p => acc ++ (S x).cps ++ p.cps) ((S w :: l.map S).headD Str.empty).cps).toList = _
  rw [List.drop_one, List.tail_cons, List.headD_cons, go]
  rfl
theorem splT_fast (x y : List Nat) : splT x y = splF x y := split_fast x y
theorem splOk_of (hy : y ≠ []) (hx : x.length ≤ 100000) : splOk x y = true := by
 unfold splOk
 simp only [and_eq_true, Bool.not_eq_true', decide_eq_true_eq]
 refine ⟨⟨?_, by exact le_trans (by with_reducible assumption) (by decide)⟩, partsOk hx⟩
 cases y with
 | nil => exact absurd rfl hy
 | cons => rfl
end
section
variable {x g : List Nat} {k : Nat}
noncomputable def dotted (m : List Nat) : List Nat → List (List Nat) → List Nat
 | g, [] => g
 | g, h :: r => g ++ (m ++ dotted m h r)
theorem at_is {y : List Nat} {hi i : Nat} : StrLaws.At (S x) (S y) hi i ↔ i + y.length ≤ hi ∧ (x.drop i).take y.length = y := by
 unfold StrLaws.At
 rw [StrLaws.subAt_eq, sL]
 exact ⟨fun h => ⟨h.1, eq_of_beq h.2⟩, fun h => ⟨h.1, beq_iff_eq.mpr h.2⟩⟩
section
variable {s0 : Nat} {st : List Nat}
theorem no_dots (h : x[k]? ≠ some s0) : ¬ StrLaws.At (S x) (S (s0 :: st)) x.length k := fun a => by
 obtain ⟨h1, h2⟩ := at_is.mp a
 have h3 : ((x.drop k).take (s0 :: st).length)[0]? = some s0 := by rw [h2]; rfl
 rw [List.getElem?_take_of_lt (show 0 < (s0 :: st).length from succ_pos _), getElem?_drop, add_zero] at h3
 exact h h3
theorem piece_free {rest : List Nat} {a : Nat} (hx : x.drop a = g ++ rest) (hg : s0 ∉ g) (h1 : a ≤ k) (h2 : k < a + g.length) : ¬ StrLaws.At (S x) (S (s0 :: st)) x.length k := no_dots fun h => by
 obtain ⟨j, rfl⟩ := Nat.exists_eq_add_of_le h1
 have hj : j < g.length := by exact Nat.lt_of_add_lt_add_left h2
 have e : x[a + j]? = (x.drop a)[j]? := getElem?_drop.symm
 rw [e, hx, getElem?_append_left hj, getElem?_eq_getElem hj] at h
 exact hg (Option.some.inj h ▸ getElem_mem hj)
theorem parts_are {x : List Nat} : ∀ (gs : List (List Nat)) (g : List Nat) (a f : Nat) (cuts : List Nat), a ≤ x.length → x.drop a = dotted (s0 :: st) g gs → s0 ∉ g → (∀ h ∈ gs, s0 ∉ h) → StrLaws.ChainG (S x) (S (s0 :: st)) x.length a cuts f → (∀ k, f ≤ k → ¬ StrLaws.At (S x) (S (s0 :: st)) x.length k) →
 (StrLaws.partsFrom (S x) (s0 :: st).length a cuts).map (fun p => p.cps.toList) = g :: gs
 | [], g, a, f, cuts, hal, hx, hg, hgs, hc, hf => by
  have hx : x.drop a = g ++ [] := by rw [hx, append_nil]; rfl
  cases cuts with
  | nil =>
   show [(Builtin.Str.strSub (S x) a (S x).length).cps.toList] = _
   rw [StrLaws.strSub_toList, sL]
   show [(x.drop a).take _] = _
   rw [take_of_length_le (le_of_eq length_drop), hx, append_nil]
  | cons c r =>
   refine absurd hc.2.1 ?_
   have hl : a + g.length = x.length := by
    have := congrArg length hx
    rw [length_drop, append_nil] at this
    exact (congrArg (a + ·) this.symm).trans (Nat.add_sub_of_le hal)
   rcases lt_or_ge c (a + g.length) with h | h
   ·exact piece_free hx hg hc.1 h
   ·exact fun z => by have := (at_is.mp z).1; rw [length_cons] at this; omega
 | h :: r, g, a, f, cuts, hal, hx, hg, hgs, hc, hf => by
  have hx : x.drop a = g ++ ((s0 :: st) ++ dotted (s0 :: st) h r) := hx
  have hl : a + (g.length + ((s0 :: st).length + (dotted (s0 :: st) h r).length)) = x.length := by
   have := congrArg length hx
   rw [length_drop, length_append, length_append] at this
   exact (congrArg (a + ·) this.symm).trans (Nat.add_sub_of_le hal)
  have hd : x.drop (a + g.length) = (s0 :: st) ++ dotted (s0 :: st) h r := by rw [← drop_drop, hx, List.drop_left]
  have hat : StrLaws.At (S x) (S (s0 :: st)) x.length (a + g.length) := at_is.mpr ⟨by exact le_trans (le_of_eq (add_assoc _ _ _)) (le_trans (add_le_add_left (add_le_add_left (le_add_right _ _) _) _) (le_of_eq hl)), by rw [hd, take_left]⟩
  cases cuts with
  | nil => cases hc; exact absurd hat (hf _ (le_add_right _ _))
  | cons c r' =>
   have ec : c = a + g.length := by
    rcases Nat.lt_trichotomy c (a + g.length) with z | z | z
    ·exact absurd hc.2.1 (piece_free hx hg hc.1 z)
    ·exact z
    ·exact absurd hat (hc.2.2.1 _ (le_add_right _ _) z)
   subst ec
   show (Builtin.Str.strSub (S x) a (a + g.length)).cps.toList :: (StrLaws.partsFrom (S x) (s0 :: st).length (a + g.length + (s0 :: st).length) r').map (fun p => p.cps.toList) = _
   have hd3 : x.drop (a + g.length + (s0 :: st).length) = dotted (s0 :: st) h r := by rw [← drop_drop, hd, List.drop_left]
   rw [parts_are r h (a + g.length + (s0 :: st).length) f r' (le_trans (le_of_eq (add_assoc _ _ _)) (le_trans (add_le_add_left (add_le_add_left (le_add_right _ _) _) _) (le_of_eq hl))) hd3 (hgs h (mem_cons_self ..)) (fun y hy => hgs y (mem_cons_of_mem _ hy)) hc.2.2.2 hf, StrLaws.strSub_toList, Nat.add_sub_cancel_left]
   show (x.drop a).take g.length :: _ = _
   rw [hx, take_left]
theorem kind_ge (x : List Nat) : 1 ≤ kindF x := by
 unfold kindF
 split
 ·exact le_refl _
 ·split <;> decide
theorem split_dotted (hk : kindF (s0 :: st) = 1) {gs : List (List Nat)} (hg : s0 ∉ g) (hr : ∀ y ∈ gs, s0 ∉ y) : splT (dotted (s0 :: st) g gs) (s0 :: st) = g :: gs := by
 generalize hx : dotted (s0 :: st) g gs = x
 obtain ⟨f, hc, hf⟩ := StrLaws.occ_tight (S x) (S (s0 :: st)) (by rw [sL]; exact succ_pos _)
 have hp := parts_are gs g 0 f _ (zero_le _) (by rw [drop_zero]; exact hx.symm) hg hr hc hf
 unfold splT Txt.split
 have h0 : ∀ {n}, Builtin.Str.occurrences (S x) (S (s0 :: st)) 0 (S x).length n = [] → (StrLaws.partsFrom (S x) (s0 :: st).length 0 []).map (fun p => p.cps.toList) = [x] := fun {n} _ => by
  show [(Builtin.Str.strSub (S x) 0 (S x).length).cps.toList] = _
  rw [StrLaws.strSub_toList, sL]
  show [(x.drop 0).take _] = _
  rw [drop_zero, sub_zero, take_length]
 cases ho : Builtin.Str.occurrences (S x) (S (s0 :: st)) 0 (S x).length ((S x).length + 1) with
 | nil =>
  have e : g :: gs = [x] := hp.symm.trans (ho ▸ h0 ho)
  rw [e]
  split
  ·rfl
  ·rfl
 | cons c r =>
  have hat : StrLaws.At (S x) (S (s0 :: st)) x.length c := by rw [show (S x).length = x.length from sL x] at ho; rw [sL, ho] at hc; exact hc.2.1
  have hlen := (at_is.mp hat).1
  have h1 : (decide ((S x).length < (S (s0 :: st)).length) || decide (Builtin.Str.strKind (S x) < Builtin.Str.strKind (S (s0 :: st)))) = false := by
   rw [sL, sL, kind_fast, kind_fast, hk]
   exact Bool.or_eq_false_iff.mpr ⟨decide_eq_false (not_lt.mpr (le_trans (le_add_left _ _) hlen)), decide_eq_false (not_lt.mpr (kind_ge x))⟩
  rw [if_neg (by rw [h1]; decide), if_neg (show ¬ (c :: r).isEmpty = true from Bool.false_ne_true), StrLaws.partsBetween_eq, ← ho]
  exact hp
end
noncomputable def dotsL : List Nat := [46, 46, 46]
noncomputable def Clean (g : List Nat) : Prop := 46 ∉ g
theorem dots_in (g h : List Nat) (r : List (List Nat)) : StrLaws.At (S (dotted dotsL g (h :: r))) (S dotsL) (dotted dotsL g (h :: r)).length g.length :=
 at_is.mpr ⟨by show _ ≤ (g ++ (dotsL ++ dotted dotsL h r)).length; rw [length_append, length_append]; exact add_le_add_left (le_add_right _ _) _, by show ((g ++ (dotsL ++ dotted dotsL h r)).drop g.length).take 3 = _; rw [List.drop_left]; rfl⟩
theorem in_dotted (g h : List Nat) (r : List (List Nat)) : ellIn (dotted dotsL g (h :: r)) = true :=
 (StrLaws.found_iff (S (dotted dotsL g (h :: r))) (S dotsL)).mpr ⟨_, dots_in g h r⟩
theorem joi_dotted (m : List Nat) : ∀ (gs : List (List Nat)) (g : List Nat), joiT m (g :: gs) = dotted m g gs
 | [], g => by rw [join_fast]; exact append_nil g
 | h :: r, g => by
  have ih := joi_dotted m r h
  rw [join_fast] at ih ⊢
  show g ++ ((m ++ h) ++ r.flatMap fun p => m ++ p) = g ++ (m ++ dotted m h r)
  rw [append_assoc, ← ih]; rfl
end
theorem find_sp (x y : List Nat) (lo hi : Nat) : (findT x y lo hi = -1 ∧ ∀ i, lo ≤ i → ¬ StrLaws.At (S x) (S y) hi i) ∨ ∃ i : Nat, findT x y lo hi = i ∧ lo ≤ i ∧ StrLaws.At (S x) (S y) hi i ∧ ∀ k, lo ≤ k → k < i → ¬ StrLaws.At (S x) (S y) hi k := by
 have e := StrLaws.occ_eq (S x) (S y) lo hi 1
 unfold findT
 rcases StrLaws.occ_first (S x) (S y) hi 1 (le_refl _) (range' lo (hi + 1 - lo)) lo (fun i h => (List.mem_range'_1.mp h).1) with ⟨h0, hn⟩ | ⟨pre, a, post, er, h0, ha, hn⟩
 ·rw [h0] at e
  rw [e]
  exact .inl ⟨rfl, fun i h1 h2 => hn i (List.mem_range'_1.mpr ⟨h1, by have := h2.1; exact lt_of_lt_of_le (Nat.lt_succ_of_le (le_trans (le_add_right _ _) this)) (Nat.sub_le_iff_le_add'.mp (le_refl _))⟩) h2⟩
 ·have hs := StrLaws.range'_split_from er
  generalize (forIn (range' lo (hi + 1 - lo)) ((#[] : Array Nat), lo) (StrLaws.occBody (S x) (S y) hi 1)).run.fst = arr at h0 e
  have h1 : arr.toList[0]? = some a := getElem?_toList.trans h0
  cases hL : arr.toList with
  | nil => rw [hL] at h1; cases h1
  | cons b t =>
   rw [hL] at h1
   obtain rfl : b = a := Option.some.inj h1
   rw [e, hL]
   exact .inr ⟨b, rfl, hs.1, ha, fun k h1 h2 => hn k (hs.2 k h1 h2)⟩
theorem ellGo_iff {got : List Nat} {ep : Nat} (hep : ep ≤ got.length) : ∀ (L : List (List Nat)) (sp : Nat), ellGo got (ep : Nat) L (sp : Nat) = true ↔ FitsF got ep L sp
 | [], _ => ⟨fun _ => trivial, fun _ => rfl⟩
 | w :: r, sp => by
  have em : min ep got.length = ep := min_eq_left hep
  unfold ellGo
  rw [clipT_nat, clipT_nat, em]
  rcases find_sp got w sp ep with ⟨e, hn⟩ | ⟨i, e, h1, h2, h3⟩
  ·rw [e, if_pos (by decide)]
   exact ⟨fun h => (nomatch h), fun ⟨i, h1, h2, _⟩ => absurd h2 (hn i h1)⟩
  ·rw [e, if_neg (Int.not_lt.mpr (natCast_nonneg i))]
   have ih := ellGo_iff hep r (i + w.length)
   exact ⟨fun h => ⟨i, h1, h2, ih.mp h⟩, fun ⟨j, g1, g2, g3⟩ => ih.mpr (fitsF_mono (add_le_add_right (Nat.le_of_not_lt fun z => h3 j g1 z g2) _) g3)⟩
theorem fits_pre {text : List Nat} {hi lo : Nat} {L : List (List Nat)} (h : lo ≤ hi) : FitsF text hi ([] :: L) lo ↔ FitsF text hi L lo :=
 ⟨fun ⟨i, h1, h2, h3⟩ => fitsF_mono h1 h3, fun h3 => ⟨lo, le_refl _, at_is.mpr ⟨h, rfl⟩, h3⟩⟩
theorem fits_post {text : List Nat} {hi : Nat} : ∀ {L : List (List Nat)} {lo : Nat}, lo ≤ hi → (FitsF text hi (L ++ [[]]) lo ↔ FitsF text hi L lo)
 | [], _, h => ⟨fun _ => trivial, fun _ => (fits_pre (L := []) h).mpr trivial⟩
 | p :: L, lo, h => ⟨fun ⟨i, h1, h2, h3⟩ => ⟨i, h1, h2, (fits_post (at_is.mp h2).1).mp h3⟩, fun ⟨i, h1, h2, h3⟩ => ⟨i, h1, h2, (fits_post (at_is.mp h2).1).mpr h3⟩⟩
noncomputable def staB (g w : List Nat) : Bool := decide (w.length ≤ g.length) && (g.take w.length == w)
noncomputable def endB (g w : List Nat) : Bool := decide (w.length ≤ g.length) && (g.drop (g.length - w.length) == w)
theorem sta_is (g w : List Nat) : Txt.startswith (S g) (S w) = staB g w := by
 unfold Txt.startswith staB
 rw [StrLaws.subAt_eq, sL, sL, zero_add]; rfl
theorem end_is (g w : List Nat) : Txt.endswith (S g) (S w) = endB g w := by
 unfold Txt.endswith endB
 rw [StrLaws.subAt_eq, sL, sL, zero_add]
 show (decide (w.length ≤ g.length) && ((g.drop (g.length - w.length)).take w.length == w)) = _
 cases h : decide (w.length ≤ g.length) with
 | false => rfl
 | true => rw [take_of_length_le (by rw [length_drop]; have := of_decide_eq_true h; exact le_of_eq (Nat.sub_sub_self this))]
theorem ellF_is (text front : List Nat) (ws : List (List Nat)) : ellF text (front :: ws) = if staB text front then some (front.length, (if front.isEmpty then [[]] else []) ++ ws) else none := by
 show (if front.isEmpty then some (0, front :: ws) else if Txt.startswith (S text) (S front) then some (front.length, ws) else none) = _
 rw [sta_is]
 cases front with
 | nil => rfl
 | cons c f => rfl
theorem ellB_is (text ends : List Nat) (ws : List (List Nat)) : ellB text (ws ++ [ends]) = if endB text ends then some ((text.length : Int) - ends.length, ws ++ (if ends.isEmpty then [[]] else [])) else none := by
 unfold ellB
 rw [List.getLast?_concat]
 show (if ends.isEmpty then _ else if Txt.endswith (S text) (S ends) then _ else none) = _
 rw [end_is]
 cases ends with
 | nil =>
  have e : endB text [] = true := and_eq_true_iff.mpr ⟨decide_eq_true (zero_le _), by rw [length_nil, sub_zero, List.drop_length]; rfl⟩
  rw [e]
  exact congrArg some (Prod.ext (Int.sub_zero _).symm rfl)
 | cons c f =>
  show (if endB text (c :: f) = true then some (_, (ws ++ [c :: f]).dropLast) else none) = if endB text (c :: f) = true then some (_, ws ++ []) else none
  rw [List.dropLast_concat, append_nil]
theorem ell_taken {front ends : List Nat} {inner : List (List Nat)} (text : List Nat) (hf : Clean front) (hi : ∀ p ∈ inner, Clean p) (he : Clean ends) : ellM (dotted dotsL front (inner ++ [ends])) text = takenN front inner ends text := by
 obtain ⟨h, r, hr⟩ : ∃ h r, inner ++ [ends] = h :: r := by
  cases inner with
  | nil => exact ⟨_, _, rfl⟩
  | cons p l => exact ⟨_, _, rfl⟩
 have hcl : ∀ y ∈ h :: r, Clean y := fun y hy => by
  rw [← hr] at hy
  rcases mem_append.mp hy with hy | hy
  ·exact hi y hy
  ·rw [mem_singleton.mp hy]; exact he
 have hW : ellW (dotted dotsL front (inner ++ [ends])) = front :: (inner ++ [ends]) := by rw [hr]; exact split_dotted (by decide) hf hcl
 have hI : ellIn (dotted dotsL front (inner ++ [ends])) = true := by rw [hr]; exact in_dotted _ _ _
 rw [ellM, if_pos hI, hW, ellF_is]
 unfold takenN
 cases hA : staB text front with
 | false =>
  show false = _
  have hA' : ¬ (front.length ≤ text.length ∧ text.take front.length = front) := fun z => by
   rw [staB, decide_eq_true z.1, z.2, beq_self_eq_true] at hA; cases hA
  by_cases h1 : text.length < front.length + ends.length
  ·rw [if_pos h1]
  ·rw [if_neg h1, if_neg fun z => hA' ⟨by exact le_trans (le_add_right _ _) (not_lt.mp h1), z⟩]
 | true =>
  obtain ⟨a1, a2⟩ := and_eq_true_iff.mp hA
  have a1 := of_decide_eq_true a1
  have a2 := eq_of_beq a2
  show ellY text front.length (_ ++ (inner ++ [ends])) = _
  unfold ellY
  rw [← append_assoc, ellB_is]
  cases hB : endB text ends with
  | false =>
   show false = _
   have hB' : ¬ (ends.length ≤ text.length ∧ text.drop (text.length - ends.length) = ends) := fun z => by
    rw [endB, decide_eq_true z.1, z.2, beq_self_eq_true] at hB; cases hB
   by_cases h1 : text.length < front.length + ends.length
   ·rw [if_pos h1]
   ·rw [if_neg h1, if_pos a2, if_neg fun z => hB' ⟨by exact le_trans (le_add_left _ _) (not_lt.mp h1), z⟩]
  | true =>
   obtain ⟨b1, b2⟩ := and_eq_true_iff.mp hB
   have b1 := of_decide_eq_true b1
   have b2 := eq_of_beq b2
   show ellZ text ((text.length : Int) - ends.length) (_ ++ inner ++ _) front.length = _
   have ee : (text.length : Int) - ends.length = ((text.length - ends.length : Nat) : Int) := (ofNat_sub b1).symm
   rw [ellZ, ee]
   by_cases h1 : text.length < front.length + ends.length
   ·rw [if_pos h1, if_pos (ofNat_lt.mpr (by omega))]
   ·rw [if_neg h1, if_pos a2, if_pos b2, if_neg (fun z => h1 (by have := ofNat_lt.mp z; omega))]
    have hle : front.length ≤ text.length - ends.length := by omega
    refine Bool.eq_iff_iff.mpr ((ellGo_iff (sub_le ..) _ _).trans (Iff.trans ?_ (takGo_iff (sub_le ..)).symm))
    refine Iff.trans ?_ fits_rev
    have e1 : FitsF text (text.length - ends.length) ((if front.isEmpty then [[]] else []) ++ inner ++ (if ends.isEmpty then [[]] else [])) front.length ↔ FitsF text (text.length - ends.length) ((if front.isEmpty then [[]] else []) ++ inner) front.length := by
     cases ends with
     | nil => exact fits_post hle
     | cons => rw [show (if (head :: tail).isEmpty then [([] : List Nat)] else []) = [] from rfl, append_nil]
    refine e1.trans ?_
    cases front with
    | nil => exact fits_pre hle
    | cons => exact Iff.rfl
section
variable {c base : Nat}
noncomputable def bitsGo : List Nat → Nat → List Nat × Option Nat
 | [], fl => ([], some fl)
 | k :: ks, fl => if fl &&& 2 ^ k = 0 then bitsGo ks fl else if fl ^^^ 2 ^ k = 0 then ([k], none) else (k :: (bitsGo ks (fl ^^^ 2 ^ k)).1, (bitsGo ks (fl ^^^ 2 ^ k)).2)
noncomputable def restL : Option Nat → List (List Nat)
 | none => []
 | some f => [hexT f]
theorem pf_bits : ∀ (ks : List Nat) (fl : Nat) (acc : List (List Nat)), pfGo ks fl acc = acc ++ ((bitsGo ks fl).1.map (fun k => nameF (2 ^ k)) ++ restL (bitsGo ks fl).2)
 | [], fl, acc => rfl
 | k :: ks, fl, acc => by
  unfold pfGo bitsGo
  by_cases h : fl &&& 2 ^ k = 0
  ·rw [if_pos h, if_neg (fun z => z h)]
   exact pf_bits ks fl acc
  ·rw [if_neg h, if_pos h]
   by_cases h2 : fl ^^^ 2 ^ k = 0
   ·rw [if_pos h2, if_pos h2]; rfl
   ·rw [if_neg h2, if_neg h2, pf_bits ks _ _, append_assoc]; rfl
theorem joiOk_small {x : List Nat} {l : List (List Nat)} (hx : x.length ≤ 1000) (hl : l.length ≤ 1000) (hw : ∀ w ∈ l, w.length ≤ 1000) : joiOk x l = true := by
 unfold joiOk JoinOk
 have go : ∀ (l : List (List Nat)) (a : Nat), (∀ w ∈ l, w.length ≤ 1000) → (l.map S).foldl (fun a s => a + s.length + (S x).length) a ≤ a + 2000 * l.length := by
  intro l
  induction l with
  | nil => intro a _; simp
  | cons w l ih =>
   intro a h
   have h1 := ih (a + (S w).length + (S x).length) (fun v hv => h v (mem_cons_of_mem _ hv))
   have h2 := h w (mem_cons_self ..)
   rw [sL, sL] at h1
   simp only [map_cons, foldl_cons, length_cons]
   rw [sL, sL]
   exact le_trans h1 (le_trans (add_le_add_right (add_le_add (add_le_add_left h2 a) hx) _) (le_of_eq (add_right_comm a 2000 _)))
 have h := go l 0 hw
 rw [List.foldl_toArray']
 ·have e : Builtin.Str.tooLong ((l.map S).foldl (fun a s => a + s.length + (S x).length) 0) = false := by
   unfold Builtin.Str.tooLong
   exact decide_eq_false (by rw [sizeLine_eq]; omega)
  rw [e]; rfl
 ·rfl
noncomputable def bit5 (c : Nat) : List Nat := (List.range 5).filter fun k => decide (c / 2 ^ k % 2 = 1)
noncomputable def nameK (j : Nat) : List Nat := if j < 10 then nmL.getD j [] else hexT (2 ^ j)
noncomputable def bitsB (base : Nat) : Bool := (List.range 32).all fun c => decide (bitsGo (List.range 32) (c * 2 ^ base) = if c = 0 then ([], some 0) else ((bit5 c).map (base + ·), none))
theorem bits_all : (List.range 28).all bitsB = true := by decide +kernel
theorem nameF_lo : ∀ j, j < 10 → nameF (2 ^ j) = nameK j := by decide +kernel
theorem nameF_hi : ∀ j, j < 32 → 10 ≤ j → flagL.lookup ((2 ^ j : Nat) : Int) = none := by decide +kernel
theorem nameF_K {j : Nat} (h : j < 32) : nameF (2 ^ j) = nameK j := by
 rcases lt_or_ge j 10 with h1 | h1
 ·exact nameF_lo j h1
 ·unfold nameF nameK
  rw [nameF_hi j h h1, if_neg (not_lt.mpr h1)]
noncomputable def nmT : List (List Nat) := (List.range 32).map nameK
noncomputable def nmB : Bool := nmT.all fun w => !(w == hexT 0) && !w.contains 44 && decide (w.length ≤ 100)
theorem nm_ok : nmB = true := by decide +kernel
theorem nm_nd : nmT.Nodup := by decide +kernel
noncomputable def namesC (base c : Nat) : List (List Nat) := if c = 0 then [hexT 0] else (bit5 c).map fun k => nameK (base + k)
noncomputable def varB (hi base : Nat) : Bool := (List.range 32).all fun c => decide (varint (octN (c * 2 ^ base) 0 hi) = some (c * 2 ^ base, []))
theorem var_0 : (List.range 28).all (varB 0) = true := by decide +kernel
theorem var_1 : (List.range 28).all (varB 128) = true := by decide +kernel
theorem kind_cs : kindF [44, 32] = 1 := by decide
theorem words_is {f : Nat} {g : List Nat} {gs : List (List Nat)} (h : pfL f = g :: gs) (hc : ∀ w ∈ g :: gs, 44 ∉ w) : wordsF f = g :: gs := by
 show splT (joiT [44, 32] (pfL f)) [44, 32] = _
 rw [h, joi_dotted]
 exact split_dotted kind_cs (hc g (mem_cons_self ..)) fun y hy => hc y (mem_cons_of_mem _ hy)
theorem bit5_lt {k : Nat} (h : k ∈ bit5 c) : k < 5 := mem_range.mp (mem_filter.mp h).1
theorem pfL_is (hb : base < 28) (hc : c < 32) : pfL (c * 2 ^ base) = namesC base c := by
 have h := of_decide_eq_true (all_eq_true.mp (all_eq_true.mp bits_all base (mem_range.mpr hb)) c (mem_range.mpr hc))
 show pfGo (List.range 32) (c * 2 ^ base) [] = _
 rw [pf_bits, h, nil_append, namesC]
 by_cases h0 : c = 0
 ·rw [if_pos h0, if_pos h0]; rfl
 ·rw [if_neg h0, if_neg h0]
  show ((bit5 c).map (base + ·)).map (fun k => nameF (2 ^ k)) ++ [] = _
  rw [append_nil, map_map]
  exact map_congr_left fun k hk => nameF_K (show base + k < 32 by have := bit5_lt hk; exact Nat.add_lt_add_of_lt_of_le hb (le_of_lt_succ this))
theorem names_ok (hb : base < 28) {w : List Nat} (h : w ∈ namesC base c) : 44 ∉ w ∧ w.length ≤ 100 := by
 unfold namesC at h
 split at h
 ·rw [mem_singleton.mp h]; decide
 ·obtain ⟨k, hk, rfl⟩ := mem_map.mp h
  have hk := bit5_lt hk
  have q := all_eq_true.mp nm_ok (nameK (base + k)) (mem_map.mpr ⟨base + k, mem_range.mpr (Nat.add_lt_add_of_lt_of_le hb (le_of_lt_succ hk)), rfl⟩)
  obtain ⟨q1, q2⟩ := and_eq_true_iff.mp q
  have q3 := not_bool (and_eq_true_iff.mp q1).2
  exact ⟨fun z => (nomatch q3.symm.trans (contains_iff_mem.mpr z)), of_decide_eq_true q2⟩
theorem bit5_ne : ∀ c, c < 32 → c ≠ 0 → (bit5 c).isEmpty = false := by decide
theorem names_ne (hc : c < 32) : ∃ g gs, namesC base c = g :: gs := by
 unfold namesC
 by_cases h0 : c = 0
 ·rw [if_pos h0]; exact ⟨_, _, rfl⟩
 ·rw [if_neg h0]
  have := bit5_ne c hc h0
  cases hb : bit5 c with
  | nil => rw [hb] at this; cases this
  | cons k ks => exact ⟨_, _, rfl⟩
theorem names_len : (namesC base c).length ≤ 5 := by
 unfold namesC
 split
 ·exact succ_le_succ (zero_le _)
 ·rw [length_map]; exact List.length_filter_le _ (List.range 5)
theorem words_C (hb : base < 28) (hc : c < 32) : wordsF (c * 2 ^ base) = namesC base c := by
 obtain ⟨g, gs, e⟩ := names_ne (base := base) hc
 rw [e]
 exact words_is ((pfL_is hb hc).trans e) fun w hw => (names_ok hb (e ▸ hw)).1
theorem joiF_len (x : List Nat) {B : Nat} : ∀ l : List (List Nat), (∀ w ∈ l, w.length ≤ B) → (joiF x l).length ≤ l.length * (B + x.length)
 | [], _ => zero_le _
 | w :: l, h => by
  have go : ∀ l : List (List Nat), (∀ w ∈ l, w.length ≤ B) → (l.flatMap fun p => x ++ p).length ≤ l.length * (B + x.length) := by
   intro l
   induction l with
   | nil => exact fun _ => zero_le _
   | cons w l ih =>
    intro h
    have h1 := ih fun v hv => h v (mem_cons_of_mem _ hv)
    have h2 := h w (mem_cons_self ..)
    rw [flatMap_cons, length_append, length_append, length_cons, succ_mul]
    exact le_trans (add_le_add (le_trans (add_le_add_left h2 _) (le_of_eq (add_comm _ _))) h1) (le_of_eq (add_comm _ _))
  have h1 := go l fun v hv => h v (mem_cons_of_mem _ hv)
  have h2 := h w (mem_cons_self ..)
  show (w ++ l.flatMap fun p => x ++ p).length ≤ _
  rw [length_append, length_cons, succ_mul]
  exact le_trans (add_le_add (le_trans h2 (le_add_right _ _)) h1) (le_of_eq (add_comm _ _))
theorem flag_ok (hb : base < 28) (hc : c < 32) : FlagOk (c * 2 ^ base) := by
 have e := pfL_is hb hc
 have hl : (pf (c * 2 ^ base)).length ≤ 100000 := by
  show (joiT [44, 32] (pfL (c * 2 ^ base))).length ≤ _
  rw [join_fast, e]
  refine le_trans (joiF_len (B := 100) [44, 32] (namesC base c) fun w hw => (names_ok hb hw).2) ?_
  exact le_trans (Nat.mul_le_mul_right _ names_len) (by decide)
 refine ⟨?_, ?_, le_trans hl (by decide), partsOk hl⟩
 ·exact lt_of_lt_of_le (Nat.mul_lt_mul_of_lt_of_le hc (Nat.pow_le_pow_right (by decide) (le_of_lt hb)) (pow_pos (by decide))) (by decide)
 ·rw [e]
  exact joiOk_small (by decide) (le_trans names_len (by decide)) fun w hw => le_trans (names_ok hb hw).2 (by decide)
theorem octN_ne (v hi : Nat) : ∃ b l, octN v 0 hi = b :: l := by
 have h : octP v 0 ≠ [] := by
  unfold octP
  rw [List.replicate_zero, nil_append]
  intro z
  have z := map_eq_nil_iff.mp z
  have hm : 0 ∈ [5, 4, 3, 2, 1, 0].filter (octC v) := mem_filter.mpr ⟨by decide, rfl⟩
  rw [z] at hm; cases hm
 unfold octN
 cases ho : octP v 0 with
 | nil => exact absurd ho h
 | cons b l => exact ⟨_, _, rfl⟩
theorem var_no {v hi : Nat} {r : Nat × List Nat} (h6 : (64 + hi) &&& 64 ≠ 0) (h0 : (64 + hi) &&& 63 = 0) (h : varint (octN v 0 hi) = some r) : ∀ no, varint (octN v no hi) = some r
 | 0 => h
 | no + 1 => by
  have ih := var_no h6 h0 h no
  have e : octN v (no + 1) hi = (64 + hi) :: octN v no hi := by unfold octN octP; rw [replicate_succ]; rfl
  obtain ⟨b, l, hb⟩ : ∃ b l, octN v no hi = b :: l := by
   cases no with
   | zero => exact octN_ne v hi
   | succ no => exact ⟨_, _, by unfold octN octP; rw [replicate_succ]; rfl⟩
  rw [e, hb]
  rw [hb] at ih
  show vgo ((64 + hi) &&& 63) (64 + hi) (b :: l) = _
  unfold vgo
  rw [if_neg h6, h0, if_pos (by decide)]
  show vgo (0 * 64 ||| (b &&& 63)) b l = _
  rw [Nat.zero_mul, Nat.zero_or]
  exact ih
theorem var_ok {no t : Nat} (hb : base < 28) (hc : c < 32) (ht : t < 2) : varint (octN (c * 2 ^ base) no (t * 128)) = some (c * 2 ^ base, []) := match t, ht with
 | 0, _ => var_no (by decide) (by decide) (of_decide_eq_true (all_eq_true.mp (all_eq_true.mp var_0 base (mem_range.mpr hb)) c (mem_range.mpr hc))) no
 | 1, _ => var_no (by decide) (by decide) (of_decide_eq_true (all_eq_true.mp (all_eq_true.mp var_1 base (mem_range.mpr hb)) c (mem_range.mpr hc))) no
end
section
variable {c k : Nat} {w : List Nat}
noncomputable def pwK (k i : Nat) : List Nat := (pairS k).getD i []
theorem getD_lt {α : Type} {l : List α} {d : α} {i : Nat} (h : i < l.length) : l.getD i d = l[i] := by rw [getD_eq_getElem?_getD, getElem?_eq_getElem h, getD_some]
theorem joiT_nil (l : List (List Nat)) : joiT [] l = l.flatten := by
 rw [join_fast]
 cases l with
 | nil => rfl
 | cons w l => show w ++ l.flatMap id = w ++ l.flatten; rw [List.flatMap_id]
noncomputable def prepC (c : Nat) : List Nat := if inB1 c then [] else mapB3 c
theorem prepL_flat : ∀ t : List Nat, (prepL t).flatten = t.flatMap prepC
 | [] => rfl
 | c :: t => by
  have ih := prepL_flat t
  unfold prepL at *
  rw [flatMap_cons, ← ih, List.filter_cons]
  unfold prepC
  cases inB1 c <;> simp
noncomputable def signG (c : Nat) : Prop := signOk c = true ∧ (prepC c).length ≤ 2
theorem prep_fin {t : List Nat} (ht : t.length < 290) (hg : ∀ c ∈ t, signG c) : joiOk [] (prepL t) = true := by
 refine joiOk_small (by simp) ?_ fun w hw => ?_
 ·unfold prepL
  rw [length_map]
  exact le_trans (List.length_filter_le _ _) (le_trans (le_of_lt ht) (by decide))
 ·unfold prepL at hw
  obtain ⟨c, hc, rfl⟩ := mem_map.mp hw
  rw [mem_filter] at hc
  have h := (hg c hc.1).2
  have : inB1 c = false := by simpa using hc.2
  unfold prepC at h
  rw [this] at h
  simp only [false_eq_true, if_false] at h
  exact le_trans h (by decide)
noncomputable def lettersL : List Nat := [115, 116, 102, 105, 108]
noncomputable def markNs : List Nat := markL.map Int.toNat
noncomputable def alphaNs : List Nat := alphaL.map fun k => 119808 + 52 * k.toNat
noncomputable def ligs : List (Nat × List Nat) := [(223, [115, 115]), (64262, [115, 116]), (64256, [102, 102]), (64257, [102, 105]), (64258, [102, 108])]
noncomputable def chB (c : Nat) (r : List Nat) : Bool := signOk c && decide (prepC c = r) && decide (r.length ≤ 2)
theorem ch_of {r : List Nat} (h : chB c r = true) : signG c ∧ prepC c = r := by
 unfold chB at h
 simp only [and_eq_true, decide_eq_true_eq] at h
 exact ⟨⟨h.1.1, by rw [h.1.2]; exact h.2⟩, h.1.2⟩
theorem ch_l : lettersL.all (fun c => chB c [c]) = true := by decide +kernel
theorem ch_u : lettersL.all (fun c => chB (65 + c - 97) [c]) = true := by decide +kernel
theorem ch_m : markNs.all (fun m => chB m []) = true := by decide +kernel
theorem ch_g : ligs.all (fun p => chB p.1 p.2) = true := by decide +kernel
theorem ch_a : alphaNs.all (fun a => lettersL.all fun c => chB (a + c - 97) [c]) = true := by decide +kernel
noncomputable def ligQ (c : Nat) : List Nat := (ligs.lookup c).getD [c]
theorem lig_of (h : lettersL.contains c = true ∨ (ligs.map (·.1)).contains c = true) : signG c ∧ prepC c = ligQ c := by
 rcases h with h | h
 ·have hm := contains_iff_mem.mp h
  have h1 := ch_of (all_eq_true.mp ch_l c hm)
  refine ⟨h1.1, h1.2.trans ?_⟩
  have : lettersL.all (fun c => ligQ c == [c]) = true := by decide
  exact (eq_of_beq (all_eq_true.mp this c hm)).symm
 ·obtain ⟨p, hp, rfl⟩ := mem_map.mp (contains_iff_mem.mp h)
  have h1 := ch_of (all_eq_true.mp ch_g p hp)
  refine ⟨h1.1, h1.2.trans ?_⟩
  have : ligs.all (fun p => ligQ p.1 == p.2) = true := by decide
  exact (eq_of_beq (all_eq_true.mp this p hp)).symm
noncomputable def smallB (l : List (List Nat)) : Bool := decide (l.length ≤ 1000) && l.all fun w => decide (w.length ≤ 1000)
noncomputable def two2B (k : Nat) (w : List Nat) : Bool :=
 let l1 := splF w (pwK k 0 ++ pwK k 0)
 let j1 := joiF (pwK k 2) l1
 let l2 := splF j1 (pwK k 0 ++ pwK k 1)
 let t := joiF (pwK k 3) l2
 smallB l1 && decide (j1.length ≤ 1000) && smallB l2 && decide (t.length < 290) && t.all (fun c => lettersL.contains c || (ligs.map (·.1)).contains c) && decide (t.flatMap ligQ = w)
theorem joi_marks (m : Nat) (hm : prepC m = []) : ∀ w : List Nat, (joiF [m] (signs w)).flatMap prepC = w.flatMap prepC
 | [] => rfl
 | c :: w => by
  have go : ∀ w : List Nat, ((signs w).flatMap fun p => [m] ++ p).flatMap prepC = w.flatMap prepC := by
   intro w
   induction w with
   | nil => rfl
   | cons c w ih =>
    show (([m] ++ [c]) ++ (signs w).flatMap fun p => [m] ++ p).flatMap prepC = _
    rw [List.flatMap_append, ih]
    simp [hm]
  show ([c] ++ (signs w).flatMap fun p => [m] ++ p).flatMap prepC = _
  rw [List.flatMap_append, go]
  simp
theorem joi_marks_len (m : Nat) : ∀ w : List Nat, (joiF [m] (signs w)).length ≤ 2 * w.length
 | [] => le_refl _
 | c :: w => by
  have go : ∀ w : List Nat, ((signs w).flatMap fun p => [m] ++ p).length = 2 * w.length := by
   intro w
   induction w with
   | nil => rfl
   | cons c w ih =>
    show (([m] ++ [c]) ++ (signs w).flatMap fun p => [m] ++ p).length = _
    rw [length_append, ih]
    simp; exact add_comm 2 _
  show ([c] ++ (signs w).flatMap fun p => [m] ++ p).length ≤ _
  rw [length_append, go]
  simp; exact le_trans (le_of_eq (add_comm 1 _)) (le_succ _)
theorem joi_marks_mem (m : Nat) : ∀ w : List Nat, ∀ c ∈ joiF [m] (signs w), c = m ∨ c ∈ w
 | [], c, h => by cases h
 | a :: w, c, h => by
  have h : c ∈ [a] ++ (signs w).flatMap fun p => [m] ++ p := h
  rcases mem_append.mp h with h | h
  ·exact .inr (by rw [mem_singleton.mp h]; exact mem_cons_self ..)
  ·obtain ⟨p, hp, hc⟩ := mem_flatMap.mp h
   obtain ⟨x, hx, rfl⟩ := mem_map.mp hp
   rcases mem_append.mp hc with h | h
   ·exact .inl (mem_singleton.mp h)
   ·rw [mem_singleton.mp h]
    exact .inr (mem_cons_of_mem _ hx)
theorem flat_self {f : Nat → List Nat} (h : ∀ c ∈ w, f c = [c]) : w.flatMap f = w := by
 induction w with
 | nil => rfl
 | cons c w ih =>
  rw [flatMap_cons, h c (mem_cons_self ..), ih fun x hx => h x (mem_cons_of_mem _ hx)]
  rfl
noncomputable def allL (b : Nat) : Nat → List (List Nat)
 | 0 => [[]]
 | n + 1 => (allL b n).flatMap fun l => (List.range b).map fun d => l ++ [d]
theorem mem_allL {b : Nat} {f : Nat → Nat} (h : ∀ p, f p < b) : ∀ n, (List.range n).map f ∈ allL b n
 | 0 => List.mem_singleton_self _
 | n + 1 => by
  rw [List.range_succ, map_append]
  exact mem_flatMap.mpr ⟨_, mem_allL h n, mem_map.mpr ⟨f n, mem_range.mpr (h n), rfl⟩⟩
noncomputable def wordT (k : Nat) (is : List Nat) : List Nat := (is.map fun i => twoN (pwK k 0) (pwK k 1) i).flatten
noncomputable def twoAll (k n : Nat) : Bool := (allL 2 n).all fun is => two2B k (wordT k is) && decide ((wordT k is).length ≤ 8) && (wordT k is).all fun c => lettersL.contains c
theorem two_0 : (List.range 9).all (twoAll 0) = true := by decide +kernel
theorem two_1 : (List.range 9).all (twoAll 1) = true := by decide +kernel
theorem two_2 : (List.range 9).all (twoAll 2) = true := by decide +kernel
noncomputable def WordOk (k : Nat) (w : List Nat) : Prop := two2B k w = true ∧ w.length ≤ 8 ∧ ∀ c ∈ w, c ∈ lettersL
theorem word_ok {n : Nat} {is : List Nat} (hk : k < 3) (hn : n < 9) (h : is ∈ allL 2 n) : WordOk k (wordT k is) := by
 have h2 : (List.range 9).all (twoAll k) = true := match k, hk with
  | 0, _ => two_0
  | 1, _ => two_1
  | 2, _ => two_2
 have h3 := all_eq_true.mp (all_eq_true.mp h2 n (mem_range.mpr hn)) is h
 obtain ⟨h3, h4⟩ := and_eq_true_iff.mp h3
 obtain ⟨h3, h5⟩ := and_eq_true_iff.mp h3
 exact ⟨h3, of_decide_eq_true h5, fun c hc => contains_iff_mem.mp (all_eq_true.mp h4 c hc)⟩
theorem pw_one : ∀ k, k < 3 → (pwK k 0).length = 1 ∧ (pwK k 1).length = 1 ∧ (pwK k 2).length = 1 ∧ (pwK k 3).length = 1 := by decide
theorem flat_signs : ∀ w : List Nat, (signs w).flatten = w
 | [] => rfl
 | c :: w => congrArg (c :: ·) (flat_signs w)
structure WordFine (w : List Nat) (st : Nat) (p0 p1 p2 p3 mk : List Nat) (al : Nat) : Prop where
 ty : TyOk w st p0 p1 p2 p3 mk al
 pr : PrOk (tyN w st p0 p1 p2 p3 mk al)
 same : joiT [] (prepL (tyN w st p0 p1 p2 p3 mk al)) = w
theorem word_fine {st m al : Nat} (hk : k < 3) (hst : st < 4) (hw : WordOk k w) (hm : m ∈ markNs) (ha : al ∈ alphaNs) : WordFine w st (pwK k 0) (pwK k 1) (pwK k 2) (pwK k 3) [m] al := by
 obtain ⟨n0, n1, n2, n3⟩ := pw_one k hk
 obtain ⟨htwo, h8, hlet⟩ := hw
 have hal : 60000 ≤ al ∧ al < 900000 := by
  have : alphaNs.all (fun a => decide (60000 ≤ a) && decide (a < 900000)) = true := by decide
  have := and_eq_true_iff.mp (all_eq_true.mp this al ha)
  exact ⟨of_decide_eq_true this.1, of_decide_eq_true this.2⟩
 have h97 : ∀ c ∈ lettersL, 97 ≤ c ∧ c < 1000 := by decide
 have hmk := ch_of (all_eq_true.mp ch_m m hm)
 have hjl := joi_marks_len m w
 unfold two2B at htwo
 obtain ⟨htwo, b6⟩ := and_eq_true_iff.mp htwo
 obtain ⟨htwo, b5⟩ := and_eq_true_iff.mp htwo
 obtain ⟨htwo, b4⟩ := and_eq_true_iff.mp htwo
 obtain ⟨htwo, b3⟩ := and_eq_true_iff.mp htwo
 obtain ⟨b1, b2⟩ := and_eq_true_iff.mp htwo
 have b2 := of_decide_eq_true b2
 have b4 := of_decide_eq_true b4
 have b6 := of_decide_eq_true b6
 have sm : ∀ {x : List Nat} {l : List (List Nat)}, x.length = 1 → smallB l = true → joiOk x l = true := fun hx h => by
  obtain ⟨s1, s2⟩ := and_eq_true_iff.mp h
  exact joiOk_small (by omega) (of_decide_eq_true s1) fun w hw => of_decide_eq_true (all_eq_true.mp s2 w hw)
 have ne : ∀ {x y : List Nat}, x.length = 1 → x ++ y ≠ [] := fun hx h => by
  have := congrArg length h
  rw [length_append, length_nil] at this
  omega
 have sg : ∀ x : List Nat, x.length ≤ 8 → joiOk [] (signs x) = true := fun x hx => joiOk_small (by decide) (by rw [signs, length_map]; exact le_trans hx (by decide)) fun y hy => by
  obtain ⟨c, _, rfl⟩ := mem_map.mp hy; exact (show 1 ≤ 1000 by decide)
 have hty : TyOk w st (pwK k 0) (pwK k 1) (pwK k 2) (pwK k 3) [m] al := by
  refine ⟨lt_of_le_of_lt h8 (by decide), fun h => ⟨by rw [n0, n1]; decide, by rw [n0]; decide, splOk_of (ne n0) (le_trans h8 (by decide)), sm n2 (by rw [splT_fast]; exact b1), splOk_of (ne n0) (by rw [splT_fast, join_fast]; exact le_trans b2 (by decide)), sm n3 (by rw [splT_fast, join_fast, splT_fast]; exact b3)⟩, fun h => ⟨?_, ?_⟩, fun h0 h2 => ⟨fun c hc => ?_, sg _ (by rw [typA, length_map]; exact h8)⟩⟩
  ·exact joiOk_small (show 1 ≤ 1000 by decide) (by rw [signs, length_map]; exact le_trans h8 (by decide)) fun y hy => by
    obtain ⟨c, _, rfl⟩ := mem_map.mp hy; exact (show 1 ≤ 1000 by decide)
  ·rw [join_fast, length_singleton]; exact le_trans (succ_le_succ (le_trans hjl (Nat.mul_le_mul_left 2 h8))) (by decide)
  ·have := h97 c (hlet c hc)
   exact ⟨this.1, this.2, .inr hal⟩
 have key : ∀ t, tyN w st (pwK k 0) (pwK k 1) (pwK k 2) (pwK k 3) [m] al = t → t.length < 290 → (∀ c ∈ t, signG c) → t.flatMap prepC = w → WordFine w st (pwK k 0) (pwK k 1) (pwK k 2) (pwK k 3) [m] al := by
  intro t ht hl hg hf
  exact ⟨hty, ht ▸ ⟨fun c hc => (hg c hc).1, hl, prep_fin hl hg⟩, by rw [ht, joiT_nil, prepL_flat, hf]⟩
 have hself : ∀ f : Nat → List Nat, (∀ c ∈ lettersL, f c = [c]) → w.flatMap f = w := fun f hf => flat_self fun c hc => hf c (hlet c hc)
 rcases (show ∀ s, s < 4 → s = 0 ∨ s = 1 ∨ s = 2 ∨ s = 3 by decide) st hst with rfl | rfl | rfl | rfl
 ·refine key (joiT [m] (signs w) ++ [m]) rfl ?_ ?_ ?_
  ·rw [join_fast, length_append, length_singleton]; exact lt_of_le_of_lt (succ_le_succ (le_trans hjl (Nat.mul_le_mul_left 2 h8))) (by decide)
  ·intro c hc
   rw [join_fast] at hc
   rcases mem_append.mp hc with h | h
   ·rcases joi_marks_mem m w c h with rfl | h
    ·exact hmk.1
    ·exact (ch_of (all_eq_true.mp ch_l c (hlet c h))).1
   ·rw [mem_singleton.mp h]; exact hmk.1
  ·rw [join_fast, List.flatMap_append, joi_marks m hmk.2, hself prepC fun c hc => (ch_of (all_eq_true.mp ch_l c hc)).2]
   simp [hmk.2]
 ·refine key (w.map fun c => 65 + c - 97) (by show joiT [] (signs _) = _; rw [joiT_nil, flat_signs]; rfl) (by rw [length_map]; exact lt_of_le_of_lt h8 (by decide)) ?_ ?_
  ·intro c hc
   obtain ⟨x, hx, rfl⟩ := mem_map.mp hc
   exact (ch_of (all_eq_true.mp ch_u x (hlet x hx))).1
  ·rw [List.flatMap_map]
   exact hself _ fun c hc => (ch_of (all_eq_true.mp ch_u c hc)).2
 ·have hch : ∀ c ∈ joiF (pwK k 3) (splF (joiF (pwK k 2) (splF w (pwK k 0 ++ pwK k 0))) (pwK k 0 ++ pwK k 1)), signG c ∧ prepC c = ligQ c := fun c hc => lig_of (or_eq_true_iff.mp (all_eq_true.mp b5 c hc))
  refine key (joiF (pwK k 3) (splF (joiF (pwK k 2) (splF w (pwK k 0 ++ pwK k 0))) (pwK k 0 ++ pwK k 1))) ?_ b4 (fun c hc => (hch c hc).1) ?_
  ·show typ2 _ _ _ _ _ = _
   unfold typ2
   rw [splT_fast, join_fast, splT_fast, join_fast]
  ·refine Eq.trans ?_ b6
   have go : ∀ t : List Nat, (∀ c ∈ t, prepC c = ligQ c) → t.flatMap prepC = t.flatMap ligQ := by
    intro t
    induction t with
    | nil => intro _; rfl
    | cons c t ih => intro h; rw [flatMap_cons, flatMap_cons, h c (mem_cons_self ..), ih fun x hx => h x (mem_cons_of_mem _ hx)]
   exact go _ fun c hc => (hch c hc).2
 ·refine key (w.map fun c => al + c - 97) (by show joiT [] (signs _) = _; rw [joiT_nil, flat_signs]; rfl) (by rw [length_map]; exact lt_of_le_of_lt h8 (by decide)) ?_ ?_
  ·intro c hc
   obtain ⟨x, hx, rfl⟩ := mem_map.mp hc
   exact (ch_of (all_eq_true.mp (all_eq_true.mp ch_a al ha) x (hlet x hx))).1
  ·rw [List.flatMap_map]
   exact hself _ fun c hc => (ch_of (all_eq_true.mp (all_eq_true.mp ch_a al ha) c hc)).2
theorem mark_in (c4 : Nat) : ∃ m ∈ markNs, markN c4 = [m] := by
 have h : c4 / 3 % 27 < markL.length := mod_lt _ (by decide)
 refine ⟨(markL.getD (c4 / 3 % 27) 0).toNat, ?_, rfl⟩
 rw [getD_lt h]
 exact mem_map_of_mem (getElem_mem h)
theorem alpha_in (c4 : Nat) : alphaN c4 ∈ alphaNs := by
 have h : c4 / 81 % 10 < alphaL.length := mod_lt _ (by decide)
 unfold alphaN alphaNs
 rw [getD_lt h]
 exact mem_map.mpr ⟨_, getElem_mem h, rfl⟩
end
section
variable {i j k base c al : Nat} {w text front ends sty : List Nat} {plain : List (List Nat)}
theorem nameK_inj (hi : i < 32) (hj : j < 32) (h : nameK i = nameK j) : i = j := by
 have e : ∀ {k}, k < 32 → nmT[k]? = some (nameK k) := fun {k} hk => by rw [nmT, getElem?_map, getElem?_range hk]; rfl
 have hl : nmT.length = 32 := by rw [nmT, length_map, length_range]
 have h1 := (List.getElem?_eq_some_iff.mp (e hi)).2
 have h2 := (List.getElem?_eq_some_iff.mp (e hj)).2
 have pw := List.pairwise_iff_getElem.mp nm_nd
 have he := h1.trans (h.trans h2.symm)
 rcases Nat.lt_trichotomy i j with z | z | z
 ·exact absurd he (pw i j (hl ▸ hi) (hl ▸ hj) z)
 ·exact z
 ·exact absurd he.symm (pw j i (hl ▸ hj) (hl ▸ hi) z)
theorem nodup_map {α β : Type} {f : α → β} : ∀ {l : List α}, l.Nodup → (∀ a ∈ l, ∀ b ∈ l, f a = f b → a = b) → (l.map f).Nodup
 | [], _, _ => nodup_nil
 | a :: l, h, inj => by
  obtain ⟨h1, h2⟩ := nodup_cons.mp h
  rw [map_cons]
  refine nodup_cons.mpr ⟨fun z => ?_, nodup_map h2 fun x hx y hy => inj x (mem_cons_of_mem _ hx) y (mem_cons_of_mem _ hy)⟩
  obtain ⟨b, hb, e⟩ := mem_map.mp z
  exact h1 (inj a (mem_cons_self ..) b (mem_cons_of_mem _ hb) e.symm ▸ hb)
theorem lookup_map {α β : Type} [BEq α] [LawfulBEq α] {f : Nat → α} {g : Nat → β} {k : Nat} : ∀ {l : List Nat}, k ∈ l → (∀ j ∈ l, f j = f k → j = k) → (l.map fun j => (f j, g j)).lookup (f k) = some (g k)
 | j :: l, hk, inj => by
  rw [map_cons, lookup_cons]
  by_cases h : f k = f j
  ·rw [h, beq_self_eq_true]
   exact congrArg (fun x => some (g x)) (inj j (mem_cons_self ..) h.symm)
  ·rw [beq_eq_false_iff_ne.mpr h]
   exact lookup_map ((mem_cons.mp hk).resolve_left fun e => h (congrArg f e)) fun x hx => inj x (mem_cons_of_mem _ hx)
theorem lookup_no {α β : Type} [BEq α] [LawfulBEq α] {f : Nat → α} {g : Nat → β} {x : α} : ∀ {l : List Nat}, (∀ j ∈ l, f j ≠ x) → (l.map fun j => (f j, g j)).lookup x = none
 | [], _ => rfl
 | j :: l, h => by
  rw [map_cons, lookup_cons, beq_eq_false_iff_ne.mpr (h j (mem_cons_self ..)).symm]
  exact lookup_no fun y hy => h y (mem_cons_of_mem _ hy)
noncomputable def L5 : List Nat := [0, 1, 2, 3, 4]
theorem L5_lt (h : k ∈ L5) : k < 5 := (show ∀ k ∈ L5, k < 5 by decide) k h
theorem L5_in (h : k < 5) : k ∈ L5 := (show ∀ k, k < 5 → k ∈ L5 by decide) k h
theorem name_in (hb : base < 28) (hj : j ∈ L5) (hk : k ∈ L5) (h : nameN base j = nameN base k) : j = k := by
 have := nameK_inj (i := base + j) (j := base + k) (Nat.add_lt_add_of_lt_of_le hb (le_of_lt_succ (L5_lt hj))) (Nat.add_lt_add_of_lt_of_le hb (le_of_lt_succ (L5_lt hk))) h
 exact Nat.add_left_cancel this
theorem name_0 (hb : base < 28) (hk : k ∈ L5) : nameN base k ≠ hexT 0 := fun e => by
 have q := all_eq_true.mp nm_ok (nameN base k) (mem_map.mpr ⟨base + k, mem_range.mpr (Nat.add_lt_add_of_lt_of_le hb (le_of_lt_succ (L5_lt hk))), rfl⟩)
 have := not_bool (and_eq_true_iff.mp (and_eq_true_iff.mp q).1).1
 rw [e, beq_self_eq_true] at this
 cases this
theorem four_ok (hk : k < 3) (hi : i < 4) : WordOk k (fourN (pwK k 0) (pwK k 1) (pwK k 0 ++ pwK k 0) (pwK k 0 ++ pwK k 1) i) := by
 have w1 : ∀ d, d < 2 → WordOk k (wordT k [d]) := fun d hd => word_ok hk (show 1 < 9 by decide) (match d, hd with
  | 0, _ => (by decide : [0] ∈ allL 2 1)
  | 1, _ => (by decide : [1] ∈ allL 2 1))
 have w2 : ∀ d, d < 2 → WordOk k (wordT k [0, d]) := fun d hd => word_ok hk (show 2 < 9 by decide) (match d, hd with
  | 0, _ => (by decide : [0, 0] ∈ allL 2 2)
  | 1, _ => (by decide : [0, 1] ∈ allL 2 2))
 have e1 : ∀ d, wordT k [d] = twoN (pwK k 0) (pwK k 1) d := fun d => append_nil _
 have e2 : ∀ d, wordT k [0, d] = pwK k 0 ++ twoN (pwK k 0) (pwK k 1) d := fun d => congrArg (pwK k 0 ++ ·) (append_nil _)
 exact match i, hi with
  | 0, _ => show WordOk k (twoN (pwK k 0) (pwK k 1) 0) from e1 0 ▸ w1 0 (by decide)
  | 1, _ => show WordOk k (twoN (pwK k 0) (pwK k 1) 1) from e1 1 ▸ w1 1 (by decide)
  | 2, _ => show WordOk k (pwK k 0 ++ twoN (pwK k 0) (pwK k 1) 0) from e2 0 ▸ w2 0 (by decide)
  | 3, _ => show WordOk k (pwK k 0 ++ twoN (pwK k 0) (pwK k 1) 1) from e2 1 ▸ w2 1 (by decide)
theorem text_ok (hk : k < 3) (c : Nat) : WordOk k (textN (pwK k 0) (pwK k 1) c) := by
 have e : textN (pwK k 0) (pwK k 1) c = wordT k ((List.range (c % 9)).map fun j => c / 9 / 2 ^ j % 2) := by
  unfold textN textL wordT
  rw [joiT_nil, map_map]; rfl
 rw [e]
 exact word_ok hk (mod_lt _ (by decide)) (mem_allL (f := fun j => c / 9 / 2 ^ j % 2) (fun p => mod_lt _ (by decide)) _)
noncomputable def Lets (w : List Nat) : Prop := w.length ≤ 8 ∧ ∀ c ∈ w, c ∈ lettersL
theorem Lets.clean (h : Lets w) : 46 ∉ w := fun z => (show 46 ∉ lettersL by decide) (h.2 46 z)
theorem Lets.sub {v : List Nat} (h : Lets w) (s : v.Sublist w) : Lets v := ⟨le_trans s.length_le h.1, fun c hc => h.2 c (s.mem hc)⟩
theorem Lets.nil : Lets [] := ⟨zero_le _, fun _ h => nomatch h⟩
theorem four_lets {a0 a1 a2 a3 : List Nat} (h0 : Lets a0) (h1 : Lets a1) (h2 : Lets a2) (h3 : Lets a3) (i : Nat) : Lets (fourN a0 a1 a2 a3 i) := by
 unfold fourN
 split
 ·exact h0
 ·split
  ·exact h1
  ·split
   ·exact h2
   ·exact h3
theorem lets_two (hk : k < 3) : Lets (pwK k 0 ++ pwK k 1) := (four_ok (i := 3) hk (by decide)).2
theorem front_lets (hk : k < 3) (ht : Lets text) (c : Nat) : Lets (frontN (pwK k 0) (pwK k 1) text c) :=
 four_lets .nil (ht.sub (List.take_sublist ..)) (ht.sub (List.take_sublist ..)) (lets_two hk) _
theorem end_lets (hk : k < 3) (ht : Lets text) (c : Nat) : Lets (endN (pwK k 0) (pwK k 1) text c) :=
 four_lets .nil (ht.sub (List.drop_sublist ..)) (ht.sub (List.drop_sublist ..)) (lets_two hk) _
theorem el_ok {inner : List (List Nat)} (hf : Lets front) (he : Lets ends) (hi : ∀ p ∈ inner, Lets p) (h5 : inner.length ≤ 5) :
 joiOk [46, 46, 46] ([front] ++ inner ++ [ends]) = true ∧ ElOk (wantN front inner ends) ∧ ∀ text, ellM (wantN front inner ends) text = takenN front inner ends text := by
 have all : ∀ w ∈ [front] ++ inner ++ [ends], Lets w := fun w hw => by
  rcases mem_append.mp hw with hw | hw
  ·rcases mem_append.mp hw with hw | hw
   ·rw [mem_singleton.mp hw]; exact hf
   ·exact hi w hw
  ·rw [mem_singleton.mp hw]; exact he
 have hl : ([front] ++ inner ++ [ends]).length ≤ 7 := by
  rw [length_append, length_append, length_singleton, length_singleton]; exact succ_le_succ (le_trans (le_of_eq (add_comm 1 _)) (succ_le_succ h5))
 have e : wantN front inner ends = dotted dotsL front (inner ++ [ends]) := by
  unfold wantN
  exact joi_dotted dotsL (inner ++ [ends]) front
 have hw : (wantN front inner ends).length ≤ 7 * (8 + 3) := by
  unfold wantN
  rw [join_fast]
  exact le_trans (joiF_len (B := 8) [46, 46, 46] _ fun w hw => (all w hw).1) (Nat.mul_le_mul_right _ hl)
 refine ⟨joiOk_small (by decide) (le_trans hl (by decide)) fun w hw => le_trans (all w hw).1 (by decide), ⟨lt_of_le_of_lt hw (by decide), fun _ => ?_⟩, fun text => ?_⟩
 ·have es : ellW (wantN front inner ends) = front :: (inner ++ [ends]) := by
   rw [e]
   exact split_dotted (by decide) hf.clean fun y hy => (all y (mem_append.mpr ((mem_append.mp hy).imp (fun z => mem_append_right _ z) id))).clean
  rw [es]
  refine ⟨⟨?_, ?_⟩, fun w hw => ?_, partsOk (le_trans hw (by decide))⟩
  ·rw [length_cons, length_append, length_singleton]; exact succ_le_succ (succ_le_succ (zero_le _))
  ·rw [length_cons, length_append, length_singleton]; exact lt_of_le_of_lt (succ_le_succ (succ_le_succ h5)) (by decide)
  ·have : w ∈ [front] ++ inner ++ [ends] := by rw [append_assoc]; exact hw
   exact lt_of_le_of_lt (all w this).1 (by decide)
 ·rw [e]
  exact ell_taken text hf.clean (fun p hp => (hi p hp).clean) he.clean
theorem plain_get (p0 p1 : List Nat) (c : Nat) (h : k < 5) : (plainN p0 p1 c).getD k [] = fourN p0 p1 (p0 ++ p0) (p0 ++ p1) (c / 4 ^ k % 4) := by
 show (List.map (fun k => fourN p0 p1 (p0 ++ p0) (p0 ++ p1) (c / 4 ^ k % 4)) (List.range 5)).getD k [] = _
 rw [getD_eq_getElem?_getD, getElem?_map, getElem?_range h]; rfl
theorem sty_get (c : Nat) (h : k < 6) : (styN c).getD k 0 = c / 4 ^ k % 4 := by
 show (List.map (fun k => c / 4 ^ k % 4) (List.range 6)).getD k 0 = _
 rw [getD_eq_getElem?_getD, getElem?_map, getElem?_range h]; rfl
theorem inn_is {p0 p1 p2 p3 mk : List Nat} (hb : base < 28) (hw : ∀ k, k < 5 → WordFine (plain.getD k []) (sty.getD k 0) p0 p1 p2 p3 mk al) : innN (psN plain sty base p0 p1 p2 p3 mk al) (namesC base c) = chosenP plain c := by
 have hin : ∀ k, k ∈ L5 → (psN plain sty base p0 p1 p2 p3 mk al).lookup (nameN base k) = some (tyN (plain.getD k []) (sty.getD k 0) p0 p1 p2 p3 mk al) := fun k hk => lookup_map (f := nameN base) (g := fun k => tyN (plain.getD k []) (sty.getD k 0) p0 p1 p2 p3 mk al) (l := L5) hk fun j hj => name_in hb hj hk
 have hno : (psN plain sty base p0 p1 p2 p3 mk al).lookup (hexT 0) = none := lookup_no (f := nameN base) (g := fun k => tyN (plain.getD k []) (sty.getD k 0) p0 p1 p2 p3 mk al) (l := L5) fun j hj => name_0 hb hj
 unfold innN namesC
 by_cases h0 : c = 0
 ·subst h0
  rw [if_pos rfl, List.filter_cons_of_neg (by unfold innP; rw [hno]; decide)]
  rfl
 ·rw [if_neg h0]
  have e1 : ((bit5 c).map fun k => nameK (base + k)).filter (innP (psN plain sty base p0 p1 p2 p3 mk al)) = (bit5 c).map fun k => nameK (base + k) := List.filter_eq_self.mpr fun w hw => by
   obtain ⟨k, hk, rfl⟩ := mem_map.mp hw
   unfold innP
   rw [show nameK (base + k) = nameN base k from rfl, hin k (L5_in (bit5_lt hk))]; rfl
  rw [e1, map_map]
  refine map_congr_left fun k hk => ?_
  show innW _ (nameN base k) = _
  unfold innW
  rw [hin k (L5_in (bit5_lt hk))]
  exact (hw k (bit5_lt hk)).same
theorem chosen_in {p : List Nat} (h : p ∈ chosenP plain c) : ∃ k, k < 5 ∧ p = plain.getD k [] := by
 obtain ⟨k, hk, rfl⟩ := mem_map.mp h
 exact ⟨k, mem_range.mp (mem_filter.mp hk).1, rfl⟩
theorem chosen_len (plain : List (List Nat)) (c : Nat) : (chosenP plain c).length ≤ 5 := by
 unfold chosenP
 rw [length_map]; exact List.length_filter_le _ (List.range 5)
theorem plain_ok {m no t : Nat} (hk : k < 3) (hm : m ∈ markNs) (ha : al ∈ alphaNs) (hb : base < 28) (hno : no < 100) (ht : t < 2) (h5 : plain.length = 5) (h6 : sty.length = 6) (hst : ∀ j, j < 6 → sty.getD j 0 < 4) (hp : ∀ j, j < 5 → WordOk k (plain.getD j [])) (htx : WordOk k text) (hf : Lets front) (he : Lets ends) :
 PlainOk (pwK k 0) (pwK k 1) (pwK k 2) (pwK k 3) [m] al text front ends plain sty base no (t * 128) := by
 have hw : ∀ j, j < 5 → WordFine (plain.getD j []) (sty.getD j 0) (pwK k 0) (pwK k 1) (pwK k 2) (pwK k 3) [m] al := fun j hj => word_fine hk (hst j (Nat.lt_succ_of_lt hj)) (hp j hj) hm ha
 have ht5 := word_fine hk (hst 5 (by decide)) htx hm ha
 have h300 : ∀ {n}, n ≤ 8 → n < 300 := fun h => lt_of_le_of_lt h (by decide)
 refine ⟨h5, h6, hb, h300 htx.2.1, h300 hf.1, h300 he.1, fun j hj => (hw j hj).ty, ?_, ht5.ty, ht5.pr, ht5.same, fun c hc => ⟨chosenP plain c, ?_, ?_⟩⟩
 ·show (L5.map fun k => (nameN base k, _)).map (·.1) |>.Nodup
  rw [map_map]
  exact nodup_map (f := nameN base) (show L5.Nodup by decide) fun a ha' b hb' => name_in hb ha' hb'
 ·obtain ⟨e1, e2, _⟩ := el_ok (inner := chosenP plain c) hf he (fun p hp' => let ⟨j, hj, e⟩ := chosen_in hp'; e ▸ (hp j hj).2) (chosen_len plain c)
  refine ⟨hc, hb, hno, var_ok hb hc ht, flag_ok hb hc, fun p hp' => ?_, ?_, ?_, lt_of_le_of_lt (chosen_len plain c) (by decide), e1, e2, lt_of_le_of_lt htx.2.1 (by decide)⟩
  ·obtain ⟨j, hj, rfl⟩ := mem_map.mp hp'
   exact (hw j (L5_lt hj)).pr
  ·rw [words_C hb hc]; exact lt_of_le_of_lt names_len (by decide)
  ·rw [words_C hb hc]; exact inn_is hb hw
 ·exact (el_ok (inner := chosenP plain c) hf he (fun p hp' => let ⟨j, hj, e⟩ := chosen_in hp'; e ▸ (hp j hj).2) (chosen_len plain c)).2.2 text
theorem plain_all (C : List Nat) (h7 : C.length = 7) : Plain C := by
 have hk : C.getD 4 0 % 3 < 3 := mod_lt _ (by decide)
 obtain ⟨n0, n1, _, _⟩ := pw_one _ hk
 obtain ⟨m, hm, em⟩ := mark_in (C.getD 4 0)
 have htx := text_ok hk (C.getD 0 0)
 have h1 : ∀ {l : List Nat}, l.length = 1 → l.length ≤ 5 := fun h => le_trans (le_of_eq h) (by decide)
 refine ⟨h1 n0, h1 n1, ?_, ?_⟩
 ·refine joiOk_small (by decide) ?_ fun w hw => ?_
  ·unfold textL
   rw [length_map, length_range]
   exact le_of_lt (lt_trans (mod_lt _ (by decide)) (by decide))
  ·obtain ⟨j, _, rfl⟩ := mem_map.mp hw
   unfold twoN
   split
   ·exact le_trans (h1 n0) (by decide)
   ·exact le_trans (h1 n1) (by decide)
 ·rw [em]
  refine plain_ok (k := C.getD 4 0 % 3) hk hm (alpha_in _) (mod_lt _ (by decide)) (lt_trans (mod_lt _ (by decide)) (show 3 < 100 by decide)) (mod_lt _ (by decide)) rfl rfl (fun j hj => ?_) (fun j hj => ?_) htx (front_lets hk htx.2 _) (end_lets hk htx.2 _)
  ·rw [sty_get _ hj]; exact mod_lt _ (by decide)
  ·rw [plain_get _ _ _ hj]; exact four_ok hk (mod_lt _ (by decide))
end
section
variable (P : Params)
theorem HW_is (w : World) : HW w = H0 w.params := by unfold HW; rfl
theorem GG_is : GG = G3 := by unfold GG; rfl
theorem PG_is : PG = PySem.Challenge.rw_ta0099_02.row.prog := by unfold PG; rfl
theorem H0_get {P : Params} {a : Addr} {o : Obj} (e : (HE P).get? a = some o) (h : tabsA.contains a = false) : (H0 P).get? a = some o := hideAll_get _ e (by
 intro hm
 have := contains_iff_mem.mpr hm
 rw [h] at this; cases this)
theorem H0_none {P : Params} {a : Addr} (h : a ∈ tabsA) : (H0 P).get? a = none := hideAll_none _ h
theorem H0_of {P : Params} {a : Addr} {o : Obj} (e : (H0 P).get? a = some o) : (HE P).get? a = some o := of_hideAll _ e
theorem H0_size : (H0 P).objs.size = 176 := (hideAll_size _ _).trans (absHeap_size _ _ _)
theorem HE_all : (List.range 176).all (fun a => ((HE P).get? a).isSome) = true := by kernel_rfl!
theorem H0_tab {P : Params} {p : Addr} (hp : p < (H0 P).objs.size) (hn : (H0 P).get? p = none) : p ∈ tabsA := by
 rw [H0_size] at hp
 have h1 := all_eq_true.mp (HE_all P) p (mem_range.mpr hp)
 cases hc : tabsA.contains p with
 | true => exact contains_iff_mem.mp hc
 | false =>
  cases ho : (HE P).get? p with
  | none => rw [ho] at h1; cases h1
  | some o => rw [H0_get ho hc] at hn; cases hn
theorem ns_H0 {P : Params} {a : Addr} (x : (HE P).isNs a = true) (h : tabsA.contains a = false) : (H0 P).Ns a ((HE P).nsMap a) := by
 obtain ⟨o, es, ep, ho, r⟩ := Ns.of_isNs x
 exact ⟨o, es, ep, H0_get ho h, r⟩
theorem lookup_memJ {α β : Type} [BEq α] [LawfulBEq α] {l : List (α × β)} {a : α} {b : β} (h : l.lookup a = some b) : (a, b) ∈ l := by
 induction l with
 | nil => cases h
 | cons p l ih =>
  obtain ⟨x, y⟩ := p
  rw [lookup_cons] at h
  cases hx : a == x with
  | true =>
   rw [hx] at h
   cases h
   rw [eq_of_beq hx]
   exact mem_cons_self ..
  | false =>
   rw [hx] at h
   exact mem_cons_of_mem _ (ih h)
noncomputable def mgJ (P : Params) := (HE P).nsMap mainGlobals
noncomputable def mbJ (P : Params) := (HE P).nsMap builtinsNs
noncomputable def gOk (P : Params) (x : Str) (v : V) : Prop := ∃ cv, v = topV cv ∧ (mgJ P x = some cv ∨ (mgJ P x = none ∧ mbJ P x = some cv))
noncomputable def Alls {α : Type} (R : α → Prop) : List α → Prop
 | [] => True
 | x :: l => R x ∧ Alls R l
theorem Alls.mem {α : Type} {R : α → Prop} {x : α} : ∀ {l : List α}, Alls R l → x ∈ l → R x
 | y :: l, q1, hm => by obtain ⟨h, t⟩ := q1; exact (mem_cons.mp hm).elim (fun e => e ▸ h) fun hm => Alls.mem t hm
theorem g_all : Alls (fun p : Str × V => gOk P p.1 p.2) G3.names :=
 ⟨⟨.ref 23, rfl, .inl (by kernel_rfl!)⟩, ⟨.ref 32, rfl, .inl (by kernel_rfl!)⟩, ⟨.ref 41, rfl, .inl (by kernel_rfl!)⟩, ⟨.ref 50, rfl, .inl (by kernel_rfl!)⟩, ⟨.ref 58, rfl, .inl (by kernel_rfl!)⟩, ⟨.ref 65, rfl, .inl (by kernel_rfl!)⟩, ⟨.ref 72, rfl, .inl (by kernel_rfl!)⟩, ⟨.ref 90, rfl, .inl (by kernel_rfl!)⟩, ⟨.ref 136, rfl, .inl (by kernel_rfl!)⟩, ⟨.ref 141, rfl, .inl (by kernel_rfl!)⟩, ⟨.ref 146, rfl, .inl (by kernel_rfl!)⟩, ⟨.ref 151, rfl, .inl (by kernel_rfl!)⟩, ⟨.ref 158, rfl, .inl (by kernel_rfl!)⟩, ⟨.ref 163, rfl, .inl (by kernel_rfl!)⟩, ⟨.ref 170, rfl, .inl (by kernel_rfl!)⟩, ⟨.ref 175, rfl, .inl (by kernel_rfl!)⟩, ⟨.ref 51, rfl, .inl (by kernel_rfl!)⟩, ⟨.ref 80, rfl, .inl (by kernel_rfl!)⟩, ⟨.ref 91, rfl, .inl (by kernel_rfl!)⟩, ⟨.str (ofString "...") 297, by kernel_rfl!, .inl (by kernel_rfl!)⟩, ⟨.builtin "len", rfl, .inr ⟨by kernel_rfl!, by kernel_rfl!⟩⟩, ⟨.builtin "hex", rfl, .inr ⟨by kernel_rfl!, by kernel_rfl!⟩⟩, ⟨.builtin "next", rfl, .inr ⟨by kernel_rfl!, by kernel_rfl!⟩⟩, ⟨.builtin "ord", rfl, .inr ⟨by kernel_rfl!, by kernel_rfl!⟩⟩, ⟨.builtin "chr", rfl, .inr ⟨by kernel_rfl!, by kernel_rfl!⟩⟩, ⟨.builtin "sum", rfl, .inr ⟨by kernel_rfl!, by kernel_rfl!⟩⟩, ⟨.builtin "sorted", rfl, .inr ⟨by kernel_rfl!, by kernel_rfl!⟩⟩, ⟨.builtin "iter", rfl, .inr ⟨by kernel_rfl!, by kernel_rfl!⟩⟩, ⟨.type "range", rfl, .inr ⟨by kernel_rfl!, by kernel_rfl!⟩⟩, ⟨.type "list", rfl, .inr ⟨by kernel_rfl!, by kernel_rfl!⟩⟩, ⟨.type "enumerate", rfl, .inr ⟨by kernel_rfl!, by kernel_rfl!⟩⟩, ⟨.type "dict", rfl, .inr ⟨by kernel_rfl!, by kernel_rfl!⟩⟩, trivial⟩
theorem g_names (x : Str) (v : V) (h : G3.names.lookup x = some v) : gOk P x v := (g_all P).mem (lookup_memJ h)
noncomputable def fnOk (P : Params) (a : Addr) (fi : FnI) : Prop := ∃ o fd, FnOkH (H0 P) a fi o fd
theorem key_none {x : Str} {h : Int} {t : Tok} {o : Option Value} (e : o = nsFind #[⟨h, .str (ofString "key") t, .none⟩] x) : o.map topV = List.lookup x [(u "key", V.none)] := by
 rw [e, lookup_cons]
 cases hx : x == u "key" with
 | true =>
  have hx := eq_of_beq hx
  subst hx
  kernel_rfl!
 | false =>
  have hn : ¬ (x = ofString "key") := by simpa using hx
  have hn2 : ¬ (ofString "key" = x) := fun h => hn h.symm
  have hb : (ofString "key" == x) = false := by rw [beq_eq_false_iff_ne]; exact hn2
  unfold nsFind findBy
  simp [Value.isStr, hb]
theorem at_23 : (H0 P).get? 23 = some (oB_23 P) := H0_get (by kernel_rfl!) (by decide)
theorem at_22 : (H0 P).get? 22 = some (oB_22 P) := H0_get (by kernel_rfl!) (by decide)
theorem ch_23 : CodeHd (H0 P) 22 18 := ⟨_, _, ofString "/claim/cut.py", 200, 3, 0, true, 181, 0, at_22 P, rfl, rfl, rfl, rfl, rfl, rfl, rfl, rfl, by decide⟩
theorem at_15 : (H0 P).get? 15 = some (oB_15 P) := H0_get (by kernel_rfl!) (by decide)
theorem kw_23 : ∀ x, ((HE P).nsMap 16 x).map topV = List.lookup x [(u "key", V.none)] := fun x => key_none (show (HE P).nsMap 16 x = nsFind #[⟨PyData.keyHash P (ofString "key"), (.str (ofString "key") 190), .none⟩] x by kernel_rfl!)
theorem fk_23 : fnOk P 23 (fnI 1 [.int 0, .none] [(u "key", .none)]) := ⟨_, _, ⟨at_23 P, rfl, rfl, rfl, rfl, rfl, rfl, rfl, ⟨22, _, _, 192, rfl, at_22 P, rfl, rfl⟩, rfl, by kernel_rfl!, by kernel_rfl!, by kernel_rfl!, ⟨22, 18, rfl, ch_23 P, by rw [H0_size]; decide, H0_none (by decide)⟩, .inr ⟨15, _, rfl, ⟨_, at_15 P, rfl, _, rfl⟩, by kernel_rfl!⟩, .inr ⟨16, _, rfl, ns_H0 (by kernel_rfl!) (by decide), kw_23 P⟩⟩⟩
theorem at_32 : (H0 P).get? 32 = some (oB_32 P) := H0_get (by kernel_rfl!) (by decide)
theorem at_31 : (H0 P).get? 31 = some (oB_31 P) := H0_get (by kernel_rfl!) (by decide)
theorem ch_32 : CodeHd (H0 P) 31 27 := ⟨_, _, ofString "/claim/cut.py", 214, 3, 0, true, 181, 0, at_31 P, rfl, rfl, rfl, rfl, rfl, rfl, rfl, rfl, by decide⟩
theorem at_24 : (H0 P).get? 24 = some (oB_24 P) := H0_get (by kernel_rfl!) (by decide)
theorem kw_32 : ∀ x, ((HE P).nsMap 25 x).map topV = List.lookup x [(u "key", V.none)] := fun x => key_none (show (HE P).nsMap 25 x = nsFind #[⟨PyData.keyHash P (ofString "key"), (.str (ofString "key") 203), .none⟩] x by kernel_rfl!)
theorem fk_32 : fnOk P 32 (fnI 2 [.int 0, .none] [(u "key", .none)]) := ⟨_, _, ⟨at_32 P, rfl, rfl, rfl, rfl, rfl, rfl, rfl, ⟨31, _, _, 205, rfl, at_31 P, rfl, rfl⟩, rfl, by kernel_rfl!, by kernel_rfl!, by kernel_rfl!, ⟨31, 27, rfl, ch_32 P, by rw [H0_size]; decide, H0_none (by decide)⟩, .inr ⟨24, _, rfl, ⟨_, at_24 P, rfl, _, rfl⟩, by kernel_rfl!⟩, .inr ⟨25, _, rfl, ns_H0 (by kernel_rfl!) (by decide), kw_32 P⟩⟩⟩
theorem at_41 : (H0 P).get? 41 = some (oB_41 P) := H0_get (by kernel_rfl!) (by decide)
theorem at_40 : (H0 P).get? 40 = some (oB_40 P) := H0_get (by kernel_rfl!) (by decide)
theorem ch_41 : CodeHd (H0 P) 40 36 := ⟨_, _, ofString "/claim/cut.py", 227, 3, 0, true, 181, 0, at_40 P, rfl, rfl, rfl, rfl, rfl, rfl, rfl, rfl, by decide⟩
theorem at_33 : (H0 P).get? 33 = some (oB_33 P) := H0_get (by kernel_rfl!) (by decide)
theorem kw_41 : ∀ x, ((HE P).nsMap 34 x).map topV = List.lookup x [(u "key", V.none)] := fun x => key_none (show (HE P).nsMap 34 x = nsFind #[⟨PyData.keyHash P (ofString "key"), (.str (ofString "key") 217), .none⟩] x by kernel_rfl!)
theorem fk_41 : fnOk P 41 (fnI 3 [.int 0, .none] [(u "key", .none)]) := ⟨_, _, ⟨at_41 P, rfl, rfl, rfl, rfl, rfl, rfl, rfl, ⟨40, _, _, 219, rfl, at_40 P, rfl, rfl⟩, rfl, by kernel_rfl!, by kernel_rfl!, by kernel_rfl!, ⟨40, 36, rfl, ch_41 P, by rw [H0_size]; decide, H0_none (by decide)⟩, .inr ⟨33, _, rfl, ⟨_, at_33 P, rfl, _, rfl⟩, by kernel_rfl!⟩, .inr ⟨34, _, rfl, ns_H0 (by kernel_rfl!) (by decide), kw_41 P⟩⟩⟩
theorem at_50 : (H0 P).get? 50 = some (oB_50 P) := H0_get (by kernel_rfl!) (by decide)
theorem at_49 : (H0 P).get? 49 = some (oB_49 P) := H0_get (by kernel_rfl!) (by decide)
theorem ch_50 : CodeHd (H0 P) 49 45 := ⟨_, _, ofString "/claim/cut.py", 241, 3, 0, true, 181, 0, at_49 P, rfl, rfl, rfl, rfl, rfl, rfl, rfl, rfl, by decide⟩
theorem at_42 : (H0 P).get? 42 = some (oB_42 P) := H0_get (by kernel_rfl!) (by decide)
theorem kw_50 : ∀ x, ((HE P).nsMap 43 x).map topV = List.lookup x [(u "key", V.none)] := fun x => key_none (show (HE P).nsMap 43 x = nsFind #[⟨PyData.keyHash P (ofString "key"), (.str (ofString "key") 230), .none⟩] x by kernel_rfl!)
theorem fk_50 : fnOk P 50 (fnI 4 [.int 0, .none] [(u "key", .none)]) := ⟨_, _, ⟨at_50 P, rfl, rfl, rfl, rfl, rfl, rfl, rfl, ⟨49, _, _, 232, rfl, at_49 P, rfl, rfl⟩, rfl, by kernel_rfl!, by kernel_rfl!, by kernel_rfl!, ⟨49, 45, rfl, ch_50 P, by rw [H0_size]; decide, H0_none (by decide)⟩, .inr ⟨42, _, rfl, ⟨_, at_42 P, rfl, _, rfl⟩, by kernel_rfl!⟩, .inr ⟨43, _, rfl, ns_H0 (by kernel_rfl!) (by decide), kw_50 P⟩⟩⟩
theorem at_58 : (H0 P).get? 58 = some (oC_58 P) := H0_get (by kernel_rfl!) (by decide)
theorem at_57 : (H0 P).get? 57 = some (oC_57 P) := H0_get (by kernel_rfl!) (by decide)
theorem ch_58 : CodeHd (H0 P) 57 53 := ⟨_, _, ofString "/claim/cut.py", 284, 3, 0, true, 181, 0, at_57 P, rfl, rfl, rfl, rfl, rfl, rfl, rfl, rfl, by decide⟩
theorem fk_58 : fnOk P 58 (fnI 7 [] []) := ⟨_, _, ⟨at_58 P, rfl, rfl, rfl, rfl, rfl, rfl, rfl, ⟨57, _, _, 277, rfl, at_57 P, rfl, rfl⟩, rfl, by kernel_rfl!, by kernel_rfl!, by kernel_rfl!, ⟨57, 53, rfl, ch_58 P, by rw [H0_size]; decide, H0_none (by decide)⟩, .inl ⟨rfl, rfl⟩, .inl ⟨rfl, rfl⟩⟩⟩
theorem at_65 : (H0 P).get? 65 = some (oC_65 P) := H0_get (by kernel_rfl!) (by decide)
theorem at_64 : (H0 P).get? 64 = some (oC_64 P) := H0_get (by kernel_rfl!) (by decide)
theorem ch_65 : CodeHd (H0 P) 64 60 := ⟨_, _, ofString "/claim/cut.py", 293, 3, 0, true, 181, 0, at_64 P, rfl, rfl, rfl, rfl, rfl, rfl, rfl, rfl, by decide⟩
theorem fk_65 : fnOk P 65 (fnI 8 [] []) := ⟨_, _, ⟨at_65 P, rfl, rfl, rfl, rfl, rfl, rfl, rfl, ⟨64, _, _, 287, rfl, at_64 P, rfl, rfl⟩, rfl, by kernel_rfl!, by kernel_rfl!, by kernel_rfl!, ⟨64, 60, rfl, ch_65 P, by rw [H0_size]; decide, H0_none (by decide)⟩, .inl ⟨rfl, rfl⟩, .inl ⟨rfl, rfl⟩⟩⟩
theorem at_72 : (H0 P).get? 72 = some (oC_72 P) := H0_get (by kernel_rfl!) (by decide)
theorem at_71 : (H0 P).get? 71 = some (oC_71 P) := H0_get (by kernel_rfl!) (by decide)
theorem ch_72 : CodeHd (H0 P) 71 67 := ⟨_, _, ofString "/claim/cut.py", 309, 3, 0, true, 181, 0, at_71 P, rfl, rfl, rfl, rfl, rfl, rfl, rfl, rfl, by decide⟩
theorem fk_72 : fnOk P 72 (fnI 11 [] []) := ⟨_, _, ⟨at_72 P, rfl, rfl, rfl, rfl, rfl, rfl, rfl, ⟨71, _, _, 300, rfl, at_71 P, rfl, rfl⟩, rfl, by kernel_rfl!, by kernel_rfl!, by kernel_rfl!, ⟨71, 67, rfl, ch_72 P, by rw [H0_size]; decide, H0_none (by decide)⟩, .inl ⟨rfl, rfl⟩, .inl ⟨rfl, rfl⟩⟩⟩
theorem at_90 : (H0 P).get? 90 = some (oC_90 P) := H0_get (by kernel_rfl!) (by decide)
theorem at_89 : (H0 P).get? 89 = some (oC_89 P) := H0_get (by kernel_rfl!) (by decide)
theorem ch_90 : CodeHd (H0 P) 89 85 := ⟨_, _, ofString "/claim/cut.py", 378, 3, 0, true, 181, 0, at_89 P, rfl, rfl, rfl, rfl, rfl, rfl, rfl, rfl, by decide⟩
theorem fk_90 : fnOk P 90 (fnI 14 [] []) := ⟨_, _, ⟨at_90 P, rfl, rfl, rfl, rfl, rfl, rfl, rfl, ⟨89, _, _, 374, rfl, at_89 P, rfl, rfl⟩, rfl, by kernel_rfl!, by kernel_rfl!, by kernel_rfl!, ⟨89, 85, rfl, ch_90 P, by rw [H0_size]; decide, H0_none (by decide)⟩, .inl ⟨rfl, rfl⟩, .inl ⟨rfl, rfl⟩⟩⟩
theorem at_136 : (H0 P).get? 136 = some (oE_136 P) := H0_get (by kernel_rfl!) (by decide)
theorem at_135 : (H0 P).get? 135 = some (oE_135 P) := H0_get (by kernel_rfl!) (by decide)
theorem ch_136 : CodeHd (H0 P) 135 131 := ⟨_, _, ofString "/claim/cut.py", 2337, 3, 0, true, 181, 0, at_135 P, rfl, rfl, rfl, rfl, rfl, rfl, rfl, rfl, by decide⟩
theorem fk_136 : fnOk P 136 (fnI 16 [] []) := ⟨_, _, ⟨at_136 P, rfl, rfl, rfl, rfl, rfl, rfl, rfl, ⟨135, _, _, 2332, rfl, at_135 P, rfl, rfl⟩, rfl, by kernel_rfl!, by kernel_rfl!, by kernel_rfl!, ⟨135, 131, rfl, ch_136 P, by rw [H0_size]; decide, H0_none (by decide)⟩, .inl ⟨rfl, rfl⟩, .inl ⟨rfl, rfl⟩⟩⟩
theorem at_141 : (H0 P).get? 141 = some (oE_141 P) := H0_get (by kernel_rfl!) (by decide)
theorem at_140 : (H0 P).get? 140 = some (oE_140 P) := H0_get (by kernel_rfl!) (by decide)
theorem ch_141 : CodeHd (H0 P) 140 138 := ⟨_, _, ofString "/claim/cut.py", 2345, 3, 0, true, 181, 0, at_140 P, rfl, rfl, rfl, rfl, rfl, rfl, rfl, rfl, by decide⟩
theorem fk_141 : fnOk P 141 (fnI 18 [] []) := ⟨_, _, ⟨at_141 P, rfl, rfl, rfl, rfl, rfl, rfl, rfl, ⟨140, _, _, 2342, rfl, at_140 P, rfl, rfl⟩, rfl, by kernel_rfl!, by kernel_rfl!, by kernel_rfl!, ⟨140, 138, rfl, ch_141 P, by rw [H0_size]; decide, H0_none (by decide)⟩, .inl ⟨rfl, rfl⟩, .inl ⟨rfl, rfl⟩⟩⟩
theorem at_146 : (H0 P).get? 146 = some (oE_146 P) := H0_get (by kernel_rfl!) (by decide)
theorem at_145 : (H0 P).get? 145 = some (oE_145 P) := H0_get (by kernel_rfl!) (by decide)
theorem ch_146 : CodeHd (H0 P) 145 143 := ⟨_, _, ofString "/claim/cut.py", 2351, 3, 0, true, 181, 0, at_145 P, rfl, rfl, rfl, rfl, rfl, rfl, rfl, rfl, by decide⟩
theorem fk_146 : fnOk P 146 (fnI 19 [] []) := ⟨_, _, ⟨at_146 P, rfl, rfl, rfl, rfl, rfl, rfl, rfl, ⟨145, _, _, 2348, rfl, at_145 P, rfl, rfl⟩, rfl, by kernel_rfl!, by kernel_rfl!, by kernel_rfl!, ⟨145, 143, rfl, ch_146 P, by rw [H0_size]; decide, H0_none (by decide)⟩, .inl ⟨rfl, rfl⟩, .inl ⟨rfl, rfl⟩⟩⟩
theorem at_151 : (H0 P).get? 151 = some (oE_151 P) := H0_get (by kernel_rfl!) (by decide)
theorem at_150 : (H0 P).get? 150 = some (oE_150 P) := H0_get (by kernel_rfl!) (by decide)
theorem ch_151 : CodeHd (H0 P) 150 148 := ⟨_, _, ofString "/claim/cut.py", 2357, 3, 0, true, 181, 0, at_150 P, rfl, rfl, rfl, rfl, rfl, rfl, rfl, rfl, by decide⟩
theorem fk_151 : fnOk P 151 (fnI 20 [] []) := ⟨_, _, ⟨at_151 P, rfl, rfl, rfl, rfl, rfl, rfl, rfl, ⟨150, _, _, 2354, rfl, at_150 P, rfl, rfl⟩, rfl, by kernel_rfl!, by kernel_rfl!, by kernel_rfl!, ⟨150, 148, rfl, ch_151 P, by rw [H0_size]; decide, H0_none (by decide)⟩, .inl ⟨rfl, rfl⟩, .inl ⟨rfl, rfl⟩⟩⟩
theorem at_158 : (H0 P).get? 158 = some (oE_158 P) := H0_get (by kernel_rfl!) (by decide)
theorem at_157 : (H0 P).get? 157 = some (oE_157 P) := H0_get (by kernel_rfl!) (by decide)
theorem ch_158 : CodeHd (H0 P) 157 153 := ⟨_, _, ofString "/claim/cut.py", 2366, 3, 0, true, 181, 0, at_157 P, rfl, rfl, rfl, rfl, rfl, rfl, rfl, rfl, by decide⟩
theorem fk_158 : fnOk P 158 (fnI 21 [] []) := ⟨_, _, ⟨at_158 P, rfl, rfl, rfl, rfl, rfl, rfl, rfl, ⟨157, _, _, 2360, rfl, at_157 P, rfl, rfl⟩, rfl, by kernel_rfl!, by kernel_rfl!, by kernel_rfl!, ⟨157, 153, rfl, ch_158 P, by rw [H0_size]; decide, H0_none (by decide)⟩, .inl ⟨rfl, rfl⟩, .inl ⟨rfl, rfl⟩⟩⟩
theorem at_163 : (H0 P).get? 163 = some (oE_163 P) := H0_get (by kernel_rfl!) (by decide)
theorem at_162 : (H0 P).get? 162 = some (oE_162 P) := H0_get (by kernel_rfl!) (by decide)
theorem ch_163 : CodeHd (H0 P) 162 160 := ⟨_, _, ofString "/claim/cut.py", 2372, 3, 0, true, 181, 0, at_162 P, rfl, rfl, rfl, rfl, rfl, rfl, rfl, rfl, by decide⟩
theorem fk_163 : fnOk P 163 (fnI 22 [] []) := ⟨_, _, ⟨at_163 P, rfl, rfl, rfl, rfl, rfl, rfl, rfl, ⟨162, _, _, 2369, rfl, at_162 P, rfl, rfl⟩, rfl, by kernel_rfl!, by kernel_rfl!, by kernel_rfl!, ⟨162, 160, rfl, ch_163 P, by rw [H0_size]; decide, H0_none (by decide)⟩, .inl ⟨rfl, rfl⟩, .inl ⟨rfl, rfl⟩⟩⟩
theorem at_170 : (H0 P).get? 170 = some (oE_170 P) := H0_get (by kernel_rfl!) (by decide)
theorem at_169 : (H0 P).get? 169 = some (oE_169 P) := H0_get (by kernel_rfl!) (by decide)
theorem ch_170 : CodeHd (H0 P) 169 165 := ⟨_, _, ofString "/claim/cut.py", 2384, 3, 0, true, 181, 0, at_169 P, rfl, rfl, rfl, rfl, rfl, rfl, rfl, rfl, by decide⟩
theorem fk_170 : fnOk P 170 (fnI 23 [] []) := ⟨_, _, ⟨at_170 P, rfl, rfl, rfl, rfl, rfl, rfl, rfl, ⟨169, _, _, 2375, rfl, at_169 P, rfl, rfl⟩, rfl, by kernel_rfl!, by kernel_rfl!, by kernel_rfl!, ⟨169, 165, rfl, ch_170 P, by rw [H0_size]; decide, H0_none (by decide)⟩, .inl ⟨rfl, rfl⟩, .inl ⟨rfl, rfl⟩⟩⟩
theorem at_175 : (H0 P).get? 175 = some (oE_175 P) := H0_get (by kernel_rfl!) (by decide)
theorem at_174 : (H0 P).get? 174 = some (oE_174 P) := H0_get (by kernel_rfl!) (by decide)
theorem ch_175 : CodeHd (H0 P) 174 172 := ⟨_, _, ofString "/claim/cut.py", 2390, 3, 0, true, 181, 0, at_174 P, rfl, rfl, rfl, rfl, rfl, rfl, rfl, rfl, by decide⟩
theorem fk_175 : fnOk P 175 (fnI 24 [] []) := ⟨_, _, ⟨at_175 P, rfl, rfl, rfl, rfl, rfl, rfl, rfl, ⟨174, _, _, 2387, rfl, at_174 P, rfl, rfl⟩, rfl, by kernel_rfl!, by kernel_rfl!, by kernel_rfl!, ⟨174, 172, rfl, ch_175 P, by rw [H0_size]; decide, H0_none (by decide)⟩, .inl ⟨rfl, rfl⟩, .inl ⟨rfl, rfl⟩⟩⟩
theorem f_all : Alls (fun p : Addr × FnI => fnOk P p.1 p.2) G3.fns := ⟨fk_23 P, fk_32 P, fk_41 P, fk_50 P, fk_58 P, fk_65 P, fk_72 P, fk_90 P, fk_136 P, fk_141 P, fk_146 P, fk_151 P, fk_158 P, fk_163 P, fk_170 P, fk_175 P, trivial⟩
theorem g_fns (a : Addr) (fi : FnI) (h : G3.fns.lookup a = some fi) : fnOk P a fi := Alls.mem (R := fun p : Addr × FnI => fnOk P p.1 p.2) (x := (a, fi)) (f_all P) (lookup_memJ h)
theorem fnW {w : World} {a : Addr} {fi : FnI} (h : fnOk w.params a fi) : ∃ o fd, FnOk w a fi o fd := by
 unfold FnOk
 rw [HW_is w]; exact h
theorem ch_all (p : Addr) (hp : p ∈ tabsA) : ∃ c, CodeHd (H0 P) c p := Alls.mem (R := fun p => ∃ c, CodeHd (H0 P) c p) (l := tabsA) ⟨⟨_, ch_23 P⟩, ⟨_, ch_32 P⟩, ⟨_, ch_41 P⟩, ⟨_, ch_50 P⟩, ⟨_, ch_58 P⟩, ⟨_, ch_65 P⟩, ⟨_, ch_72 P⟩, ⟨_, ch_90 P⟩, ⟨_, ch_136 P⟩, ⟨_, ch_141 P⟩, ⟨_, ch_146 P⟩, ⟨_, ch_151 P⟩, ⟨_, ch_158 P⟩, ⟨_, ch_163 P⟩, ⟨_, ch_170 P⟩, ⟨_, ch_175 P⟩, trivial⟩ hp
theorem tab_all (p : Addr) (hp : p ∈ tabsA) : (HE P).get? p = some (tabObj #[]) := List.map_inj_left.mp (show tabsA.map (fun p => (HE P).get? p) = tabsA.map fun _ => some (tabObj #[]) by kernel_rfl!) p hp
theorem at_4 : ∃ o, (H0 P).get? 4 = some o ∧ o.cls = .type "module" ∧ o.dict = some builtinsNs ∧ o.data = .plain := ⟨_, H0_get (a := 4) (o := boot_o_4 P) (by kernel_rfl!) (by decide), rfl, rfl, rfl⟩
theorem baseJ (w : World) : Base w where
 nolimit := by rw [HW_is]; exact ⟨_, ns_H0 (a := cStatics) (by kernel_rfl!) (by decide), by kernel_rfl!⟩
 bmain := by
  rw [HW_is]
  exact ⟨_, ns_H0 (a := mainGlobals) (by kernel_rfl!) (by decide), fun p hp => by
   obtain ⟨o, h1, h2, h3, h4⟩ := at_4 w.params
   exact ⟨4, o, by kernel_rfl!, by decide, by decide, (by rintro rfl; rw [h1] at hp; cases hp), h1, h2, h3, h4⟩⟩
 sysm := by rw [HW_is]; exact ⟨_, H0_get (a := sysModules) (o := boot_o_1 w.params) (by kernel_rfl!) (by decide)⟩
 globals := by
  rw [HW_is, GG_is]
  exact ⟨_, _, ns_H0 (a := mainGlobals) (by kernel_rfl!) (by decide), ns_H0 (a := builtinsNs) (by kernel_rfl!) (by decide), g_names w.params⟩
 fns := by
  rw [GG_is]
  exact fun a fi h => fnW (g_fns w.params a fi h)
end
section
variable {prog : Program} {w : World}
theorem self_int (i : Int) (t : Tok) : (intKind prog w).is i (.int i t) = true := decide_eq_true rfl
noncomputable def setB1 : List (Int × Nat) := [(65024, 329), (65025, 330), (65026, 331), (65027, 332), (65028, 333), (65029, 334), (6150, 315), (65030, 335), (65031, 336), (65032, 337), (65033, 338), (6155, 316), (6156, 317), (6157, 318), (8203, 319), (8204, 320), (8205, 321), (65034, 339), (65035, 340), (65036, 341), (65037, 342), (65038, 343), (65039, 344), (173, 313), (847, 314), (8288, 322), (65279, 323)]
noncomputable def setL1 : List Int := [173, 847, 6150, 6155, 6156, 6157, 8203, 8204, 8205, 8288, 65279] ++ (List.range 16).map fun (k : Nat) => (65024 : Int) + k
theorem at_80 (P : Params) : ∃ o n t, (H0 P).get? 80 = some o ∧ o.ExactSet ∧ o.data = .set (setB1.map fun p => (p.1, Value.int p.1 p.2)).toArray n t ∧ t.fits 27 = true := ⟨_, _, _, H0_get (a := 80) (o := oC_80 P) (by kernel_rfl!) (by decide), ⟨rfl, rfl, rfl⟩, rfl, rfl⟩
theorem setsJ (w : World) : SetsOk w := by
 unfold SetsOk
 rw [HW_is, GG_is]
 intro a l h
 ·have hm := lookup_memJ h
  have e : G3.sets = [(80, setL1)] := rfl
  rw [e] at hm
  simp only [mem_singleton, Prod.mk.injEq] at hm
  obtain ⟨rfl, rfl⟩ := hm
  obtain ⟨o, n, t, h1, h2, h3, h4⟩ := at_80 w.params
  refine ⟨27, o, _, n, t, h1, h2, h3, fun e he => ?_, fun k => ?_, by decide, by simpa [setB1] using h4, rfl⟩
  ·simp only [mem_map] at he
   obtain ⟨p, hp, rfl⟩ := he
   refine ⟨⟨p.1, ?_, ?_⟩, rfl⟩
   ·exact self_int p.1 _
   ·have : setB1.all (fun p => p.1 == hashInt p.1) = true := by decide +kernel
    exact eq_of_beq (all_eq_true.mp this p hp)
  ·have e1 : ∀ x, x ∈ setL1 → x ∈ setB1.map (·.1) := fun x hx => by
    have : setL1.all (fun x => (setB1.map (·.1)).contains x) = true := by decide +kernel
    exact contains_iff_mem.mp (all_eq_true.mp this x hx)
   have e2 : ∀ x, x ∈ setB1.map (·.1) → x ∈ setL1 := fun x hx => by
    have : (setB1.map (·.1)).all (fun x => setL1.contains x) = true := by decide +kernel
    exact contains_iff_mem.mp (all_eq_true.mp this x hx)
   constructor
   ·intro hk
    obtain ⟨p, hp, hq⟩ := mem_map.mp (e1 k (contains_iff_mem.mp hk))
    exact ⟨(p.1, .int p.1 p.2), by simp only [mem_map]; exact ⟨p, hp, rfl⟩, by subst hq; exact self_int p.1 _⟩
   ·rintro ⟨e, he, hk⟩
    simp only [mem_map] at he
    obtain ⟨p, hp, rfl⟩ := he
    have hk' : p.1 = k := by
     have : decide (p.1 = k) = true := hk
     simpa using this
    subst hk'
    exact contains_iff_mem.mpr (e2 _ (mem_map_of_mem hp))
noncomputable def findJ (es : List DictEntry) (i : Int) : Option Value := (es.find? fun e => Value.isInt i e.key).map (·.val)
noncomputable def TabJ (es : List DictEntry) (l : List (Int × List Nat)) : Prop := ∀ i, OptS (l.lookup i) (findJ es i)
theorem TabJ.app {e1 e2 : List DictEntry} {l1 l2 : List (Int × List Nat)} (h1 : TabJ e1 l1) (h2 : TabJ e2 l2) : TabJ (e1 ++ e2) (l1 ++ l2) := fun i => by
 have a := h1 i
 have c := h2 i
 unfold findJ at *
 rw [List.find?_append, List.lookup_append]
 cases hl : l1.lookup i with
 | none =>
  rw [hl] at a
  cases hf : e1.find? fun e => Value.isInt i e.key with
  | none => exact c
  | some e => rw [hf] at a; cases a
 | some x =>
  rw [hl] at a
  cases hf : e1.find? fun e => Value.isInt i e.key with
  | none => rw [hf] at a; cases a
  | some e => rw [hf] at a; exact a
theorem tabJ_ents (k : Nat) : ∀ (l : List (Int × Str)) (tk : Nat), TabJ (ents k l tk) (l.map fun p => (p.1, p.2.cps.toList))
 | [], _, i => trivial
 | (j, x) :: r, tk, i => by
  have ih := tabJ_ents k r (tk + k) i
  show OptS (List.lookup i ((j, x.cps.toList) :: r.map fun p => (p.1, p.2.cps.toList))) (findJ (⟨j, .int j tk, .str x (tk + 1)⟩ :: ents k r (tk + k)) i)
  unfold findJ at *
  rw [lookup_cons, find?_cons]
  by_cases h : j = i
  ·subst h
   have e1 : Value.isInt j (.int j tk) = true := by simp [Value.isInt]
   rw [e1, beq_self_eq_true]
   exact ⟨_, by rw [S_toList]⟩
  ·have e1 : Value.isInt i (.int j tk) = false := by simp [Value.isInt, h]
   have e2 : (i == j) = false := by rw [beq_eq_false_iff_ne]; exact fun q => h q.symm
   rw [e1, e2]
   exact ih
theorem keys_ents {prog : Program} {w : World} (k : Nat) : ∀ (l : List (Int × Str)) (tk : Nat), (∀ p ∈ l, hashInt p.1 = p.1) → ∀ e ∈ ents k l tk, ∃ i, (intKind prog w).is i e.key = true ∧ e.hash = (intKind prog w).hash i
 | [], _, _, e, he => by cases he
 | (j, x) :: r, tk, h, e, he => by
  rcases mem_cons.mp (show e ∈ ⟨j, .int j tk, .str x (tk + 1)⟩ :: ents k r (tk + k) from he) with rfl | he
  ·exact ⟨j, self_int j _, (h (j, x) (mem_cons_self ..)).symm⟩
  ·exact keys_ents k r (tk + k) (fun p hp => h p (mem_cons_of_mem _ hp)) e he
noncomputable def flagsL : List (Int × Str) := [(1, u "OPTIMIZED"), (2, u "NEWLOCALS"), (4, u "VARARGS"), (8, u "VARKEYWORDS"), (16, u "NESTED"), (32, u "GENERATOR"), (64, u "NOFREE"), (128, u "COROUTINE"), (256, u "ITERABLE_COROUTINE"), (512, u "ASYNC_GENERATOR")]
theorem at_51 (P : Params) : ∃ o n, (H0 P).get? 51 = some o ∧ o.ExactDict ∧ o.data = .dict (ents 2 flagsL 245).toArray n := ⟨_, _, H0_get (a := 51) (o := oC_51 P) (by kernel_rfl!) (by decide), ⟨rfl, rfl, rfl⟩, rfl⟩
noncomputable def entsB : List DictEntry := ents 3 (its (c0B ++ csB.flatten)) 380 ++ ents 2 (its lastB) (380 + 3 * (c0B ++ csB.flatten).length)
theorem at_91 (P : Params) : ∃ o n, (H0 P).get? 91 = some o ∧ o.ExactDict ∧ o.data = .dict entsB.toArray n := ⟨_, _, H0_get (a := 91) (o := mainO) (by kernel_rfl!) (by decide), ⟨rfl, rfl, rfl⟩, rfl⟩
theorem items_split : its (c0B ++ csB.flatten) ++ its lastB = its itemsB := by kernel_rfl!
theorem itemsB_hash : (its itemsB).all (fun p => hashInt p.1 == p.1) = true := by decide +kernel
theorem its_map (l : List (Item × Pos)) : (its l).map (fun p => (p.1, p.2.cps.toList)) = l.map fun p => (p.1.1, p.1.2.cps.toList) := by
 unfold its
 rw [map_map]; rfl
theorem mapJ {h : Heap} {a : Addr} {o : Obj} {n : Nat} {es : List DictEntry} {l : List (Int × List Nat)} (h1 : h.get? a = some o) (h2 : o.ExactDict) (h3 : o.data = .dict es.toArray n) (hk : ∀ e ∈ es, ∃ i, (intKind prog w).is i e.key = true ∧ e.hash = (intKind prog w).hash i) (ht : TabJ es l) :
 ∃ f, h.MapOf (intKind prog w) a f ∧ ∀ i : Int, 0 ≤ i → i < 2 ^ 60 → OptS (l.lookup i) (f i) := by
 refine ⟨findJ es, ⟨o, _, n, h1, h2, h3, fun e he => hk e (by simpa using he), fun k => ?_⟩, fun i _ _ => ht i⟩
 unfold findBy findJ
 rw [List.find?_toArray]
 rfl
theorem tabsJ (w : World) : TabsOk w := by
 unfold TabsOk
 rw [HW_is, GG_is]
 intro a l h
 ·have hm := lookup_memJ h
  have e : G3.tabs = [(51, flagsL.map fun p => (p.1, p.2.cps.toList)), (91, itemsB.map fun p => (p.1.1, p.1.2.cps.toList))] := rfl
  rw [e] at hm
  simp only [mem_cons, not_mem_nil, or_false, Prod.mk.injEq] at hm
  rcases hm with ⟨rfl, rfl⟩ | ⟨rfl, rfl⟩
  ·obtain ⟨o, n, h1, h2, h3⟩ := at_51 w.params
   exact ⟨by decide, mapJ h1 h2 h3 (keys_ents 2 flagsL _ (fun p hp => by
    have : flagsL.all (fun p => hashInt p.1 == p.1) = true := by decide +kernel
    exact eq_of_beq (all_eq_true.mp this p hp))) (tabJ_ents 2 flagsL _)⟩
  ·obtain ⟨o, n, h1, h2, h3⟩ := at_91 w.params
   have hh : ∀ p ∈ its (c0B ++ csB.flatten) ++ its lastB, hashInt p.1 = p.1 := fun p hp => by
    rw [items_split] at hp
    exact eq_of_beq (all_eq_true.mp itemsB_hash p hp)
   refine ⟨by decide, mapJ h1 h2 h3 (fun e he => ?_) ?_⟩
   ·rcases mem_append.mp he with q | q
    ·exact keys_ents 3 _ _ (fun p hp => hh p (mem_append_left _ hp)) e q
    ·exact keys_ents 2 _ _ (fun p hp => hh p (mem_append_right _ hp)) e q
   ·rw [← its_map, ← items_split, map_append]
    exact TabJ.app (tabJ_ents 3 _ _) (tabJ_ents 2 _ _)
end
section
variable {w : World} {h : Heap} {s : Shared}
noncomputable def hookS (w : World) (h : Heap) : Prop := ∀ b o, (HE w.params).get? b = some o → h.get? b = some o
theorem hookS_of (w : World) (s : Shared) (e : s.heap = HE w.params) : hookS w s.heap := fun b o h => by rw [e]; exact h
theorem hookS_keeps (w : World) (h h' : Heap) (x : hookS w h) (k : ∀ b o, h.get? b = some o → h'.get? b = some o) : hookS w h' := fun b o e => k b o (x b o e)
noncomputable def ioJ : Pl := ⟨[], tabsA.map C.tab, []⟩
noncomputable def soJ : Oj := tabsA.map fun _ => AObj.tab
theorem mt_ioJ : ioJ.mt = tabsA := by rfl
theorem rel_start (Y : hookS w h) : RelW w ioJ [] soJ h := by
 unfold RelW
 rw [HW_is]
 exact {
  len := by rw [ioJ, soJ, length_map, length_map]
  flen := rfl
  base := fun a o e => Y a o (H0_of e)
  off := fun a ha => H0_none (mt_ioJ ▸ ha)
  nd := by rw [mt_ioJ]; decide
  ex := fun a ha => ⟨_, Y a _ (tab_all w.params a (mt_ioJ ▸ ha))⟩
  objs := fun i o c ho hc => by
   unfold soJ at ho
   unfold ioJ at hc
   rw [getElem?_map] at ho hc
   cases ht : tabsA[i]? with
   | none => rw [ht] at ho; cases ho
   | some p =>
    rw [ht] at ho hc
    cases ho
    cases hc
    exact ⟨#[], Y p _ (tab_all w.params p (mem_of_getElem? ht)), (by exact trivial), fun pos cv hcv => by cases hcv⟩
  frs := fun i f p hf _ => by cases hf
  tab := fun p hp hn => by
   obtain ⟨k, hk⟩ := List.getElem?_of_mem (H0_tab hp hn)
   exact ⟨k, by unfold ioJ; rw [getElem?_map, hk]; rfl⟩ }
theorem wellInts {P : Params} {κ : Pl} : ∀ {xs : List Int} {vs : List Value} {ds : List WData}, WellAll P h vs ds → ds = xs.map .int → RVs h κ (xs.map .int) vs := by
 intro xs
 induction xs with
 | nil =>
  intro _ _ w e
  cases w with
  | nil => rfl
  | cons _ _ => cases e
 | cons x xs ih =>
  intro _ _ w e
  cases w with
  | nil => cases e
  | cons a b =>
   cases e
   cases a with
   | int i t => exact ⟨_, _, rfl, ⟨t, rfl⟩, ih b rfl⟩
theorem ofPy_ints (xs : List Int) : ofPy (.list (xs.map .int)) = .list (xs.map .int) := by
 show WData.list (ofPys (xs.map PyData.int)) = _
 rw [ofPys_eq, map_map]
 rfl
theorem law_ends (hP : ∀ C : List Nat, C.length = 7 → Plain C) (Y : hookS w s.heap) {E : Value → Shared → Prop} {a : Addr} {xs : List Int} {vs : List Value} (hx : xs.length < 64) (hget : s.heap.get? a = some { cls := .type "list", data := .seq vs.toArray }) (hw : WellAll w.params s.heap vs (xs.map .int)) :
 wpAny (MW w) callerA (call (.ref 175) [.ref a] []) (End w soJ.length ioJ [] soJ s RV (fun v O => v = V.bool true)) noE s := by
 have hc := (law_call (n := 0) (b := soJ.length) (O := soJ) (script := xs) (Q := fun v O => v = V.bool true) hx sort_ok hP rfl).is
 rw [← GG_is] at hc
 refine (all_sound (baseJ w) (setsJ w) (tabsJ w) 125).c hc ⟨by decide, by decide, rfl⟩ (rel_start Y) (le_refl _) (show RV s.heap ioJ (.cst (.ref 175)) (.ref 175) from rfl) ?_ rfl
 refine ⟨_, _, rfl, ⟨a, vs.toArray, rfl, ⟨_, hget⟩, fun hm => ?_, wellInts hw rfl⟩, rfl⟩
 rw [mt_ioJ] at hm
 have := Y a _ (tab_all w.params a hm)
 rw [hget] at this
 cases this
theorem old_ends {s' : Shared} {κ' : Pl} {O' : Oj} (Y : hookS w s.heap) (R : RelW w κ' [] O' s'.heap) (X : Ext s.heap ioJ s'.heap κ') : OldK s.heap s'.heap := by
 have ht : ∀ b ∈ tabsA, ∃ ps, s'.heap.get? b = some (tabObj ps) := fun b hb => by
  obtain ⟨k, hk⟩ := List.getElem?_of_mem hb
  have h1 : ioJ.ob[k]? = some (.tab b) := by unfold ioJ; rw [getElem?_map, hk]; rfl
  have h2 := pre_get X.pre h1
  have hlt : k < O'.length := by rw [← R.len]; exact (List.getElem?_eq_some_iff.mp h2).1
  have h3 := R.objs k O'[k] (.tab b) (List.getElem?_eq_some_iff.mpr ⟨hlt, rfl⟩) h2
  cases ho : O'[k] with
  | tab => rw [ho] at h3; obtain ⟨ps, hp, _⟩ := h3; exact ⟨ps, hp⟩
  | _ => rw [ho] at h3; exact absurd h3 id
 constructor
 ·intro b o e
  by_cases hb : b ∈ tabsA
  ·have e0 := Y b _ (tab_all w.params b hb)
   rw [e] at e0
   cases e0
   obtain ⟨ps, hp⟩ := ht b hb
   obtain ⟨c, o, vs, file, tf, flags, tg, inF, text, tt, h1, h2, h3, h4, _⟩ := ch_all w.params b hb
   exact .inr (.inl ⟨⟨c, o, vs, Y c o (H0_of h1), h2, h3, h4⟩, rfl, #[], ps, rfl, by rw [hp]; simp⟩)
  ·exact .inl (X.keep b o e (by rw [mt_ioJ]; exact hb))
 ·intro b o e
  by_cases hb : b ∈ tabsA
  ·obtain ⟨ps, hp⟩ := ht b hb
   exact ⟨_, hp⟩
  ·exact ⟨o, X.keep b o e (by rw [mt_ioJ]; exact hb)⟩
set_option tactic.hygienic true in
set_option maxHeartbeats 8000000 in
theorem holds_row (said : PySem.Challenge.rw_ta0099_02.row.wellSaid = true) (hP : ∀ C : List Nat, C.length = 7 → Plain C) : PySem.Challenge.rw_ta0099_02.row.Holds := by
 refine holds_open (q := qv) (loose := looseN) (Xt := fun _ => true) (XP := fun _ _ => True) (Yf := fun s => s.heap) (Ya := fun w => HE w.params) (YP := hookS) (N := 100000) leftL hookS_of hookS_keeps
  (fun _ _ => trivial) (fun _ _ _ _ _ => trivial) (by rfl) (by rfl) (by rfl) (fun _ _ => recFacts_nil rfl) (by rfl) (by assumption) (by decide +kernel) ⟨rfl, rfl, rfl, rfl, rfl, by decide +kernel⟩ ?hw ?hc
 case hw => w_witness2
 case hc =>
  intro w s₀ s₁ mg mb G Y fa o pm cd doc dV kV ho hd hcd hD hmg hg args vals as hpre hlay hrd hwl hlo
  have hT := G.T.g
  clear hd hcd hD ho
  have hfa : fa = 175 := by
   obtain ⟨o, es, ep, h1, h2, h3, h4⟩ := hT
   obtain ⟨o', es', ep', k1, k2, k3, k4⟩ := Ns.of_isNs (h := HE w.params) (a := mainGlobals) (by kernel_rfl!)
   have k5 := Y _ _ k1
   rw [h1] at k5
   cases k5
   rw [h2] at k2
   cases k2
   have e1 := k4 (ofString "law")
   have e2 := h4 (ofString "law")
   have e3 : (HE w.params).nsMap mainGlobals (ofString "law") = some (.ref 175) := by kernel_rfl!
   rw [e3] at e1
   have hmg' : mg (ofString "law") = some (.ref fa) := hmg
   rw [e1, hmg'] at e2
   cases e2
   rfl
  subst hfa
  clear hmg hT
  wrow_args hpre hlay hrd hwl hlo
  rename_i xs _ _ _ _ _ _ _ a vs0 _ _ _ hwel _ _ _ hlen _
  rw [ofPy_ints] at hwel ⊢
  cases hwel with
  | list hget hwa =>
   have hcall := law_ends hP Y (E := fun e s' => GoodWG PySem.Challenge.rw_ta0099_02.row.claim (classAt s₀.heap) (ExcName.means s₀.heap) [WData.list (xs.map .int)] s₁ (Except.error e) s') (by omega) hget hwa
   rw [MW, PG_is] at hcall
   refine wpAny_mono hcall (fun v s' he => ?_) fun _ _ x => x.elim
   obtain ⟨hv', g, hv⟩ := he
   subst hv'
   have hv' : v = .bool true := hv
   subst hv'
   refine ⟨.inl ⟨.bool true, .bool true, [], rfl, fun cls => rfl, .bool true, by wrow_post, fun _ => ⟨nodup_nil, fun a ha => by cases ha⟩⟩, old_ends Y g.rel g.ext, g.rest.2.1, ?_⟩
   intro y hy
   rw [g.rest.1, hg] at hy
   simp at hy
end
end Mine
set_option maxRecDepth 100000 in
set_option maxHeartbeats 8000000 in
theorem PySem.Challenge.cw_ta0099_02_holds : PySem.Challenge.rw_ta0099_02.Holds := by
  exact holds_law Mine.said_law fun said => Mine.holds_row said Mine.plain_all
