import PyProof.Rows.All
import PyProof.AutoSeq1
import PyProof.CallFns
import PyProof.PlainList
import PyProof.SumWalk
import PyProof.StrWalks
import PyProof.MeetsSeq
import PyProof.MeetsDict
import PyProof.DictRoads
import PyProof.DictTruth
import PyProof.EqAt
import PyProof.StrOps
import PyProof.WalksMore
import PyProof.ListCopy
import PyProof.ListMulRoad
import PyProof.ListRange
import PyProof.WalkInts
import PyProof.StrLawsRepr
import PyProof.StrBlockH
import PyProof.Rows.StrNews2
import PyProof.Rows.StrBin
import PyProof.Rows.BitMore
import PyProof.Rows.RuleB_lshift
import PyProof.Rows.RuleB_pow
import PyProof.WalksEnum
import PyProof.Rows.RuleB_floordiv
import PyProof.Rows.RuleB_mod
import PyProof.Rows.RuleB_and
import PyProof.Rows.RuleB_or
import PyProof.Rows.RuleB_xor
import PyProof.Rows.RuleIs
import PyProof.Rows.RuleN_abs
import PyProof.Rows.SortShellK
import PyProof.SetRoads
import KE.KLam
import KE.KDictIter
import KE.KSortAsk
import KE.KSortTup
import KE.KTupTruth
import Wide.FinOn
import OpenK.AllK
import Wide.All
import Lean
import PySem.Challenge.RW_ta0099_03
open PySem PySem.W PyProof.Rows
set_option Elab.async false
set_option maxRecDepth 100000
set_option linter.unusedVariables false
set_option linter.unusedSimpArgs false
set_option exponentiation.threshold 10000
set_option maxHeartbeats 1000000
set_option genSizeOf false
set_option genInjectivity false
set_option tactic.hygienic false
set_option bootstrap.genMatcherCode false
namespace Mine
theorem said_a1 : (sreFenced PySem.Challenge.rw_ta0099_03.row.prog.main) = true := by kernel_rfl!
theorem said_a2 : (((moduleNames PySem.Challenge.rw_ta0099_03.row.prog.main.body).isEmpty || lookedIntoSs (moduleNames PySem.Challenge.rw_ta0099_03.row.prog.main.body) PySem.Challenge.rw_ta0099_03.row.prog.main.body)) = true := by kernel_rfl!
theorem said_a3 : (namesResolve PySem.Challenge.rw_ta0099_03.row.prog) = true := by kernel_rfl!
theorem said_a4 : (PySem.Challenge.rw_ta0099_03.row.prog.boundNames.all (fun n => !worldNames.contains n)) = true := by kernel_rfl!
theorem said_a5 : (noRoadLSs { strict := !(importedModules PySem.Challenge.rw_ta0099_03.row.prog.main.body).all cThrough.contains, foot := none, bare := (["vars", "dir", "locals"] : List Str).filter (readsOut PySem.Challenge.rw_ta0099_03.row.prog PySem.Challenge.rw_ta0099_03.row.prog.main.body) } PySem.Challenge.rw_ta0099_03.row.prog.main.body) = true := by kernel_rfl!
theorem said_a6 : (namesMeet PySem.Challenge.rw_ta0099_03.row.prog PySem.Challenge.rw_ta0099_03.row.prog.main.body fun _ n => attrL n) = true := by kernel_rfl!
theorem said_looks : looksOpen PySem.Challenge.rw_ta0099_03.row.prog = true := look_both (look_both (look_both (look_both (look_both said_a1 said_a2) said_a3) said_a4) said_a5) said_a6
theorem said_part : PySem.Challenge.rw_ta0099_03.row.partSaid = true := look_both (look_both (look_both (look_both (look_both (look_both (look_both (look_both (look_both (look_both (look_both (look_both (look_both (said_looks) (by kernel_rfl!)) (by kernel_rfl!)) (by kernel_rfl!)) (by kernel_rfl!)) (by kernel_rfl!)) (by kernel_rfl!)) (by kernel_rfl!)) (by kernel_rfl!)) (by kernel_rfl!)) (by kernel_rfl!)) (by kernel_rfl!)) (by kernel_rfl!)) (by kernel_rfl!)
theorem said_row : PySem.Challenge.rw_ta0099_03.row.wellSaid = true := look_both (look_both (said_part) (by kernel_rfl!)) (by kernel_rfl!)
theorem said_l1 : (noRoadLSs { strict := true, foot := some PySem.Challenge.rw_ta0099_03.bound', writes := PySem.Challenge.rw_ta0099_03.writes, may := PySem.Challenge.rw_ta0099_03.may } PySem.Challenge.rw_ta0099_03.footing) = true := by kernel_rfl!
theorem said_l2 : (namesMeet PySem.Challenge.rw_ta0099_03.prog PySem.Challenge.rw_ta0099_03.above (fun _ n => !PySem.Challenge.rw_ta0099_03.own.contains n)) = true := by kernel_rfl!
theorem said_m1 : (namesMeet PySem.Challenge.rw_ta0099_03.prog PySem.Challenge.rw_ta0099_03.footing (fun sc n => (!(["type", "isinstance", "issubclass", "getattr", "hasattr"] : List Str).contains n || sc.names.lookup n == some .globalImplicit) &&
    (PySem.Challenge.rw_ta0099_03.may != some n || sc.kind == .module || sc.names.lookup n == some .globalImplicit))) = true := by kernel_rfl!
theorem said_m2 : (namesMeet PySem.Challenge.rw_ta0099_03.prog PySem.Challenge.rw_ta0099_03.footing fun sc n => sc.kind == .module || sc.names.lookup n != some .globalExplicit) = true := by kernel_rfl!
theorem said_law : PySem.Challenge.rw_ta0099_03.wellSaid = true := look_both (look_both (look_both (look_both (look_both (look_both (look_both (look_both (look_both (look_both (look_both (look_both (look_both (look_both (look_both (look_both (look_both (look_both (said_row) (by kernel_rfl!)) (by kernel_rfl!)) (by kernel_rfl!)) (by kernel_rfl!)) (by kernel_rfl!)) said_l1) (by kernel_rfl!)) (by kernel_rfl!)) (by kernel_rfl!)) (by kernel_rfl!)) (by kernel_rfl!)) (by kernel_rfl!)) said_m1) (by kernel_rfl!)) (by kernel_rfl!)) (by kernel_rfl!)) said_l2) said_m2

noncomputable def HL (L : List Obj) (life : Life) : Heap := ⟨L.toArray, life⟩

theorem HL_push (L : List Obj) (life : Life) (o : Obj) : (HL L life).push o = HL (L ++ [o]) life := by
  simp [HL, Heap.push]

theorem HL_size (L : List Obj) (life : Life) : (HL L life).objs.size = L.length := by simp [HL]

theorem HL_upd (L R : List Obj) (o : Obj) (f : Obj → Obj) (life : Life) :
    (HL (L ++ o :: R) life).update L.length f = HL (L ++ f o :: R) life := by
  simp only [HL, Heap.update]
  have e : ∀ L : List Obj, (L ++ o :: R).modify L.length f = L ++ f o :: R := by
    intro L
    induction L with
    | nil => rfl
    | cons a L ih => rw [List.cons_append, List.length_cons, List.modify_succ_cons, ih]; rfl
  rw [List.modify_toArray, e]

theorem HL_get (L R : List Obj) (o : Obj) (life : Life) : (HL (L ++ o :: R) life).get? L.length = alive o := by
  unfold Heap.get? HL
  simp only [List.getElem?_toArray, List.getElem?_append_right (Nat.le_refl _), Nat.sub_self, List.getElem?_cons_zero]
  obtain ⟨c, d, dt, sl⟩ := o
  cases dt <;> rfl

section
variable (p : Program) (w : World) (n₀ : Nat) (ann : Option Value)

noncomputable abbrev TR := topRun treeTable p w n₀ ann


noncomputable def Runs {α : Type} (x : Sem α) (s : Shared) (N : Nat) (a : α) (s' : Shared) : Prop :=
  ∀ (K : α → Sem Fin) (H : Value → Sem Fin) (gd : Bool → Bool) (lv : List Value → List Value) (c : Code) (q : Pos) (f : Frame) (B : List Frame),
    ∃ q' n, n ≤ N ∧ ∀ M r, TR p w n₀ ann M s' ⟨K a, c, q', f :: B⟩ = some r → TR p w n₀ ann (M + n) s ⟨x.wrap K H gd lv, c, q, f :: B⟩ = some r

variable {p w n₀ ann}

theorem TR_step {s s' r : Shared} {t t' : Thread} {M : Nat} (ht : through t = false) (hk : stepOk n₀ ann t = true) (hs : step (denote treeTable) p w s t = .go s' t')
    (h : TR p w n₀ ann M s' t' = some r) : TR p w n₀ ann (M + 1) s t = some r := by
  show topRun treeTable p w n₀ ann (M + 1) s t = some r
  unfold topRun
  rw [ht, hk, hs]
  exact h

variable {α β : Type} {s s' s'' : Shared} {a : α} {b : β}

theorem Runs.pure : Runs p w n₀ ann (pure a : Sem α) s 0 a s := fun K H gd lv c q f B => ⟨q, 0, Nat.le_refl _, fun M r h => h⟩

theorem Runs.bind {x : Sem α} {g : α → Sem β} {N N' : Nat} (h : Runs p w n₀ ann x s N a s') (h' : Runs p w n₀ ann (g a) s' N' b s'') : Runs p w n₀ ann (x >>= g) s (N' + N) b s'' := by
  intro K H gd lv c q f B
  obtain ⟨q1, n1, l1, k1⟩ := h (fun a => (g a).wrap K H gd lv) (fun e => (Sem.raise e : Sem β).wrap K H gd lv) gd lv c q f B
  obtain ⟨q2, n2, l2, k2⟩ := h' K H gd lv c q1 f B
  refine ⟨q2, n2 + n1, Nat.add_le_add l2 l1, fun M r hM => ?_⟩
  rw [Sem.bind_eq_wrap', Sem.wrap_wrap, ← Nat.add_assoc]
  exact k1 _ _ (k2 _ _ hM)

theorem Runs.mono {x : Sem α} {N N' : Nat} (h : Runs p w n₀ ann x s N a s') (l : N ≤ N') : Runs p w n₀ ann x s N' a s' := fun K H gd lv c q f B =>
  let ⟨q', n, l', k⟩ := h K H gd lv c q f B; ⟨q', n, Nat.le_trans l' l, k⟩

theorem Runs.keep {x : Sem α} {N : Nat} {vs : List Value} (h : Runs p w n₀ ann x s N a s') : Runs p w n₀ ann (x.keep vs) s N a s' := by
  intro K H gd lv c q f B
  obtain ⟨q1, n1, l1, k1⟩ := h K H gd (fun l => lv (vs ++ l)) c q f B
  refine ⟨q1, n1, l1, fun M r hM => ?_⟩
  rw [Sem.keep_eq_wrap, Sem.wrap_wrap]
  exact k1 _ _ hM

theorem Runs.holding {x : Sem α} {N : Nat} {vs : List Value} (h : Runs p w n₀ ann x s N a s') : Runs p w n₀ ann (holding vs x) s N a s' := by
  unfold PySem.holding
  split
  · exact h
  · exact h.keep

theorem Runs.onRaise {x : Sem α} {N : Nat} {k : Value → Sem Unit} (h : Runs p w n₀ ann x s N a s') : Runs p w n₀ ann (x.onRaise k) s N a s' := by
  intro K H gd lv c q f B
  obtain ⟨q1, n1, l1, k1⟩ := h K (fun e => ((k e).bind fun _ => (Sem.raise e : Sem α)).wrap K H gd lv) gd lv c q f B
  refine ⟨q1, n1, l1, fun M r hM => ?_⟩
  rw [Sem.onRaise_eq_wrap, Sem.wrap_wrap]
  exact k1 _ _ hM

theorem Runs.rule {t : String} : Runs p w n₀ ann (rule t) s 1 () s := fun K H gd lv c q f B => ⟨q, 1, Nat.le_refl _, fun M r h => TR_step rfl rfl rfl h⟩
theorem Runs.standAt {q' : Pos} : Runs p w n₀ ann (standAt q') s 1 () s := fun K H gd lv c q f B => ⟨q', 1, Nat.le_refl _, fun M r h => TR_step rfl rfl rfl h⟩
theorem Runs.ask : Runs p w n₀ ann ask s 1 ⟨p, w.params⟩ s := fun K H gd lv c q f B => ⟨q, 1, Nat.le_refl _, fun M r h => TR_step rfl rfl rfl h⟩
theorem Runs.fresh : Runs p w n₀ ann fresh s 1 s.toks { s with toks := s.toks + 1 } := fun K H gd lv c q f B => ⟨q, 1, Nat.le_refl _, fun M r h => TR_step rfl rfl rfl h⟩
theorem Runs.alloc {o : Obj} : Runs p w n₀ ann (alloc o) s 1 s.heap.objs.size { s with heap := s.heap.push o } := fun K H gd lv c q f B => ⟨q, 1, Nat.le_refl _, fun M r h => TR_step rfl rfl rfl h⟩
theorem Runs.loadPart {ad : Addr} {part : Option Value} {o : Obj} (ho : s.heap.get? ad = some o) : Runs p w n₀ ann (loadPart ad part) s 1 o s := fun K H gd lv c q f B => ⟨q, 1, Nat.le_refl _, fun M r h => TR_step rfl rfl (by
  obtain ⟨heap, gens, drawn, toks, os⟩ := s
  show step (denote treeTable) p w ⟨heap, gens, drawn, toks, os⟩ ⟨.load ad part _, c, q, f :: B⟩ = _
  simp only [step, ho]; rfl) h⟩
theorem Runs.load {ad : Addr} {o : Obj} (ho : s.heap.get? ad = some o) : Runs p w n₀ ann (load ad) s 1 o s := Runs.loadPart ho
theorem Runs.updatePart {ad : Addr} {part : Option Value} {o : Obj} {g : Obj → Obj} (ho : s.heap.get? ad = some o) (hn : Nat.ble n₀ ad = true) :
    Runs p w n₀ ann (updatePart ad part g) s 1 () { s with heap := s.heap.update ad g } := fun K H gd lv c q f B => ⟨q, 1, Nat.le_refl _, fun M r h => TR_step rfl (by
  show (_ && (Nat.ble n₀ ad || _ || _ || _)) = true
  rw [hn]; rfl) (by
  obtain ⟨heap, gens, drawn, toks, os⟩ := s
  show step (denote treeTable) p w ⟨heap, gens, drawn, toks, os⟩ ⟨.update ad part g _, c, q, f :: B⟩ = _
  have ho' : heap.get? ad = some o := ho
  simp only [step, ho', Option.isSome_some, if_true]; rfl) h⟩

end

noncomputable def hv (i : Int) : Int := if ((if i < 0 then -((i.natAbs % (2 ^ 61 - 1 : Nat) : Nat) : Int) else ((i.natAbs % (2 ^ 61 - 1 : Nat) : Nat) : Int)) == -1) then -2 else (if i < 0 then -((i.natAbs % (2 ^ 61 - 1 : Nat) : Nat) : Int) else ((i.natAbs % (2 ^ 61 - 1 : Nat) : Nat) : Int))

section
variable {p : Program} {n₀ : Nat} {ann : Option Value}
theorem hash_row (b : Bool) (w : World) (i : Int) (t : Tok) (heap : Heap) (gens : Array GenState) (drawn : Drawn) (toks : Nat) (os : OsState)
  (K : Int → Sem Fin) (H : Value → Sem Fin) (gd : Bool → Bool) (lv : List Value → List Value) (c : Code) (q : Pos) (f : Frame) (B : List Frame) (M : Nat) :
   topRun treeTable p (w.withFollow "special-get-raises" b) n₀ ann (M + 5) ⟨heap, gens, drawn, toks, os⟩ ⟨(pyHash (.int i t)).wrap K H gd lv, c, q, f :: B⟩ =
   topRun treeTable p (w.withFollow "special-get-raises" b) n₀ ann M ⟨heap, gens, drawn, toks + 1, os⟩ ⟨(pyHashByItsType.reduced (hv i)).wrap K H gd lv, c, q, f :: B⟩ := by
  cases b
  · kernel_rfl!
  · kernel_rfl!

theorem hv_small {i : Int} (h0 : 0 ≤ i) (h1 : i < 2 ^ 60) : pyHashByItsType.reduced (hv i) = pure i := by
  have e : hv i = i := by
    unfold hv
    have h2 : ¬ i < 0 := by omega
    have h3 : ((i.natAbs % (2 ^ 61 - 1 : Nat) : Nat) : Int) = i := by omega
    simp only [h2, if_false, h3]
    have h4 : (i == -1) = false := by simp; omega
    simp [h4]
  rw [e]
  unfold pyHashByItsType.reduced
  have h5 : (decide (-(2 ^ 63 : Int) ≤ i) && decide (i < 2 ^ 63)) = true := by simp; omega
  have h6 : (i == -1) = false := by simp; omega
  simp [h5, h6]
  omega

variable {w : World} {s : Shared}
theorem runs_hash {i : Int} {t : Tok} (h0 : 0 ≤ i) (h1 : i < 2 ^ 60) : Runs p w n₀ ann (pyHash (.int i t)) s 5 i { s with toks := s.toks + 1 } := by
  refine byRow2 "special-get-raises" (P := fun w => Runs p w n₀ ann (pyHash (.int i t)) s 5 i { s with toks := s.toks + 1 }) (fun w => ?_) (fun w => ?_) w
  all_goals
    intro K H gd lv c q f B
    refine ⟨q, 5, Nat.le_refl _, fun M r h => ?_⟩
    obtain ⟨heap, gens, drawn, toks, os⟩ := s
    refine (hash_row _ w i t heap gens drawn toks os K H gd lv c q f B M).trans ?_
    rw [hv_small h0 h1]
    exact h


theorem runs_find {d : Addr} {i : Int} {t : Tok} {o : Obj} {es : Array DictEntry} {ep : Nat} (ho : s.heap.get? d = some o) (hd : o.data = .dict es ep)
    (hno : ∀ e ∈ es.toList, e.hash ≠ i) : Runs p w n₀ ann (dictFind d (.int i t) i) s 1 none s := by
  have hp : placesWithHash es.size (fun k => es[k]?.map (·.hash)) i = [] := by
    unfold placesWithHash
    rw [List.filter_eq_nil_iff]
    intro k hk
    have hk' : k < es.size := List.mem_range.mp hk
    simp only [beq_iff_eq, Array.getElem?_eq_getElem hk', Option.map_some, Option.some.injEq]
    exact fun e => hno _ (by simp) e
  unfold dictFind
  refine Runs.holding ?_
  refine (Runs.bind (N := 1) (N' := 0) (a := es) (s' := s) ?_ ?_)
  · unfold dictEntries
    refine (Runs.bind (N := 1) (N' := 0) (Runs.loadPart ho) ?_)
    rw [hd]; exact Runs.pure
  · dsimp only
    rw [hp]
    exact Runs.pure
end
noncomputable def dO (es : List DictEntry) (n : Nat) : Obj := { cls := .type "dict", data := .dict es.toArray n }
theorem dO_push (es : List DictEntry) (n : Nat) (e : DictEntry) : Obj.mapDictKeys (·.push e) (dO es n) = dO (es ++ [e]) (n + 1) := by
  simp [Obj.mapDictKeys, dO]
theorem dO_alive (es : List DictEntry) (n : Nat) : alive (dO es n) = some (dO es n) := rfl

section
variable {p : Program} {n₀ : Nat} {ann : Option Value} {w : World} (life : Life) (gens : Array GenState) (drawn : Drawn) (os : OsState)

noncomputable def st (L : List Obj) (toks : Nat) : Shared := ⟨HL L life, gens, drawn, toks, os⟩

variable {life gens drawn os}
theorem st_get (L R : List Obj) (o : Obj) (tk : Nat) : (st life gens drawn os (L ++ o :: R) tk).heap.get? L.length = alive o := HL_get L R o life

theorem runs_forIn {γ β : Type} (f : γ → β → Sem (ForInStep β)) (S : List γ → Shared) (bt : List γ → β) (N : Nat) :
    ∀ (post pre : List γ), (∀ a x b, pre ++ post = a ++ x :: b → Runs p w n₀ ann (f x (bt a)) (S a) N (.yield (bt (a ++ [x]))) (S (a ++ [x]))) →
      Runs p w n₀ ann (forIn post (bt pre) f) (S pre) (post.length * N) (bt (pre ++ post)) (S (pre ++ post))
  | [], pre, _ => by
    rw [List.append_nil]
    exact (Runs.pure (a := bt pre)).mono (Nat.zero_le _)
  | x :: post, pre, h => by
    rw [List.forIn_cons]
    refine (Runs.bind (h pre x post rfl) (N' := post.length * N) ?_).mono (by rw [List.length_cons, Nat.succ_mul]; exact Nat.le_refl _)
    have := runs_forIn f S bt N post (pre ++ [x]) (fun a y b e => h a y b (by rw [← e]; simp))
    simpa using this

theorem runs_updateKeys {d : Addr} {L R : List Obj} {es : List DictEntry} {n tk : Nat} {e : DictEntry} {part : Option Value} (hd : d = L.length) (hn : Nat.ble n₀ d = true) (hz : es.length ≤ 1000000) :
    Runs p w n₀ ann (updateDictKeys d (·.push e) part) (st life gens drawn os (L ++ dO es n :: R) tk) 3 () (st life gens drawn os (L ++ dO (es ++ [e]) (n + 1) :: R) tk) := by
  subst hd
  have g1 := st_get (life := life) (gens := gens) (drawn := drawn) (os := os) L R (dO es n) tk
  have g2 := st_get (life := life) (gens := gens) (drawn := drawn) (os := os) L R (dO (es ++ [e]) (n + 1)) tk
  unfold updateDictKeys
  refine Runs.bind (N := 1) (N' := 2) (Runs.loadPart g1) ?_
  show Runs p w n₀ ann (updatePart L.length part (Obj.mapDictKeys (·.push e)) >>= fun _ => lookBehind L.length part) _ _ _ _
  refine Runs.bind (N := 1) (N' := 1) (Runs.updatePart g1 hn) ?_
  have hu : ({ st life gens drawn os (L ++ dO es n :: R) tk with heap := (st life gens drawn os (L ++ dO es n :: R) tk).heap.update L.length (Obj.mapDictKeys (·.push e)) } : Shared) = st life gens drawn os (L ++ dO (es ++ [e]) (n + 1) :: R) tk := by
    show Shared.mk ((HL (L ++ dO es n :: R) life).update L.length _) gens drawn tk os = _
    rw [HL_upd, dO_push]; rfl
  rw [hu]
  unfold lookBehind
  refine Runs.bind (N := 1) (N' := 0) (Runs.loadPart g2) ?_
  have : (dO (es ++ [e]) (n + 1)).data.pastItsLine = none := pastItsLine_dict (by
    have : sizeLine = 16777216 := rfl
    simp; exact Nat.le_trans (by with_reducible assumption) (by decide))
  simp only [dO] at this ⊢
  rw [this]
  exact Runs.pure

theorem runs_dictPut {d : Addr} {L R : List Obj} {es : List DictEntry} {n tk : Nat} {i : Int} {t : Tok} {v : Value} (hd : d = L.length) (hn : Nat.ble n₀ d = true) (hz : es.length ≤ 1000000)
    (hno : ∀ e ∈ es, e.hash ≠ i) :
    Runs p w n₀ ann (dictPut d i (.int i t) v) (st life gens drawn os (L ++ dO es n :: R) tk) 4 () (st life gens drawn os (L ++ dO (es ++ [⟨i, .int i t, v⟩]) (n + 1) :: R) tk) := by
  have g1 := st_get (life := life) (gens := gens) (drawn := drawn) (os := os) L R (dO es n) tk
  unfold dictPut
  refine Runs.bind (N := 1) (N' := 3) (runs_find (o := dO es n) (es := es.toArray) (ep := n) (by rw [hd]; exact g1) rfl (by simpa using hno)) ?_
  exact runs_updateKeys hd hn hz

theorem runs_dictSet {d : Addr} {L R : List Obj} {es : List DictEntry} {n tk : Nat} {i : Int} {t : Tok} {v : Value} (hd : d = L.length) (hn : Nat.ble n₀ d = true) (hz : es.length ≤ 1000000)
    (hno : ∀ e ∈ es, e.hash ≠ i) (h0 : 0 ≤ i) (h1 : i < 2 ^ 60) :
    Runs p w n₀ ann (dictSet d (.int i t) v) (st life gens drawn os (L ++ dO es n :: R) tk) 10 () (st life gens drawn os (L ++ dO (es ++ [⟨i, .int i t, v⟩]) (n + 1) :: R) (tk + 1)) := by
  have g1 := st_get (life := life) (gens := gens) (drawn := drawn) (os := os) L R (dO es n) (tk + 1)
  unfold dictSet
  refine Runs.holding (Runs.bind (N := 5) (N' := 5) (runs_hash h0 h1) ?_)
  show Runs p w n₀ ann _ (st life gens drawn os (L ++ dO es n :: R) (tk + 1)) _ _ _
  unfold dictSetHashed
  refine Runs.holding (Runs.bind (N := 1) (N' := 4) (runs_find (o := dO es n) (es := es.toArray) (ep := n) (by rw [hd]; exact g1) rfl (by simpa using hno)) ?_)
  exact Runs.bind (N := 1) (N' := 3) Runs.rule (runs_updateKeys hd hn hz)


noncomputable abbrev Item := Int × Str
noncomputable def ents (k : Nat) : List Item → Nat → List DictEntry
  | [], _ => []
  | (i, x) :: r, tk => ⟨i, .int i tk, .str x (tk + 1)⟩ :: ents k r (tk + k)
theorem ents_snoc (k : Nat) : ∀ (l : List Item) (tk : Nat) (i : Int) (x : Str), ents k (l ++ [(i, x)]) tk = ents k l tk ++ [⟨i, .int i (tk + k * l.length), .str x (tk + k * l.length + 1)⟩]
  | [], tk, i, x => by simp [ents]
  | (j, y) :: r, tk, i, x => by
    rw [List.cons_append, ents, ents_snoc k r, ents, List.cons_append, List.length_cons]
    have : tk + k + k * r.length = tk + k * (r.length + 1) := by rw [Nat.mul_succ]; omega
    rw [this]
theorem ents_length (k : Nat) : ∀ (l : List Item) (tk : Nat), (ents k l tk).length = l.length
  | [], _ => rfl
  | (_, _) :: r, tk => by rw [ents, List.length_cons, ents_length k r, List.length_cons]
theorem ents_hash (k : Nat) : ∀ (l : List Item) (tk : Nat), (ents k l tk).map (·.hash) = l.map (·.1)
  | [], _ => rfl
  | (_, _) :: r, tk => by rw [ents, List.map_cons, ents_hash k r, List.map_cons]


noncomputable def okKeysH (ks : List Int) : Prop := ks.Nodup ∧ ∀ k ∈ ks, 0 ≤ k ∧ k < 2 ^ 60


noncomputable def key (i : Int) : Sem Value := mkInt i
noncomputable def val (x : Str) (q : Pos) : Sem Value := do let v ← mkText x; standAt q; pure v
noncomputable def trees (l : List (Item × Pos)) : List (Sem Value × Sem Value) := l.map fun it => (key it.1.1, val it.1.2 it.2)

theorem not_mem_ents {k : Nat} {l : List Item} {tk : Nat} {i : Int} (h : i ∉ l.map (·.1)) : ∀ e ∈ ents k l tk, e.hash ≠ i := by
  intro e he q
  exact h (by rw [← ents_hash k l tk]; exact List.mem_map.mpr ⟨e, he, q⟩)

theorem runs_subDict {l : List (Item × Pos)} {L : List Obj} {tk : Nat} (hk : okKeysH (l.map (·.1.1))) (hl : 15 < l.length) (hz : l.length ≤ 1000000) (hn : Nat.ble n₀ L.length = true) :
    Runs p w n₀ ann (subDict (trees l)) (st life gens drawn os L tk) (l.length * 13 + 2) L.length
      (st life gens drawn os (L ++ [dO (ents 3 (l.map (·.1)) tk) l.length]) (tk + 3 * l.length)) := by
  unfold subDict
  have ha : Runs p w n₀ ann (alloc { cls := Value.type "dict", data := Data.dict #[] }) (st life gens drawn os L tk) 1 L.length (st life gens drawn os (L ++ [dO [] 0]) tk) := by
    have := Runs.alloc (p := p) (w := w) (n₀ := n₀) (ann := ann) (s := st life gens drawn os L tk) (o := dO [] 0)
    have e : (st life gens drawn os L tk).heap.objs.size = L.length := HL_size L life
    rw [e] at this
    have e2 : ({ st life gens drawn os L tk with heap := (st life gens drawn os L tk).heap.push (dO [] 0) } : Shared) = st life gens drawn os (L ++ [dO [] 0]) tk := by
      show Shared.mk ((HL L life).push _) gens drawn tk os = _
      rw [HL_push]; rfl
    rw [e2] at this
    exact this
  refine Runs.bind (N := 1) (N' := l.length * 13 + 1) ha ?_
  refine Runs.mono (N := 0 + (l.length * 13 + 1)) (Runs.bind (N := l.length * 13 + 1) (N' := 0) (a := ()) (Runs.holding ?_) Runs.pure) (by omega)
  have hlen : ¬ (trees l).length ≤ 15 := by simp [trees]; with_reducible assumption
  rw [if_neg hlen]
  refine Runs.bind (N := 1) (N' := l.length * 13) Runs.rule ?_
  have key := runs_forIn (p := p) (w := w) (n₀ := n₀) (ann := ann) (β := PUnit)
    (fun (x : Sem Value × Sem Value) (__s : PUnit) => match x with
            | (k, v) => do
              let kv ← k
              let vv ← holding [kv] v
              holding [kv, vv] (dictSet L.length kv vv)
              pure (ForInStep.yield PUnit.unit))
    (fun done => st life gens drawn os (L ++ [dO (ents 3 ((l.take done.length).map (·.1)) tk) done.length]) (tk + 3 * done.length)) (fun _ => PUnit.unit) 13 (trees l) [] ?_
  · have e1 : ([] ++ trees l).length = l.length := by simp [trees]
    have e2 : (trees l).length = l.length := by simp [trees]
    simp only [List.length_nil, List.take_zero, List.map_nil, e1, e2, List.take_length] at key
    exact Runs.mono (N := 0 + l.length * 13) (Runs.bind (N := l.length * 13) (N' := 0) key Runs.pure) (by omega)
  · intro a x b hab
    rw [List.nil_append] at hab
    have hlt : a.length < l.length := by
      have := congrArg List.length hab
      simp [trees] at this; omega
    have hx : x = (Mine.key l[a.length].1.1, val l[a.length].1.2 l[a.length].2) := by
      have h1 : (trees l)[a.length]? = some x := by rw [hab]; simp
      simp [trees, List.getElem?_map, List.getElem?_eq_getElem hlt] at h1
      exact h1.symm
    have htake : l.take (a.length + 1) = l.take a.length ++ [l[a.length]] := List.take_succ_eq_append_getElem hlt
    subst hx
    dsimp only
    have hmem : l[a.length].1.1 ∉ (l.take a.length).map (·.1.1) := by
      have hnd := hk.1
      have : l.map (·.1.1) = (l.take a.length).map (·.1.1) ++ l[a.length].1.1 :: (l.drop (a.length + 1)).map (·.1.1) := by
        rw [← List.map_cons (f := fun x : Item × Pos => x.1.1), ← List.map_append, ← List.drop_eq_getElem_cons hlt, List.take_append_drop]
      rw [this] at hnd
      exact fun hm => (List.nodup_append.mp hnd).2.2 _ hm _ List.mem_cons_self rfl
    have hrange := hk.2 l[a.length].1.1 (List.mem_map.mpr ⟨l[a.length], List.getElem_mem hlt, rfl⟩)
    refine (Runs.bind (N := 1) (N' := 12) (a := Value.int l[a.length].1.1 (tk + 3 * a.length)) (s' := st life gens drawn os (L ++ [dO (ents 3 ((l.take a.length).map (·.1)) tk) a.length]) (tk + 3 * a.length + 1)) ?_ ?_)
    · exact (Runs.bind (N := 1) (N' := 0) Runs.fresh Runs.pure)
    refine (Runs.bind (N := 2) (N' := 10) (a := Value.str l[a.length].1.2 (tk + 3 * a.length + 1)) (s' := st life gens drawn os (L ++ [dO (ents 3 ((l.take a.length).map (·.1)) tk) a.length]) (tk + 3 * a.length + 2)) (Runs.holding ?_) ?_)
    · refine (Runs.bind (N := 1) (N' := 1) (s' := st life gens drawn os (L ++ [dO (ents 3 ((l.take a.length).map (·.1)) tk) a.length]) (tk + 3 * a.length + 2)) (a := Value.str l[a.length].1.2 (tk + 3 * a.length + 1)) ?_ ?_)
      · exact (Runs.bind (N := 1) (N' := 0) Runs.fresh Runs.pure)
      · exact (Runs.bind (N := 1) (N' := 0) Runs.standAt Runs.pure)
    refine (Runs.bind (N := 10) (N' := 0) (a := ()) (Runs.holding ?_) Runs.pure)
    have := runs_dictSet (p := p) (w := w) (n₀ := n₀) (ann := ann) (life := life) (gens := gens) (drawn := drawn) (os := os) (d := L.length) (L := L) (R := [])
      (es := ents 3 ((l.take a.length).map (·.1)) tk) (n := a.length) (tk := tk + 3 * a.length + 2) (i := l[a.length].1.1) (t := tk + 3 * a.length) (v := .str l[a.length].1.2 (tk + 3 * a.length + 1)) rfl hn
      (by rw [ents_length, List.length_map, List.length_take]; omega) (not_mem_ents (by rw [List.map_map]; exact hmem)) hrange.1 hrange.2
    simp only [List.length_append, List.length_cons, List.length_nil, Nat.zero_add]
    rw [htake, List.map_append, List.map_cons, List.map_nil]
    have hs := ents_snoc 3 ((l.take a.length).map (·.1)) tk l[a.length].1.1 l[a.length].1.2
    have hlen2 : ((l.take a.length).map (·.1)).length = a.length := by rw [List.length_map, List.length_take]; omega
    rw [hlen2] at hs
    rw [show l[a.length].1 = (l[a.length].1.1, l[a.length].1.2) from rfl, hs]
    rw [show tk + 3 * (a.length + 1) = tk + 3 * a.length + 2 + 1 by omega]
    exact this

theorem runs_allocD {L : List Obj} {tk : Nat} : Runs p w n₀ ann (alloc { cls := Value.type "dict", data := Data.dict #[] }) (st life gens drawn os L tk) 1 L.length (st life gens drawn os (L ++ [dO [] 0]) tk) := by
  have := Runs.alloc (p := p) (w := w) (n₀ := n₀) (ann := ann) (s := st life gens drawn os L tk) (o := dO [] 0)
  have e : (st life gens drawn os L tk).heap.objs.size = L.length := HL_size L life
  rw [e] at this
  have e2 : ({ st life gens drawn os L tk with heap := (st life gens drawn os L tk).heap.push (dO [] 0) } : Shared) = st life gens drawn os (L ++ [dO [] 0]) tk := by
    show Shared.mk ((HL L life).push _) gens drawn tk os = _
    rw [HL_push]; rfl
  rw [e2] at this
  exact this

noncomputable def vals : List (Item × Pos) → Nat → List (Value × Value)
  | [], _ => []
  | it :: r, tk => (.int it.1.1 tk, .str it.1.2 (tk + 1)) :: vals r (tk + 2)
theorem vals_at : ∀ (l : List (Item × Pos)) (tk k : Nat) (h : k < l.length), (vals l tk)[k]? = some (.int l[k].1.1 (tk + 2 * k), .str l[k].1.2 (tk + 2 * k + 1))
  | it :: r, tk, 0, h => rfl
  | it :: r, tk, k + 1, h => by
    rw [vals, List.getElem?_cons_succ, vals_at r (tk + 2) k (by simpa using h)]
    simp only [List.getElem_cons_succ]
    rw [show tk + 2 + 2 * k = tk + 2 * (k + 1) by omega]
theorem vals_length : ∀ (l : List (Item × Pos)) (tk : Nat), (vals l tk).length = l.length
  | [], _ => rfl
  | _ :: r, tk => by rw [vals, List.length_cons, vals_length r, List.length_cons]

theorem runs_evalPairs : ∀ (l : List (Item × Pos)) {L : List Obj} {tk : Nat},
    Runs p w n₀ ann (evalPairs (trees l)) (st life gens drawn os L tk) (l.length * 3) (vals l tk) (st life gens drawn os L (tk + 2 * l.length))
  | [], L, tk => Runs.pure
  | it :: r, L, tk => by
    refine Runs.mono (N := (r.length * 3 + 2) + 1) (Runs.bind (N := 1) (N' := r.length * 3 + 2) (a := Value.int it.1.1 tk) (s' := st life gens drawn os L (tk + 1)) ?_ ?_) (by simp; omega)
    · exact (Runs.bind (N := 1) (N' := 0) Runs.fresh Runs.pure)
    refine Runs.bind (N := 2) (N' := r.length * 3) (a := Value.str it.1.2 (tk + 1)) (s' := st life gens drawn os L (tk + 2)) (Runs.holding ?_) ?_
    · refine (Runs.bind (N := 1) (N' := 1) (s' := st life gens drawn os L (tk + 2)) (a := Value.str it.1.2 (tk + 1)) ?_ ?_)
      · exact (Runs.bind (N := 1) (N' := 0) Runs.fresh Runs.pure)
      · exact (Runs.bind (N := 1) (N' := 0) Runs.standAt Runs.pure)
    refine Runs.mono (N := 0 + r.length * 3) (Runs.bind (N := r.length * 3) (N' := 0) (a := vals r (tk + 2)) (Runs.holding (runs_evalPairs r)) ?_) (by omega)
    rw [List.length_cons, show tk + 2 + 2 * r.length = tk + 2 * (r.length + 1) by omega]
    exact Runs.pure

theorem take_facts {l : List (Item × Pos)} (hk : okKeysH (l.map (·.1.1))) {n : Nat} (hlt : n < l.length) :
    l.take (n + 1) = l.take n ++ [l[n]] ∧ l[n].1.1 ∉ (l.take n).map (·.1.1) ∧ 0 ≤ l[n].1.1 ∧ l[n].1.1 < 2 ^ 60 := by
  refine ⟨List.take_succ_eq_append_getElem hlt, ?_, hk.2 l[n].1.1 (List.mem_map.mpr ⟨l[n], List.getElem_mem hlt, rfl⟩)⟩
  have hnd := hk.1
  have : l.map (·.1.1) = (l.take n).map (·.1.1) ++ l[n].1.1 :: (l.drop (n + 1)).map (·.1.1) := by
    rw [← List.map_cons (f := fun x : Item × Pos => x.1.1), ← List.map_append, ← List.drop_eq_getElem_cons hlt, List.take_append_drop]
  rw [this] at hnd
  exact fun hm => (List.nodup_append.mp hnd).2.2 _ hm _ List.mem_cons_self rfl

theorem runs_subDictS {l : List (Item × Pos)} {L : List Obj} {tk : Nat} (hk : okKeysH (l.map (·.1.1))) (hl : l.length ≤ 15) (hn : Nat.ble n₀ L.length = true) :
    Runs p w n₀ ann (subDict (trees l)) (st life gens drawn os L tk) (l.length * 13 + 1) L.length
      (st life gens drawn os (L ++ [dO (ents 2 (l.map (·.1)) tk) l.length]) (tk + 3 * l.length)) := by
  unfold subDict
  refine Runs.bind (N := 1) (N' := l.length * 13) runs_allocD ?_
  refine Runs.mono (N := 0 + (l.length * 10 + l.length * 3)) (Runs.bind (N := l.length * 10 + l.length * 3) (N' := 0) (a := ()) (Runs.holding ?_) Runs.pure) (by omega)
  have hlen : (trees l).length ≤ 15 := by simp [trees]; with_reducible assumption
  rw [if_pos hlen]
  refine Runs.bind (N := l.length * 3) (N' := l.length * 10) (runs_evalPairs l) (Runs.holding ?_)
  have key := runs_forIn (p := p) (w := w) (n₀ := n₀) (ann := ann) (β := PUnit)
    (fun (x : Value × Value) (__s : PUnit) => match x with
            | (k, v) => do
              dictSet L.length k v
              pure (ForInStep.yield PUnit.unit))
    (fun done => st life gens drawn os (L ++ [dO (ents 2 ((l.take done.length).map (·.1)) tk) done.length]) (tk + 2 * l.length + done.length)) (fun _ => PUnit.unit) 10 (vals l tk) [] ?_
  · have e1 : ([] ++ vals l tk).length = l.length := by rw [List.nil_append, vals_length]
    have e2 : (vals l tk).length = l.length := vals_length l tk
    simp only [List.length_nil, List.take_zero, List.map_nil, e1, e2, List.take_length] at key
    rw [show tk + 3 * l.length = tk + 2 * l.length + l.length by omega]
    exact Runs.mono (N := 0 + l.length * 10) (Runs.bind (N := l.length * 10) (N' := 0) key Runs.pure) (by omega)
  · intro a x b hab
    rw [List.nil_append] at hab
    have hlt : a.length < l.length := by
      have := congrArg List.length hab
      rw [vals_length] at this
      simp at this; omega
    have hx : x = (.int l[a.length].1.1 (tk + 2 * a.length), .str l[a.length].1.2 (tk + 2 * a.length + 1)) := by
      have h1 : (vals l tk)[a.length]? = some x := by rw [hab]; simp
      rw [vals_at l tk _ hlt] at h1
      exact (Option.some.inj h1).symm
    obtain ⟨htake, hmem, hrange⟩ := take_facts hk hlt
    subst hx
    dsimp only
    refine (Runs.bind (N := 10) (N' := 0) (a := ()) ?_ Runs.pure)
    have := runs_dictSet (p := p) (w := w) (n₀ := n₀) (ann := ann) (life := life) (gens := gens) (drawn := drawn) (os := os) (d := L.length) (L := L) (R := [])
      (es := ents 2 ((l.take a.length).map (·.1)) tk) (n := a.length) (tk := tk + 2 * l.length + a.length) (i := l[a.length].1.1) (t := tk + 2 * a.length) (v := .str l[a.length].1.2 (tk + 2 * a.length + 1)) rfl hn
      (by rw [ents_length, List.length_map, List.length_take]; omega) (not_mem_ents (by rw [List.map_map]; exact hmem)) hrange.1 hrange.2
    simp only [List.length_append, List.length_cons, List.length_nil, Nat.zero_add]
    rw [htake, List.map_append, List.map_cons, List.map_nil]
    have hs := ents_snoc 2 ((l.take a.length).map (·.1)) tk l[a.length].1.1 l[a.length].1.2
    have hlen2 : ((l.take a.length).map (·.1)).length = a.length := by rw [List.length_map, List.length_take]; omega
    rw [hlen2] at hs
    rw [show l[a.length].1 = (l[a.length].1.1, l[a.length].1.2) from rfl, hs]
    exact this
end
theorem sub_dict : isSubtype (.type "dict") (.type "dict") = pure true := by rw [isSubtype_type]; kernel_rfl
theorem iter_dict : typeLookup (.type "dict") "__iter__" = pure (some (.builtin "dict.__iter__")) := by kernel_rfl!
section
variable {p : Program} {n₀ : Nat} {ann : Option Value} {w : World} {life : Life} {gens : Array GenState} {drawn : Drawn} {os : OsState}

theorem runs_typeOf {s : Shared} {a : Addr} {o : Obj} (h : s.heap.get? a = some o) : Runs p w n₀ ann (typeOf (.ref a)) s 1 o.cls s := by
  show Runs p w n₀ ann (loadPart a (some headPart) >>= fun o => pure o.cls) s 1 o.cls s
  exact Runs.bind (N := 1) (N' := 0) (Runs.loadPart h) Runs.pure
theorem runs_entries {s : Shared} {a : Addr} {es : List DictEntry} {n : Nat} {part : Option Value} (h : s.heap.get? a = some (dO es n)) : Runs p w n₀ ann (dictEntries a part) s 1 es.toArray s := by
  unfold dictEntries
  exact Runs.bind (N := 1) (N' := 0) (Runs.loadPart h) Runs.pure
theorem runs_epoch {s : Shared} {a : Addr} {es : List DictEntry} {n : Nat} {part : Option Value} (h : s.heap.get? a = some (dO es n)) : Runs p w n₀ ann (dictEpoch a part) s 1 n s := by
  unfold dictEpoch
  exact Runs.bind (N := 1) (N' := 0) (Runs.loadPart h) Runs.pure

theorem st_get2 (L R : List Obj) (o x : Obj) (tk : Nat) : (st life gens drawn os (L ++ o :: (R ++ [x])) tk).heap.get? (L.length + 1 + R.length) = alive x := by
  have := st_get (life := life) (gens := gens) (drawn := drawn) (os := os) (L ++ o :: R) [] x tk
  rw [List.length_append, List.length_cons] at this
  rw [show L ++ o :: (R ++ [x]) = L ++ o :: R ++ x :: [] by simp, show L.length + 1 + R.length = L.length + (R.length + 1) by omega]
  exact this


noncomputable def isKeyed (e : DictEntry) : Prop := ∃ t, e.key = .int e.hash t

theorem runs_merge {L R : List Obj} {es sub : List DictEntry} {n m tk : Nat} (hne : es ≠ []) (hk : ∀ e ∈ sub, isKeyed e) (hnd : ((es ++ sub).map (·.hash)).Nodup)
    (hz : es.length + sub.length ≤ 1000000) (hn : Nat.ble n₀ L.length = true) (hs : (L.length + 1 + R.length == sysModules) = false) :
    Runs p w n₀ ann (mergeMapping L.length (.ref (L.length + 1 + R.length)) false) (st life gens drawn os (L ++ dO es n :: (R ++ [dO sub m])) tk) (sub.length * 6 + 5) ()
      (st life gens drawn os (L ++ dO (es ++ sub) (n + sub.length) :: (R ++ [dO sub m])) tk) := by
  have g1 : ∀ es n, (st life gens drawn os (L ++ dO es n :: (R ++ [dO sub m])) tk).heap.get? L.length = some (dO es n) := fun es n => st_get L _ (dO es n) tk
  have g2 : ∀ es n, (st life gens drawn os (L ++ dO es n :: (R ++ [dO sub m])) tk).heap.get? (L.length + 1 + R.length) = some (dO sub m) := fun es n => st_get2 L R (dO es n) (dO sub m) tk
  unfold mergeMapping
  refine Runs.bind (N := 1) (N' := sub.length * 6 + 4) (a := true) (s' := st life gens drawn os (L ++ dO es n :: (R ++ [dO sub m])) tk) ?_ ?_
  · unfold isInstance
    refine Runs.bind (N := 1) (N' := 0) (runs_typeOf (g2 es n)) ?_
    show Runs p w n₀ ann (isSubtype (.type "dict") (.type "dict")) _ _ _ _
    rw [sub_dict]; exact Runs.pure
  dsimp only
  rw [if_pos rfl]
  refine Runs.bind (N := 1) (N' := sub.length * 6 + 3) (a := some (Value.builtin "dict.__iter__")) (s' := st life gens drawn os (L ++ dO es n :: (R ++ [dO sub m])) tk) ?_ ?_
  · unfold specialOf
    refine Runs.bind (N := 1) (N' := 0) (runs_typeOf (g2 es n)) ?_
    show Runs p w n₀ ann (typeLookup (.type "dict") _) _ _ _ _
    rw [iter_dict]; exact Runs.pure
  refine Runs.bind (N := 0) (N' := sub.length * 6 + 3) (a := true) (s' := st life gens drawn os (L ++ dO es n :: (R ++ [dO sub m])) tk) ?_ ?_
  · exact Runs.pure
  dsimp only
  rw [if_neg (by rw [hs]; exact Bool.false_ne_true)]
  refine Runs.bind (N := 1) (N' := sub.length * 6 + 2) (runs_entries (g1 es n)) ?_
  have hemp : es.toArray.isEmpty = false := by cases es with | nil => exact absurd rfl hne | cons a b => rfl
  rw [hemp, if_neg Bool.false_ne_true]
  refine Runs.bind (N := 1) (N' := sub.length * 6 + 1) (runs_entries (g2 es n)) ?_
  refine Runs.bind (N := 1) (N' := sub.length * 6) (runs_epoch (g2 es n)) ?_
  have key := runs_forIn (p := p) (w := w) (n₀ := n₀) (ann := ann) (β := PUnit)
    (fun (i : Nat) (__s : PUnit) => (do
              let __do_lift ← dictEntries (L.length + 1 + R.length)
              match __do_lift[i]? with
                | some e => do
                  holding [e.key, e.val] (dictPut L.length e.hash e.key e.val)
                  let __do_lift ← dictEpoch (L.length + 1 + R.length)
                  if (__do_lift != m) = true then do
                      unsupported "dict.changed-during-merge"
                      pure (ForInStep.yield PUnit.unit)
                    else pure (ForInStep.yield PUnit.unit)
                | x => do
                  unsupported "dict.changed-during-merge"
                  pure (ForInStep.yield PUnit.unit) : Sem (ForInStep PUnit)))
    (fun done => st life gens drawn os (L ++ dO (es ++ sub.take done.length) (n + done.length) :: (R ++ [dO sub m])) tk) (fun _ => PUnit.unit) 6 (List.range sub.length) [] ?_
  · simp only [List.length_nil, List.take_zero, List.append_nil, List.nil_append, List.length_range, List.take_length, Nat.add_zero] at key
    have e : es.toArray.size = es.length := by simp
    have e' : sub.toArray.size = sub.length := by simp
    rw [e']
    exact Runs.mono (N := 0 + sub.length * 6) (Runs.bind (N := sub.length * 6) (N' := 0) key Runs.pure) (by omega)
  · intro a x b hab
    rw [List.nil_append] at hab
    have hlt : a.length < sub.length := by
      have := congrArg List.length hab
      simp at this; omega
    have hx : x = a.length := by
      have h1 : (List.range sub.length)[a.length]? = some x := by rw [hab]; simp
      rw [List.getElem?_range hlt] at h1
      exact (Option.some.inj h1).symm
    subst hx
    refine Runs.bind (N := 1) (N' := 5) (runs_entries (g2 _ _)) ?_
    have hget : sub.toArray[a.length]? = some sub[a.length] := by simp [hlt]
    rw [hget]
    dsimp only
    obtain ⟨t, ht⟩ := hk sub[a.length] (List.getElem_mem hlt)
    refine Runs.bind (N := 4) (N' := 1) (a := ()) (s' := st life gens drawn os (L ++ dO (es ++ sub.take (a.length + 1)) (n + (a.length + 1)) :: (R ++ [dO sub m])) tk) (Runs.holding ?_) ?_
    · have htake : sub.take (a.length + 1) = sub.take a.length ++ [sub[a.length]] := List.take_succ_eq_append_getElem hlt
      have hno : ∀ e ∈ es ++ sub.take a.length, e.hash ≠ sub[a.length].hash := by
        intro e he q
        have hsplit : (es ++ sub) = (es ++ sub.take a.length) ++ sub[a.length] :: sub.drop (a.length + 1) := by
          rw [List.append_assoc, ← List.drop_eq_getElem_cons hlt, List.take_append_drop]
        rw [hsplit, List.map_append, List.map_cons] at hnd
        exact (List.nodup_append.mp hnd).2.2 _ (List.mem_map.mpr ⟨e, he, rfl⟩) _ List.mem_cons_self q
      have := runs_dictPut (p := p) (w := w) (n₀ := n₀) (ann := ann) (life := life) (gens := gens) (drawn := drawn) (os := os) (d := L.length) (L := L) (R := R ++ [dO sub m])
        (es := es ++ sub.take a.length) (n := n + a.length) (tk := tk) (i := sub[a.length].hash) (t := t) (v := sub[a.length].val) rfl hn (by rw [List.length_append, List.length_take]; omega) hno
      rw [htake, ← List.append_assoc]
      have hent : sub[a.length] = ⟨sub[a.length].hash, .int sub[a.length].hash t, sub[a.length].val⟩ := by
        rw [← ht]
      rw [ht]
      have e3 : [sub[a.length]] = [(⟨sub[a.length].hash, .int sub[a.length].hash t, sub[a.length].val⟩ : DictEntry)] := by rw [← hent]
      rw [e3]
      exact this
    · refine Runs.bind (N := 1) (N' := 0) (runs_epoch (g2 _ _)) ?_
      have : (m != m) = false := by simp
      rw [this, if_neg Bool.false_ne_true]
      simp only [List.length_append, List.length_cons, List.length_nil, Nat.zero_add]
      exact Runs.pure
end
noncomputable def flushD (run : List (Sem Value × Sem Value)) (main : Option Addr) : Sem (Option Addr) :=
  if run.isEmpty = true then pure main
  else match main with
    | none => do
      let d ← subDict run
      pure (some d)
    | some d => do
      let sub ← holding [Value.ref d] (subDict run)
      (holding [Value.ref d, Value.ref sub] (mergeMapping d (Value.ref sub) false)).onRaise fun x => do
            let _ ← holding [Value.ref d, x] (runValue (Code.builtin "proto.let_go" { }))
            pure ()
      pure (some d)

noncomputable def dl (l : List (Item × Pos)) : List (Option (Sem Value) × Sem Value) := (trees l).map fun kv => (some kv.1, kv.2)
theorem dl_append (a b : List (Item × Pos)) : dl (a ++ b) = dl a ++ dl b := by simp [dl, trees]

noncomputable abbrev StD := Option Addr × List (Sem Value × Sem Value)
noncomputable def BodyD (body : Option (Sem Value) × Sem Value → StD → Sem (ForInStep StD)) : Prop :=
  ∀ k v main run, body (some k, v) (main, run) = if ((run ++ [(k, v)]).length == 17) = true then (flushD (run ++ [(k, v)]) main >>= fun main => pure (.yield (main, []))) else pure (.yield (main, run ++ [(k, v)]))

theorem display_eq (items : List (Option (Sem Value) × Sem Value)) : ∃ body, BodyD body ∧
    dictDisplay items = (forIn items ((none, []) : StD) body >>= fun s => flushD s.2 s.1 >>= fun r => match r with | some d => pure (Value.ref d) | none => newDict) :=
  ⟨_, fun _ _ _ _ => rfl, rfl⟩

section
variable {p : Program} {n₀ : Nat} {ann : Option Value} {w : World} {life : Life} {gens : Array GenState} {drawn : Drawn} {os : OsState}
variable {body : Option (Sem Value) × Sem Value → StD → Sem (ForInStep StD)}

theorem loop_short (hb : BodyD body) : ∀ (a : List (Item × Pos)) (rest) (main : Option Addr) (run : List (Sem Value × Sem Value)), run.length + a.length < 17 →
    forIn (dl a ++ rest) ((main, run) : StD) body = forIn rest ((main, run ++ trees a) : StD) body
  | [], rest, main, run, _ => by simp [dl, trees]
  | x :: a, rest, main, run, h => by
    rw [List.length_cons] at h
    show forIn ((some (key x.1.1), val x.1.2 x.2) :: (dl a ++ rest)) ((main, run) : StD) body = _
    rw [List.forIn_cons, hb]
    have hl : ((run ++ [(key x.1.1, val x.1.2 x.2)]).length == 17) = false := by simp; omega
    rw [hl, if_neg Bool.false_ne_true]
    show forIn (dl a ++ rest) ((main, run ++ [(key x.1.1, val x.1.2 x.2)]) : StD) body = _
    rw [loop_short hb a rest main _ (by simp; omega)]
    simp [trees]

theorem runs_chunk (hb : BodyD body) {c : List (Item × Pos)} {rest} {main m' : Option Addr} {s s' s'' : Shared} {N N' : Nat} {r : StD} (hc : c.length = 17)
    (h : Runs p w n₀ ann (flushD (trees c) main) s N m' s') (h' : Runs p w n₀ ann (forIn rest ((m', []) : StD) body) s' N' r s'') :
    Runs p w n₀ ann (forIn (dl c ++ rest) ((main, []) : StD) body) s (N' + N) r s'' := by
  obtain ⟨a, x, rfl⟩ : ∃ a x, c = a ++ [x] := ⟨c.dropLast, c.getLast (by intro e; rw [e] at hc; simp at hc), (List.dropLast_concat_getLast _).symm⟩
  have ha : a.length = 16 := by simpa using hc
  rw [dl_append, List.append_assoc, loop_short hb a _ main [] (by simp; exact Nat.lt_of_le_of_lt (Nat.le_of_eq (by with_reducible assumption)) (by decide)), List.nil_append]
  show Runs p w n₀ ann (forIn ((some (key x.1.1), val x.1.2 x.2) :: rest) ((main, trees a) : StD) body) _ _ _ _
  rw [List.forIn_cons, hb]
  have hl : ((trees a ++ [(key x.1.1, val x.1.2 x.2)]).length == 17) = true := by simp [trees, ha]
  rw [if_pos hl]
  have ht : trees a ++ [(key x.1.1, val x.1.2 x.2)] = trees (a ++ [x]) := by simp [trees]
  rw [ht]
  exact Runs.bind (N := N) (N' := N') (a := .yield (m', [])) (s' := s') (Runs.mono (N := 0 + N) (Runs.bind (N := N) (N' := 0) h Runs.pure) (by omega)) h'

theorem ents_app (k : Nat) : ∀ (a b : List Item) (tk : Nat), ents k (a ++ b) tk = ents k a tk ++ ents k b (tk + k * a.length)
  | [], b, tk => by simp [ents]
  | (i, x) :: a, b, tk => by
    rw [List.cons_append, ents, ents_app k a b, ents, List.cons_append, List.length_cons, show tk + k + k * a.length = tk + k * (a.length + 1) by rw [Nat.mul_succ]; omega]

theorem ents_keyed (k : Nat) : ∀ (l : List Item) (tk : Nat), ∀ e ∈ ents k l tk, isKeyed e
  | [], _, e, h => (nomatch h)
  | (i, x) :: r, tk, e, h => by
    rw [ents] at h
    rcases List.mem_cons.mp h with rfl | h
    · exact ⟨tk, rfl⟩
    · exact ents_keyed k r _ e h

noncomputable def its (l : List (Item × Pos)) : List Item := l.map (·.1)
theorem its_app (a b : List (Item × Pos)) : its (a ++ b) = its a ++ its b := by simp [its]
theorem its_len (a : List (Item × Pos)) : (its a).length = a.length := by simp [its]
theorem its_keys (a : List (Item × Pos)) : (its a).map (·.1) = a.map (·.1.1) := by simp [its]


theorem runs_flush {k : Nat} {c : List (Item × Pos)} {L R : List Obj} {es : List DictEntry} {n tk : Nat} (hc : c ≠ []) (hsub : ∀ L' tk', Nat.ble n₀ L'.length = true →
      Runs p w n₀ ann (subDict (trees c)) (st life gens drawn os L' tk') (c.length * 13 + 2) L'.length (st life gens drawn os (L' ++ [dO (ents k (its c) tk') c.length]) (tk' + 3 * c.length)))
    (hne : es ≠ []) (hnd : (es.map (·.hash) ++ c.map (·.1.1)).Nodup) (hz : es.length + c.length ≤ 1000000) (hn : Nat.ble n₀ L.length = true) (hL : 1 ≤ L.length) :
    Runs p w n₀ ann (flushD (trees c) (some L.length)) (st life gens drawn os (L ++ dO es n :: R) tk) (c.length * 19 + 7) (some L.length)
      (st life gens drawn os (L ++ dO (es ++ ents k (its c) tk) (n + c.length) :: (R ++ [dO (ents k (its c) tk) c.length])) (tk + 3 * c.length)) := by
  unfold flushD
  have hemp : (trees c).isEmpty = false := by cases c with | nil => exact absurd rfl hc | cons a b => rfl
  rw [hemp, if_neg Bool.false_ne_true]
  have hlen : (L ++ dO es n :: R).length = L.length + 1 + R.length := by simp; omega
  have hn' : Nat.ble n₀ (L ++ dO es n :: R).length = true := Nat.ble_eq_true_of_le (Nat.le_trans (Nat.le_of_ble_eq_true hn) (by rw [hlen]; omega))
  have h1 := hsub (L ++ dO es n :: R) tk hn'
  rw [hlen] at h1
  dsimp only
  refine Runs.mono (N := (c.length * 6 + 5) + (c.length * 13 + 2)) (Runs.bind (N := c.length * 13 + 2) (N' := c.length * 6 + 5) (Runs.holding h1) ?_) (by omega)
  have h2 := runs_merge (p := p) (w := w) (n₀ := n₀) (ann := ann) (life := life) (gens := gens) (drawn := drawn) (os := os) (L := L) (R := R) (es := es) (sub := ents k (its c) tk) (n := n) (m := c.length) (tk := tk + 3 * c.length)
    hne (ents_keyed k _ _) (by rw [List.map_append, ents_hash, its_keys]; exact hnd) (by rw [ents_length, its_len]; exact hz) hn (by simp [sysModules]; omega)
  rw [ents_length, its_len] at h2
  refine Runs.mono (N := 0 + (c.length * 6 + 5)) (Runs.bind (N := c.length * 6 + 5) (N' := 0) (a := ()) (Runs.onRaise (Runs.holding ?_)) Runs.pure) (by omega)
  rw [List.append_assoc, List.cons_append]
  exact h2

noncomputable def subsOf : List (List (Item × Pos)) → Nat → List Obj
  | [], _ => []
  | c :: r, tk => dO (ents 3 (its c) tk) c.length :: subsOf r (tk + 3 * c.length)

theorem runs_loop (hb : BodyD body) {last : List (Item × Pos)} (hlast : last.length < 17) {L : List Obj} (hn : Nat.ble n₀ L.length = true) (hL : 1 ≤ L.length) :
    ∀ (cs : List (List (Item × Pos))) (es : List DictEntry) (n tk : Nat) (R : List Obj), (∀ c ∈ cs, c.length = 17) → es ≠ [] → (es.map (·.hash) ++ cs.flatten.map (·.1.1)).Nodup → (∀ k ∈ cs.flatten.map (·.1.1), 0 ≤ k ∧ k < 2 ^ 60) →
      es.length + cs.flatten.length ≤ 1000000 →
      Runs p w n₀ ann (forIn (dl (cs.flatten ++ last)) ((some L.length, []) : StD) body) (st life gens drawn os (L ++ dO es n :: R) tk) (cs.length * 330) (some L.length, trees last)
        (st life gens drawn os (L ++ dO (es ++ ents 3 (its cs.flatten) tk) (n + cs.flatten.length) :: (R ++ subsOf cs tk)) (tk + 3 * cs.flatten.length))
  | [], es, n, tk, R, _, _, _, _, _ => by
    have := loop_short hb last [] (some L.length) [] (by simpa using hlast)
    rw [List.append_nil, List.nil_append] at this
    rw [List.flatten_nil, List.nil_append, this]
    simp only [List.forIn_nil, its, List.map_nil, ents, List.append_nil, subsOf, List.length_nil]
    exact Runs.mono (N := 0) Runs.pure (Nat.zero_le _)
  | c :: cs, es, n, tk, R, h17, hne, hnd, hr, hz => by
    rw [List.flatten_cons] at hnd hr hz
    have hc : c.length = 17 := h17 c List.mem_cons_self
    have hok : okKeysH (c.map (·.1.1)) := by
      constructor
      · rw [List.map_append] at hnd
        exact (List.nodup_append.mp (List.nodup_append.mp hnd).2.1).1
      · intro k hk
        exact hr k (by rw [List.map_append]; exact List.mem_append_left _ hk)
    rw [List.flatten_cons, List.append_assoc, dl_append]
    refine Runs.mono (N := cs.length * 330 + (c.length * 19 + 7)) (runs_chunk hb hc (N := c.length * 19 + 7) (N' := cs.length * 330)
      (runs_flush (k := 3) (by intro e; rw [e] at hc; simp at hc) (fun L' tk' hn' => runs_subDict hok (by rw [(by with_reducible assumption : List.length _ = _)]; decide) (Nat.le_trans (Nat.le_of_eq (by with_reducible assumption)) (by decide)) hn') hne ?_ ?_ hn hL) ?_) ?_
    · rw [List.map_append, ← List.append_assoc] at hnd
      exact (List.nodup_append.mp hnd).1
    · rw [List.length_append] at hz; omega
    · have ih := runs_loop hb hlast hn hL cs (es ++ ents 3 (its c) tk) (n + c.length) (tk + 3 * c.length) (R ++ [dO (ents 3 (its c) tk) c.length]) (fun c hc => h17 c (List.mem_cons_of_mem _ hc))
        (by intro e; exact hne (List.append_eq_nil_iff.mp e).1)
        (by rw [List.map_append, ents_hash, its_keys, List.append_assoc, ← List.map_append]; exact hnd)
        (fun k hk => hr k (by rw [List.map_append]; exact List.mem_append_right _ hk))
        (by rw [List.length_append, ents_length, its_len]; rw [List.length_append] at hz; omega)
      rw [its_app, ents_app, its_len, List.length_append]
      simp only [List.append_assoc, List.cons_append, List.nil_append] at ih
      rw [show n + (c.length + cs.flatten.length) = n + c.length + cs.flatten.length by omega, show tk + 3 * (c.length + cs.flatten.length) = tk + 3 * c.length + 3 * cs.flatten.length by omega, subsOf]
      exact ih
    · rw [List.length_cons, hc]; omega

theorem runs_display {c0 last : List (Item × Pos)} {cs : List (List (Item × Pos))} {L : List Obj} {tk : Nat} (h0 : c0.length = 17) (h17 : ∀ c ∈ cs, c.length = 17) (hl1 : last ≠ []) (hl2 : last.length ≤ 15)
    (hok : okKeysH ((c0 ++ cs.flatten ++ last).map (·.1.1))) (hz : (c0 ++ cs.flatten ++ last).length ≤ 1000000) (hn : Nat.ble n₀ L.length = true) (hL : 1 ≤ L.length) :
    Runs p w n₀ ann (dictDisplay (dl (c0 ++ cs.flatten ++ last))) (st life gens drawn os L tk) (cs.length * 330 + 1000) (.ref L.length)
      (st life gens drawn os (L ++ dO (ents 3 (its (c0 ++ cs.flatten)) tk ++ ents 2 (its last) (tk + 3 * (c0 ++ cs.flatten).length)) (c0 ++ cs.flatten ++ last).length ::
        (subsOf cs (tk + 3 * c0.length) ++ [dO (ents 2 (its last) (tk + 3 * (c0 ++ cs.flatten).length)) last.length])) (tk + 3 * (c0 ++ cs.flatten ++ last).length)) := by
  obtain ⟨body, hb, e⟩ := display_eq (dl (c0 ++ cs.flatten ++ last))
  rw [e]
  have hnd := hok.1
  rw [List.map_append, List.map_append] at hnd
  have hin : ∀ (x : List (Item × Pos)), (∀ y ∈ x, y ∈ c0 ++ cs.flatten ++ last) → ∀ k ∈ x.map (·.1.1), 0 ≤ k ∧ k < 2 ^ 60 := fun x hx k hk => by
    obtain ⟨y, hy, rfl⟩ := List.mem_map.mp hk
    exact hok.2 _ (List.mem_map.mpr ⟨y, hx y hy, rfl⟩)
  have ok0 : okKeysH (c0.map (·.1.1)) := ⟨(List.nodup_append.mp (List.nodup_append.mp hnd).1).1, hin c0 (fun y hy => by simp [hy])⟩
  have okl : okKeysH (last.map (·.1.1)) := ⟨(List.nodup_append.mp hnd).2.1, hin last (fun y hy => by simp [hy])⟩
  have hzz := hz
  rw [List.length_append, List.length_append] at hzz
  refine Runs.mono (N := (last.length * 19 + 7) + (cs.length * 330 + (c0.length * 13 + 2))) (Runs.bind (N := cs.length * 330 + (c0.length * 13 + 2)) (N' := last.length * 19 + 7) (a := (some L.length, trees last))
    (s' := st life gens drawn os (L ++ dO (ents 3 (its (c0 ++ cs.flatten)) tk) (c0 ++ cs.flatten).length :: subsOf cs (tk + 3 * c0.length)) (tk + 3 * (c0 ++ cs.flatten).length)) ?_ ?_) (by omega)
  · rw [List.append_assoc, dl_append]
    refine runs_chunk hb h0 (N := c0.length * 13 + 2) (N' := cs.length * 330) (m' := some L.length) (s' := st life gens drawn os (L ++ [dO (ents 3 (its c0) tk) c0.length]) (tk + 3 * c0.length)) ?_ ?_
    · unfold flushD
      have hemp : (trees c0).isEmpty = false := by cases c0 with | nil => simp at h0 | cons a b => rfl
      rw [hemp, if_neg Bool.false_ne_true]
      exact Runs.mono (N := 0 + (c0.length * 13 + 2)) (Runs.bind (N := c0.length * 13 + 2) (N' := 0) (runs_subDict ok0 (by rw [(by with_reducible assumption : List.length _ = _)]; decide) (Nat.le_trans (Nat.le_of_eq (by with_reducible assumption)) (by decide)) hn) Runs.pure) (by rw [(by with_reducible assumption : List.length _ = _)]; decide)
    · have := runs_loop (p := p) (w := w) (ann := ann) (life := life) (gens := gens) (drawn := drawn) (os := os) hb (last := last) (Nat.lt_of_le_of_lt (by with_reducible assumption) (by decide)) hn hL cs (ents 3 (its c0) tk) c0.length (tk + 3 * c0.length) [] h17
        (by intro e; have := congrArg List.length e; rw [ents_length, its_len, List.length_nil] at this; omega)
        (by rw [ents_hash, its_keys]; exact (List.nodup_append.mp hnd).1)
        (hin _ (fun y hy => by simp only [List.mem_append]; exact .inl (.inr hy))) (by rw [ents_length, its_len]; omega)
      rw [its_app, ents_app, its_len, List.length_append, show tk + 3 * (c0.length + cs.flatten.length) = tk + 3 * c0.length + 3 * cs.flatten.length by omega]
      exact this
  · dsimp only
    have hf := runs_flush (p := p) (w := w) (ann := ann) (life := life) (gens := gens) (drawn := drawn) (os := os) (k := 2) (c := last) (L := L) (R := subsOf cs (tk + 3 * c0.length)) (es := ents 3 (its (c0 ++ cs.flatten)) tk)
      (n := (c0 ++ cs.flatten).length) (tk := tk + 3 * (c0 ++ cs.flatten).length) hl1 (fun L' tk' hn' => Runs.mono (runs_subDictS okl hl2 hn') (by omega))
      (by intro e; have := congrArg List.length e; rw [ents_length, its_len, List.length_nil, List.length_append] at this; omega)
      (by rw [ents_hash, its_keys, List.map_append]; exact hnd) (by rw [ents_length, its_len, List.length_append]; with_reducible assumption) hn hL
    refine Runs.mono (N := 0 + (last.length * 19 + 7)) (Runs.bind (N := last.length * 19 + 7) (N' := 0) hf ?_) (by omega)
    have hle : (c0 ++ cs.flatten ++ last).length = (c0 ++ cs.flatten).length + last.length := List.length_append
    rw [hle, show tk + 3 * ((c0 ++ cs.flatten).length + last.length) = tk + 3 * (c0 ++ cs.flatten).length + 3 * last.length by omega]
    exact Runs.pure
end
noncomputable section
noncomputable abbrev pw : Program := PySem.Challenge.pw_ta0099_03
noncomputable def bd : List Stmt := behindTheImports pw
noncomputable def stm (k : Nat) : Stmt := bd.getD k (.Pass default)
noncomputable def fArgs : Stmt → Arguments
  | .FunctionDef _ a _ _ _ _ _ _ _ _ => a
  | _ => default
noncomputable def fBody : Stmt → List Stmt
  | .FunctionDef _ _ b _ _ _ _ _ _ _ => b
  | _ => []
noncomputable def fScope : Stmt → Scope
  | .FunctionDef _ _ _ _ _ _ s _ _ _ => s
  | _ => default
noncomputable def zipItems (q : Pos) : List (Option PySem.Expr) → List PySem.Expr → List (Item × Pos)
  | some (.Constant (.int i) _ _) :: ks, .Constant (.str x) _ _ :: vs => ((i, x), q) :: zipItems q ks vs
  | _, _ => []
noncomputable def dispItems : Stmt → List (Item × Pos)
  | .Assign _ (.Dict ks vs q) _ => zipItems q ks vs
  | _ => []
noncomputable def chunks17 : Nat → List (Item × Pos) → List (List (Item × Pos))
  | 0, _ => []
  | n + 1, l => l.take 17 :: chunks17 n (l.drop 17)
noncomputable def itemsB : List (Item × Pos) := dispItems (stm 15)
noncomputable def c0B : List (Item × Pos) := itemsB.take 17
noncomputable def csB : List (List (Item × Pos)) := chunks17 37 (itemsB.drop 17)
noncomputable def lastB : List (Item × Pos) := itemsB.drop 646
noncomputable def mainO : Obj := dO (ents 3 (its (c0B ++ csB.flatten)) 380 ++ ents 2 (its lastB) (380 + 3 * (c0B ++ csB.flatten).length)) (c0B ++ csB.flatten ++ lastB).length
noncomputable def subsO : List Obj := subsOf csB (380 + 3 * c0B.length) ++ [dO (ents 2 (its lastB) (380 + 3 * (c0B ++ csB.flatten).length)) lastB.length]
noncomputable def mainD (_ : Params) : Obj := mainO
noncomputable def subD (k : Nat) (_ : Params) : Obj := subsO.getD k default
noncomputable def life0 : Life := {}
noncomputable def drawn0 : Drawn := {}
noncomputable abbrev AN : Option Value := some (.ref 6)
noncomputable def benv : Env := { scope := pw.main.scope, locals := mainNs, globals := mainNs, cells := [], code := (.ref 13), frame := some 14 }
noncomputable def fq : Pos := ⟨0, 0, 0, 0⟩
noncomputable def ppos : Pos := ⟨0, 0, 0, 0⟩
noncomputable def bpos : Pos := ⟨0, 0, 0, 0⟩
noncomputable def oA_11 (P : Params) : Obj := ⟨(.type "tuple"), none, (.seq #[] 0), #[]⟩
noncomputable def oA_12 (P : Params) : Obj := ⟨.none, none, (.fields #[]), #[]⟩
noncomputable def oA_13 (P : Params) : Obj := ⟨(.type "code"), none, (.fields #[(.str (Str.ofString "<module>") 182), (.str (Str.ofString "<module>") 183), (.str (Str.ofString "/claim/cut.py") 184), (.int (1) 0), (.int (0) 0), (.int (0) 0), (.int (0) 0), (.int (0) 0), (.ref 11), (.bool false), (.int (181) 0), (.ref 12), .none, .none, .none, .none, (.int (185) 0), (.int (1) 0), (.str (Str.ofString "/claim/cut.py") 186)]), #[]⟩
noncomputable def oA_14 (P : Params) : Obj := ⟨(.type "frame"), none, .plain, #[some (.ref 13), some (.ref 3), some (.ref 3), none, some (.str (Str.ofString "__main__") 164), none, some (.ref 0)]⟩
noncomputable def TA (P : Params) : BT := (.node (PySem.W.boot_o_0 P) (.node (PySem.W.boot_o_1 P) (.node (PySem.W.boot_o_3 P) (.node (PySem.W.boot_o_7 P) .nil .nil) (.node (oA_11 P) .nil .nil)) (.node (PySem.W.boot_o_5 P) (.node (PySem.W.boot_o_9 P) .nil .nil) (.node (oA_13 P) .nil .nil))) (.node (PySem.W.boot_o_2 P) (.node (PySem.W.boot_o_4 P) (.node (PySem.W.boot_o_8 P) .nil .nil) (.node (oA_12 P) .nil .nil)) (.node (PySem.W.boot_o_6 P) (.node (PySem.W.boot_o_10 P) .nil .nil) (.node (oA_14 P) .nil .nil))))
noncomputable def SA (w : World) (os : OsState) : SharedT := ⟨TA w.params, 15, life0, #[], drawn0, 187, os⟩
noncomputable def oB_3 (P : Params) : Obj := ⟨(.type "dict"), none, (.dict #[⟨PyData.keyHash P (Str.ofString "__name__"), (.str (Str.ofString "__name__") 165), (.str (Str.ofString "cpy313.dis") 259)⟩, ⟨PyData.keyHash P (Str.ofString "__doc__"), (.str (Str.ofString "__doc__") 166), .none⟩, ⟨PyData.keyHash P (Str.ofString "__package__"), (.str (Str.ofString "__package__") 167), .none⟩, ⟨PyData.keyHash P (Str.ofString "__loader__"), (.str (Str.ofString "__loader__") 168), (.builtin "__main__.__loader__#opaque")⟩, ⟨PyData.keyHash P (Str.ofString "__spec__"), (.str (Str.ofString "__spec__") 169), .none⟩, ⟨PyData.keyHash P (Str.ofString "__annotations__"), (.str (Str.ofString "__annotations__") 170), (.ref 6)⟩, ⟨PyData.keyHash P (Str.ofString "__builtins__"), (.str (Str.ofString "__builtins__") 171), (.ref 4)⟩, ⟨PyData.keyHash P (Str.ofString "__file__"), (.str (Str.ofString "__file__") 173), (.str (Str.ofString "/claim/cut.py") 172)⟩, ⟨PyData.keyHash P (Str.ofString "__cached__"), (.str (Str.ofString "__cached__") 174), .none⟩, ⟨PyData.keyHash P (Str.ofString "ELLIPSIS_MARKER"), (.str (Str.ofString "ELLIPSIS_MARKER") 190), (.str (Str.ofString "...") 189)⟩, ⟨PyData.keyHash P (Str.ofString "_ellipsis_match"), (.str (Str.ofString "_ellipsis_match") 202), (.ref 21)⟩, ⟨PyData.keyHash P (Str.ofString "insort_right"), (.str (Str.ofString "insort_right") 217), (.ref 30)⟩, ⟨PyData.keyHash P (Str.ofString "bisect_right"), (.str (Str.ofString "bisect_right") 231), (.ref 39)⟩, ⟨PyData.keyHash P (Str.ofString "insort_left"), (.str (Str.ofString "insort_left") 244), (.ref 48)⟩, ⟨PyData.keyHash P (Str.ofString "bisect_left"), (.str (Str.ofString "bisect_left") 258), (.ref 57)⟩] 15), #[]⟩
noncomputable def oB_12 (P : Params) : Obj := ⟨.none, none, (.fields #[(.int (3) 0), (.int (0) 0), (.ref 20), (.int (32) 0), (.int (0) 0), (.ref 29), (.int (38) 0), (.int (0) 0), (.ref 38), (.int (58) 0), (.int (0) 0), (.ref 47), (.int (64) 0), (.int (0) 0), (.ref 56)]), #[]⟩
noncomputable def oB_15 (P : Params) : Obj := ⟨(.type "tuple"), none, (.seq #[] 0), #[]⟩
noncomputable def oB_16 (P : Params) : Obj := ⟨.none, none, (.fields #[]), #[]⟩
noncomputable def oB_17 (P : Params) : Obj := ⟨(.type "tuple"), none, (.seq #[(.str (Str.ofString "want") 194), (.str (Str.ofString "got") 195), (.str (Str.ofString "ws") 196), (.str (Str.ofString "startpos") 197), (.str (Str.ofString "endpos") 198), (.str (Str.ofString "w") 199)] 0), #[]⟩
noncomputable def oB_18 (P : Params) : Obj := ⟨(.type "tuple"), none, (.seq #[] 0), #[]⟩
noncomputable def oB_19 (P : Params) : Obj := ⟨.none, none, (.func ⟨Str.ofString "_ellipsis_match", Str.ofString "_ellipsis_match", fArgs (stm 2), .stmts (fBody (stm 2)), fScope (stm 2), 0, [], .none, .none, .none, .none, none, .none, .none, 0⟩), #[]⟩
noncomputable def oB_20 (P : Params) : Obj := ⟨(.type "code"), none, (.fields #[(.str (Str.ofString "_ellipsis_match") 191), (.str (Str.ofString "_ellipsis_match") 192), (.str (Str.ofString "/claim/cut.py") 193), (.int (3) 0), (.int (2) 0), (.int (0) 0), (.int (0) 0), (.int (3) 0), (.ref 15), (.bool true), (.int (181) 0), (.ref 16), .none, (.ref 17), (.ref 18), (.ref 19), (.int (200) 0), (.int (3) 0), (.str (Str.ofString "/claim/cut.py") 201)]), #[]⟩
noncomputable def oB_21 (P : Params) : Obj := ⟨(.type "function"), none, (.func ⟨Str.ofString "_ellipsis_match", Str.ofString "_ellipsis_match", fArgs (stm 2), .stmts (fBody (stm 2)), fScope (stm 2), 3, [], .none, .none, .none, (.str (Str.ofString "cpy313.doctest") 187), none, (.ref 20), .none, 0⟩), #[]⟩
noncomputable def oB_22 (P : Params) : Obj := ⟨(.type "tuple"), none, (.seq #[(.int (0) 205), .none] 0), #[]⟩
noncomputable def oB_23 (P : Params) : Obj := ⟨(.type "dict"), none, (.dict #[⟨PyData.keyHash P (Str.ofString "key"), (.str (Str.ofString "key") 206), .none⟩] 1), #[]⟩
noncomputable def oB_24 (P : Params) : Obj := ⟨(.type "tuple"), none, (.seq #[] 0), #[]⟩
noncomputable def oB_25 (P : Params) : Obj := ⟨.none, none, (.fields #[]), #[]⟩
noncomputable def oB_26 (P : Params) : Obj := ⟨(.type "tuple"), none, (.seq #[(.str (Str.ofString "a") 210), (.str (Str.ofString "x") 211), (.str (Str.ofString "lo") 212), (.str (Str.ofString "hi") 213), (.str (Str.ofString "key") 214)] 0), #[]⟩
noncomputable def oB_27 (P : Params) : Obj := ⟨(.type "tuple"), none, (.seq #[] 0), #[]⟩
noncomputable def oB_28 (P : Params) : Obj := ⟨.none, none, (.func ⟨Str.ofString "insort_right", Str.ofString "insort_right", fArgs (stm 4), .stmts (fBody (stm 4)), fScope (stm 4), 0, [], .none, .none, .none, .none, none, .none, .none, 0⟩), #[]⟩
noncomputable def oB_29 (P : Params) : Obj := ⟨(.type "code"), none, (.fields #[(.str (Str.ofString "insort_right") 207), (.str (Str.ofString "insort_right") 208), (.str (Str.ofString "/claim/cut.py") 209), (.int (32) 0), (.int (4) 0), (.int (0) 0), (.int (1) 0), (.int (3) 0), (.ref 24), (.bool true), (.int (181) 0), (.ref 25), .none, (.ref 26), (.ref 27), (.ref 28), (.int (215) 0), (.int (32) 0), (.str (Str.ofString "/claim/cut.py") 216)]), #[]⟩
noncomputable def oB_30 (P : Params) : Obj := ⟨(.type "function"), none, (.func ⟨Str.ofString "insort_right", Str.ofString "insort_right", fArgs (stm 4), .stmts (fBody (stm 4)), fScope (stm 4), 3, [], (.ref 22), (.ref 23), .none, (.str (Str.ofString "cpy313.bisect") 203), none, (.ref 29), .none, 0⟩), #[]⟩
noncomputable def oB_31 (P : Params) : Obj := ⟨(.type "tuple"), none, (.seq #[(.int (0) 218), .none] 0), #[]⟩
noncomputable def oB_32 (P : Params) : Obj := ⟨(.type "dict"), none, (.dict #[⟨PyData.keyHash P (Str.ofString "key"), (.str (Str.ofString "key") 219), .none⟩] 1), #[]⟩
noncomputable def oB_33 (P : Params) : Obj := ⟨(.type "tuple"), none, (.seq #[] 0), #[]⟩
noncomputable def oB_34 (P : Params) : Obj := ⟨.none, none, (.fields #[]), #[]⟩
noncomputable def oB_35 (P : Params) : Obj := ⟨(.type "tuple"), none, (.seq #[(.str (Str.ofString "a") 223), (.str (Str.ofString "x") 224), (.str (Str.ofString "lo") 225), (.str (Str.ofString "hi") 226), (.str (Str.ofString "key") 227), (.str (Str.ofString "mid") 228)] 0), #[]⟩
noncomputable def oB_36 (P : Params) : Obj := ⟨(.type "tuple"), none, (.seq #[] 0), #[]⟩
noncomputable def oB_37 (P : Params) : Obj := ⟨.none, none, (.func ⟨Str.ofString "bisect_right", Str.ofString "bisect_right", fArgs (stm 5), .stmts (fBody (stm 5)), fScope (stm 5), 0, [], .none, .none, .none, .none, none, .none, .none, 0⟩), #[]⟩
noncomputable def oB_38 (P : Params) : Obj := ⟨(.type "code"), none, (.fields #[(.str (Str.ofString "bisect_right") 220), (.str (Str.ofString "bisect_right") 221), (.str (Str.ofString "/claim/cut.py") 222), (.int (38) 0), (.int (4) 0), (.int (0) 0), (.int (1) 0), (.int (3) 0), (.ref 33), (.bool true), (.int (181) 0), (.ref 34), .none, (.ref 35), (.ref 36), (.ref 37), (.int (229) 0), (.int (38) 0), (.str (Str.ofString "/claim/cut.py") 230)]), #[]⟩
noncomputable def oB_39 (P : Params) : Obj := ⟨(.type "function"), none, (.func ⟨Str.ofString "bisect_right", Str.ofString "bisect_right", fArgs (stm 5), .stmts (fBody (stm 5)), fScope (stm 5), 3, [], (.ref 31), (.ref 32), .none, (.str (Str.ofString "cpy313.bisect") 203), none, (.ref 38), .none, 0⟩), #[]⟩
noncomputable def oB_40 (P : Params) : Obj := ⟨(.type "tuple"), none, (.seq #[(.int (0) 232), .none] 0), #[]⟩
noncomputable def oB_41 (P : Params) : Obj := ⟨(.type "dict"), none, (.dict #[⟨PyData.keyHash P (Str.ofString "key"), (.str (Str.ofString "key") 233), .none⟩] 1), #[]⟩
noncomputable def oB_42 (P : Params) : Obj := ⟨(.type "tuple"), none, (.seq #[] 0), #[]⟩
noncomputable def oB_43 (P : Params) : Obj := ⟨.none, none, (.fields #[]), #[]⟩
noncomputable def oB_44 (P : Params) : Obj := ⟨(.type "tuple"), none, (.seq #[(.str (Str.ofString "a") 237), (.str (Str.ofString "x") 238), (.str (Str.ofString "lo") 239), (.str (Str.ofString "hi") 240), (.str (Str.ofString "key") 241)] 0), #[]⟩
noncomputable def oB_45 (P : Params) : Obj := ⟨(.type "tuple"), none, (.seq #[] 0), #[]⟩
noncomputable def oB_46 (P : Params) : Obj := ⟨.none, none, (.func ⟨Str.ofString "insort_left", Str.ofString "insort_left", fArgs (stm 6), .stmts (fBody (stm 6)), fScope (stm 6), 0, [], .none, .none, .none, .none, none, .none, .none, 0⟩), #[]⟩
noncomputable def oB_47 (P : Params) : Obj := ⟨(.type "code"), none, (.fields #[(.str (Str.ofString "insort_left") 234), (.str (Str.ofString "insort_left") 235), (.str (Str.ofString "/claim/cut.py") 236), (.int (58) 0), (.int (4) 0), (.int (0) 0), (.int (1) 0), (.int (3) 0), (.ref 42), (.bool true), (.int (181) 0), (.ref 43), .none, (.ref 44), (.ref 45), (.ref 46), (.int (242) 0), (.int (58) 0), (.str (Str.ofString "/claim/cut.py") 243)]), #[]⟩
noncomputable def oB_48 (P : Params) : Obj := ⟨(.type "function"), none, (.func ⟨Str.ofString "insort_left", Str.ofString "insort_left", fArgs (stm 6), .stmts (fBody (stm 6)), fScope (stm 6), 3, [], (.ref 40), (.ref 41), .none, (.str (Str.ofString "cpy313.bisect") 203), none, (.ref 47), .none, 0⟩), #[]⟩
noncomputable def oB_49 (P : Params) : Obj := ⟨(.type "tuple"), none, (.seq #[(.int (0) 245), .none] 0), #[]⟩
noncomputable def oB_50 (P : Params) : Obj := ⟨(.type "dict"), none, (.dict #[⟨PyData.keyHash P (Str.ofString "key"), (.str (Str.ofString "key") 246), .none⟩] 1), #[]⟩
noncomputable def oB_51 (P : Params) : Obj := ⟨(.type "tuple"), none, (.seq #[] 0), #[]⟩
noncomputable def oB_52 (P : Params) : Obj := ⟨.none, none, (.fields #[]), #[]⟩
noncomputable def oB_53 (P : Params) : Obj := ⟨(.type "tuple"), none, (.seq #[(.str (Str.ofString "a") 250), (.str (Str.ofString "x") 251), (.str (Str.ofString "lo") 252), (.str (Str.ofString "hi") 253), (.str (Str.ofString "key") 254), (.str (Str.ofString "mid") 255)] 0), #[]⟩
noncomputable def oB_54 (P : Params) : Obj := ⟨(.type "tuple"), none, (.seq #[] 0), #[]⟩
noncomputable def oB_55 (P : Params) : Obj := ⟨.none, none, (.func ⟨Str.ofString "bisect_left", Str.ofString "bisect_left", fArgs (stm 7), .stmts (fBody (stm 7)), fScope (stm 7), 0, [], .none, .none, .none, .none, none, .none, .none, 0⟩), #[]⟩
noncomputable def oB_56 (P : Params) : Obj := ⟨(.type "code"), none, (.fields #[(.str (Str.ofString "bisect_left") 247), (.str (Str.ofString "bisect_left") 248), (.str (Str.ofString "/claim/cut.py") 249), (.int (64) 0), (.int (4) 0), (.int (0) 0), (.int (1) 0), (.int (3) 0), (.ref 51), (.bool true), (.int (181) 0), (.ref 52), .none, (.ref 53), (.ref 54), (.ref 55), (.int (256) 0), (.int (64) 0), (.str (Str.ofString "/claim/cut.py") 257)]), #[]⟩
noncomputable def oB_57 (P : Params) : Obj := ⟨(.type "function"), none, (.func ⟨Str.ofString "bisect_left", Str.ofString "bisect_left", fArgs (stm 7), .stmts (fBody (stm 7)), fScope (stm 7), 3, [], (.ref 49), (.ref 50), .none, (.str (Str.ofString "cpy313.bisect") 203), none, (.ref 56), .none, 0⟩), #[]⟩
noncomputable def TB (P : Params) : BT := (.node (PySem.W.boot_o_0 P) (.node (PySem.W.boot_o_1 P) (.node (oB_3 P) (.node (PySem.W.boot_o_7 P) (.node (oB_15 P) (.node (oB_31 P) .nil .nil) (.node (oB_47 P) .nil .nil)) (.node (oB_23 P) (.node (oB_39 P) .nil .nil) (.node (oB_55 P) .nil .nil))) (.node (oA_11 P) (.node (oB_19 P) (.node (oB_35 P) .nil .nil) (.node (oB_51 P) .nil .nil)) (.node (oB_27 P) (.node (oB_43 P) .nil .nil) .nil))) (.node (PySem.W.boot_o_5 P) (.node (PySem.W.boot_o_9 P) (.node (oB_17 P) (.node (oB_33 P) .nil .nil) (.node (oB_49 P) .nil .nil)) (.node (oB_25 P) (.node (oB_41 P) .nil .nil) (.node (oB_57 P) .nil .nil))) (.node (oA_13 P) (.node (oB_21 P) (.node (oB_37 P) .nil .nil) (.node (oB_53 P) .nil .nil)) (.node (oB_29 P) (.node (oB_45 P) .nil .nil) .nil)))) (.node (PySem.W.boot_o_2 P) (.node (PySem.W.boot_o_4 P) (.node (PySem.W.boot_o_8 P) (.node (oB_16 P) (.node (oB_32 P) .nil .nil) (.node (oB_48 P) .nil .nil)) (.node (oB_24 P) (.node (oB_40 P) .nil .nil) (.node (oB_56 P) .nil .nil))) (.node (oB_12 P) (.node (oB_20 P) (.node (oB_36 P) .nil .nil) (.node (oB_52 P) .nil .nil)) (.node (oB_28 P) (.node (oB_44 P) .nil .nil) .nil))) (.node (PySem.W.boot_o_6 P) (.node (PySem.W.boot_o_10 P) (.node (oB_18 P) (.node (oB_34 P) .nil .nil) (.node (oB_50 P) .nil .nil)) (.node (oB_26 P) (.node (oB_42 P) .nil .nil) .nil)) (.node (oA_14 P) (.node (oB_22 P) (.node (oB_38 P) .nil .nil) (.node (oB_54 P) .nil .nil)) (.node (oB_30 P) (.node (oB_46 P) .nil .nil) .nil)))))
noncomputable def SB (w : World) (os : OsState) : SharedT := ⟨TB w.params, 58, life0, #[], drawn0, 261, os⟩
noncomputable def qB : Pos := ⟨84, 0, 84, 8⟩
noncomputable def oC_3 (P : Params) : Obj := ⟨(.type "dict"), none, (.dict #[⟨PyData.keyHash P (Str.ofString "__name__"), (.str (Str.ofString "__name__") 165), (.str (Str.ofString "cpy313.stringprep") 311)⟩, ⟨PyData.keyHash P (Str.ofString "__doc__"), (.str (Str.ofString "__doc__") 166), .none⟩, ⟨PyData.keyHash P (Str.ofString "__package__"), (.str (Str.ofString "__package__") 167), .none⟩, ⟨PyData.keyHash P (Str.ofString "__loader__"), (.str (Str.ofString "__loader__") 168), (.builtin "__main__.__loader__#opaque")⟩, ⟨PyData.keyHash P (Str.ofString "__spec__"), (.str (Str.ofString "__spec__") 169), .none⟩, ⟨PyData.keyHash P (Str.ofString "__annotations__"), (.str (Str.ofString "__annotations__") 170), (.ref 6)⟩, ⟨PyData.keyHash P (Str.ofString "__builtins__"), (.str (Str.ofString "__builtins__") 171), (.ref 4)⟩, ⟨PyData.keyHash P (Str.ofString "__file__"), (.str (Str.ofString "__file__") 173), (.str (Str.ofString "/claim/cut.py") 172)⟩, ⟨PyData.keyHash P (Str.ofString "__cached__"), (.str (Str.ofString "__cached__") 174), .none⟩, ⟨PyData.keyHash P (Str.ofString "ELLIPSIS_MARKER"), (.str (Str.ofString "ELLIPSIS_MARKER") 190), (.str (Str.ofString "...") 189)⟩, ⟨PyData.keyHash P (Str.ofString "_ellipsis_match"), (.str (Str.ofString "_ellipsis_match") 202), (.ref 21)⟩, ⟨PyData.keyHash P (Str.ofString "insort_right"), (.str (Str.ofString "insort_right") 217), (.ref 30)⟩, ⟨PyData.keyHash P (Str.ofString "bisect_right"), (.str (Str.ofString "bisect_right") 231), (.ref 39)⟩, ⟨PyData.keyHash P (Str.ofString "insort_left"), (.str (Str.ofString "insort_left") 244), (.ref 48)⟩, ⟨PyData.keyHash P (Str.ofString "bisect_left"), (.str (Str.ofString "bisect_left") 258), (.ref 57)⟩, ⟨PyData.keyHash P (Str.ofString "COMPILER_FLAG_NAMES"), (.str (Str.ofString "COMPILER_FLAG_NAMES") 291), (.ref 58)⟩, ⟨PyData.keyHash P (Str.ofString "pretty_flags"), (.str (Str.ofString "pretty_flags") 301), (.ref 65)⟩, ⟨PyData.keyHash P (Str.ofString "_parse_varint"), (.str (Str.ofString "_parse_varint") 310), (.ref 72)⟩, ⟨PyData.keyHash P (Str.ofString "b1_set"), (.str (Str.ofString "b1_set") 372), (.ref 80)⟩, ⟨PyData.keyHash P (Str.ofString "in_table_b1"), (.str (Str.ofString "in_table_b1") 379), (.ref 90)⟩] 20), #[]⟩
noncomputable def oC_12 (P : Params) : Obj := ⟨.none, none, (.fields #[(.int (3) 0), (.int (0) 0), (.ref 20), (.int (32) 0), (.int (0) 0), (.ref 29), (.int (38) 0), (.int (0) 0), (.ref 38), (.int (58) 0), (.int (0) 0), (.ref 47), (.int (64) 0), (.int (0) 0), (.ref 56), (.int (86) 0), (.int (0) 0), (.ref 64), (.int (98) 0), (.int (0) 0), (.ref 71), (.int (108) 0), (.int (0) 0), (.ref 89)]), #[]⟩
noncomputable def oC_58 (P : Params) : Obj := ⟨(.type "dict"), none, (.dict #[⟨(1), (.int (1) 261), (.str (Str.ofString "OPTIMIZED") 262)⟩, ⟨(2), (.int (2) 263), (.str (Str.ofString "NEWLOCALS") 264)⟩, ⟨(4), (.int (4) 265), (.str (Str.ofString "VARARGS") 266)⟩, ⟨(8), (.int (8) 267), (.str (Str.ofString "VARKEYWORDS") 268)⟩, ⟨(16), (.int (16) 269), (.str (Str.ofString "NESTED") 270)⟩, ⟨(32), (.int (32) 271), (.str (Str.ofString "GENERATOR") 272)⟩, ⟨(64), (.int (64) 273), (.str (Str.ofString "NOFREE") 274)⟩, ⟨(128), (.int (128) 275), (.str (Str.ofString "COROUTINE") 276)⟩, ⟨(256), (.int (256) 277), (.str (Str.ofString "ITERABLE_COROUTINE") 278)⟩, ⟨(512), (.int (512) 279), (.str (Str.ofString "ASYNC_GENERATOR") 280)⟩] 10), #[]⟩
noncomputable def oC_59 (P : Params) : Obj := ⟨(.type "tuple"), none, (.seq #[] 0), #[]⟩
noncomputable def oC_60 (P : Params) : Obj := ⟨.none, none, (.fields #[]), #[]⟩
noncomputable def oC_61 (P : Params) : Obj := ⟨(.type "tuple"), none, (.seq #[(.str (Str.ofString "flags") 295), (.str (Str.ofString "names") 296), (.str (Str.ofString "i") 297), (.str (Str.ofString "flag") 298)] 0), #[]⟩
noncomputable def oC_62 (P : Params) : Obj := ⟨(.type "tuple"), none, (.seq #[] 0), #[]⟩
noncomputable def oC_63 (P : Params) : Obj := ⟨.none, none, (.func ⟨Str.ofString "pretty_flags", Str.ofString "pretty_flags", fArgs (stm 10), .stmts (fBody (stm 10)), fScope (stm 10), 0, [], .none, .none, .none, .none, none, .none, .none, 0⟩), #[]⟩
noncomputable def oC_64 (P : Params) : Obj := ⟨(.type "code"), none, (.fields #[(.str (Str.ofString "pretty_flags") 292), (.str (Str.ofString "pretty_flags") 293), (.str (Str.ofString "/claim/cut.py") 294), (.int (86) 0), (.int (1) 0), (.int (0) 0), (.int (0) 0), (.int (3) 0), (.ref 59), (.bool true), (.int (181) 0), (.ref 60), .none, (.ref 61), (.ref 62), (.ref 63), (.int (299) 0), (.int (86) 0), (.str (Str.ofString "/claim/cut.py") 300)]), #[]⟩
noncomputable def oC_65 (P : Params) : Obj := ⟨(.type "function"), none, (.func ⟨Str.ofString "pretty_flags", Str.ofString "pretty_flags", fArgs (stm 10), .stmts (fBody (stm 10)), fScope (stm 10), 3, [], .none, .none, .none, (.str (Str.ofString "cpy313.dis") 259), none, (.ref 64), .none, 0⟩), #[]⟩
noncomputable def oC_66 (P : Params) : Obj := ⟨(.type "tuple"), none, (.seq #[] 0), #[]⟩
noncomputable def oC_67 (P : Params) : Obj := ⟨.none, none, (.fields #[]), #[]⟩
noncomputable def oC_68 (P : Params) : Obj := ⟨(.type "tuple"), none, (.seq #[(.str (Str.ofString "iterator") 305), (.str (Str.ofString "b") 306), (.str (Str.ofString "val") 307)] 0), #[]⟩
noncomputable def oC_69 (P : Params) : Obj := ⟨(.type "tuple"), none, (.seq #[] 0), #[]⟩
noncomputable def oC_70 (P : Params) : Obj := ⟨.none, none, (.func ⟨Str.ofString "_parse_varint", Str.ofString "_parse_varint", fArgs (stm 11), .stmts (fBody (stm 11)), fScope (stm 11), 0, [], .none, .none, .none, .none, none, .none, .none, 0⟩), #[]⟩
noncomputable def oC_71 (P : Params) : Obj := ⟨(.type "code"), none, (.fields #[(.str (Str.ofString "_parse_varint") 302), (.str (Str.ofString "_parse_varint") 303), (.str (Str.ofString "/claim/cut.py") 304), (.int (98) 0), (.int (1) 0), (.int (0) 0), (.int (0) 0), (.int (3) 0), (.ref 66), (.bool true), (.int (181) 0), (.ref 67), .none, (.ref 68), (.ref 69), (.ref 70), (.int (308) 0), (.int (98) 0), (.str (Str.ofString "/claim/cut.py") 309)]), #[]⟩
noncomputable def oC_72 (P : Params) : Obj := ⟨(.type "function"), none, (.func ⟨Str.ofString "_parse_varint", Str.ofString "_parse_varint", fArgs (stm 11), .stmts (fBody (stm 11)), fScope (stm 11), 3, [], .none, .none, .none, (.str (Str.ofString "cpy313.dis") 259), none, (.ref 71), .none, 0⟩), #[]⟩
noncomputable def oC_73 (P : Params) : Obj := ⟨(.type "list"), none, (.seq #[(.int (173) 313), (.int (847) 314), (.int (6150) 315), (.int (6155) 316), (.int (6156) 317), (.int (6157) 318), (.int (8203) 319), (.int (8204) 320), (.int (8205) 321), (.int (8288) 322), (.int (65279) 323)] 0), #[]⟩
noncomputable def oC_74 (P : Params) : Obj := ⟨(.type "range"), none, (.fields #[(.int (65024) 324), (.int (65040) 325), (.int (1) 326)]), #[]⟩
noncomputable def oC_75 (P : Params) : Obj := ⟨(.type "list"), none, (.seq #[(.int (65024) 329), (.int (65025) 330), (.int (65026) 331), (.int (65027) 332), (.int (65028) 333), (.int (65029) 334), (.int (65030) 335), (.int (65031) 336), (.int (65032) 337), (.int (65033) 338), (.int (65034) 339), (.int (65035) 340), (.int (65036) 341), (.int (65037) 342), (.int (65038) 343), (.int (65039) 344)] 18), #[]⟩
noncomputable def oC_76 (P : Params) : Obj := ⟨(.type "range_iterator"), none, (.fields #[(.int (65040) 0), (.int (0) 0), (.int (1) 0)]), #[]⟩
noncomputable def oC_77 (P : Params) : Obj := ⟨(.type "tuple"), none, (.seq #[] 0), #[]⟩
noncomputable def oC_78 (P : Params) : Obj := ⟨(.type "StopIteration"), none, (.fields #[(.ref 77), .none, .none, .none, (.bool false), .none]), #[]⟩
noncomputable def oC_79 (P : Params) : Obj := ⟨(.type "list"), none, (.seq #[(.int (173) 313), (.int (847) 314), (.int (6150) 315), (.int (6155) 316), (.int (6156) 317), (.int (6157) 318), (.int (8203) 319), (.int (8204) 320), (.int (8205) 321), (.int (8288) 322), (.int (65279) 323), (.int (65024) 329), (.int (65025) 330), (.int (65026) 331), (.int (65027) 332), (.int (65028) 333), (.int (65029) 334), (.int (65030) 335), (.int (65031) 336), (.int (65032) 337), (.int (65033) 338), (.int (65034) 339), (.int (65035) 340), (.int (65036) 341), (.int (65037) 342), (.int (65038) 343), (.int (65039) 344)] 0), #[]⟩
noncomputable def oC_80 (P : Params) : Obj := ⟨(.type "set"), none, (.set #[((65024), (.int (65024) 329)), ((65025), (.int (65025) 330)), ((65026), (.int (65026) 331)), ((65027), (.int (65027) 332)), ((65028), (.int (65028) 333)), ((65029), (.int (65029) 334)), ((6150), (.int (6150) 315)), ((65030), (.int (65030) 335)), ((65031), (.int (65031) 336)), ((65032), (.int (65032) 337)), ((65033), (.int (65033) 338)), ((6155), (.int (6155) 316)), ((6156), (.int (6156) 317)), ((6157), (.int (6157) 318)), ((8203), (.int (8203) 319)), ((8204), (.int (8204) 320)), ((8205), (.int (8205) 321)), ((65034), (.int (65034) 339)), ((65035), (.int (65035) 340)), ((65036), (.int (65036) 341)), ((65037), (.int (65037) 342)), ((65038), (.int (65038) 343)), ((65039), (.int (65039) 344)), ((173), (.int (173) 313)), ((847), (.int (847) 314)), ((8288), (.int (8288) 322)), ((65279), (.int (65279) 323))] 29 ⟨127, #[0, 1, 2, 3, 4, 5, 6, 7, 8, 9, 10, 11, 12, 13, 14, 15, 16, 17, 18, 19, 20, 21, 22, 45, 79, 96, 127], #[], 0, !P.followText "set-order", 2, true⟩), #[]⟩
noncomputable def oC_81 (P : Params) : Obj := ⟨(.type "list_iterator"), none, (.fields #[.none, (.int (27) 0)]), #[]⟩
noncomputable def oC_82 (P : Params) : Obj := ⟨(.type "tuple"), none, (.seq #[] 0), #[]⟩
noncomputable def oC_83 (P : Params) : Obj := ⟨(.type "StopIteration"), none, (.fields #[(.ref 82), .none, .none, .none, (.bool false), .none]), #[]⟩
noncomputable def oC_84 (P : Params) : Obj := ⟨(.type "tuple"), none, (.seq #[] 0), #[]⟩
noncomputable def oC_85 (P : Params) : Obj := ⟨.none, none, (.fields #[]), #[]⟩
noncomputable def oC_86 (P : Params) : Obj := ⟨(.type "tuple"), none, (.seq #[(.str (Str.ofString "code") 376)] 0), #[]⟩
noncomputable def oC_87 (P : Params) : Obj := ⟨(.type "tuple"), none, (.seq #[] 0), #[]⟩
noncomputable def oC_88 (P : Params) : Obj := ⟨.none, none, (.func ⟨Str.ofString "in_table_b1", Str.ofString "in_table_b1", fArgs (stm 14), .stmts (fBody (stm 14)), fScope (stm 14), 0, [], .none, .none, .none, .none, none, .none, .none, 0⟩), #[]⟩
noncomputable def oC_89 (P : Params) : Obj := ⟨(.type "code"), none, (.fields #[(.str (Str.ofString "in_table_b1") 373), (.str (Str.ofString "in_table_b1") 374), (.str (Str.ofString "/claim/cut.py") 375), (.int (108) 0), (.int (1) 0), (.int (0) 0), (.int (0) 0), (.int (3) 0), (.ref 84), (.bool true), (.int (181) 0), (.ref 85), .none, (.ref 86), (.ref 87), (.ref 88), (.int (377) 0), (.int (108) 0), (.str (Str.ofString "/claim/cut.py") 378)]), #[]⟩
noncomputable def oC_90 (P : Params) : Obj := ⟨(.type "function"), none, (.func ⟨Str.ofString "in_table_b1", Str.ofString "in_table_b1", fArgs (stm 14), .stmts (fBody (stm 14)), fScope (stm 14), 3, [], .none, .none, .none, (.str (Str.ofString "cpy313.stringprep") 311), none, (.ref 89), .none, 0⟩), #[]⟩
noncomputable def TC (P : Params) : BT := (.node (PySem.W.boot_o_0 P) (.node (PySem.W.boot_o_1 P) (.node (oC_3 P) (.node (PySem.W.boot_o_7 P) (.node (oB_15 P) (.node (oB_31 P) (.node (oC_63 P) .nil .nil) .nil) (.node (oB_47 P) (.node (oC_79 P) .nil .nil) .nil)) (.node (oB_23 P) (.node (oB_39 P) (.node (oC_71 P) .nil .nil) .nil) (.node (oB_55 P) (.node (oC_87 P) .nil .nil) .nil))) (.node (oA_11 P) (.node (oB_19 P) (.node (oB_35 P) (.node (oC_67 P) .nil .nil) .nil) (.node (oB_51 P) (.node (oC_83 P) .nil .nil) .nil)) (.node (oB_27 P) (.node (oB_43 P) (.node (oC_75 P) .nil .nil) .nil) (.node (oC_59 P) .nil .nil)))) (.node (PySem.W.boot_o_5 P) (.node (PySem.W.boot_o_9 P) (.node (oB_17 P) (.node (oB_33 P) (.node (oC_65 P) .nil .nil) .nil) (.node (oB_49 P) (.node (oC_81 P) .nil .nil) .nil)) (.node (oB_25 P) (.node (oB_41 P) (.node (oC_73 P) .nil .nil) .nil) (.node (oB_57 P) (.node (oC_89 P) .nil .nil) .nil))) (.node (oA_13 P) (.node (oB_21 P) (.node (oB_37 P) (.node (oC_69 P) .nil .nil) .nil) (.node (oB_53 P) (.node (oC_85 P) .nil .nil) .nil)) (.node (oB_29 P) (.node (oB_45 P) (.node (oC_77 P) .nil .nil) .nil) (.node (oC_61 P) .nil .nil))))) (.node (PySem.W.boot_o_2 P) (.node (PySem.W.boot_o_4 P) (.node (PySem.W.boot_o_8 P) (.node (oB_16 P) (.node (oB_32 P) (.node (oC_64 P) .nil .nil) .nil) (.node (oB_48 P) (.node (oC_80 P) .nil .nil) .nil)) (.node (oB_24 P) (.node (oB_40 P) (.node (oC_72 P) .nil .nil) .nil) (.node (oB_56 P) (.node (oC_88 P) .nil .nil) .nil))) (.node (oC_12 P) (.node (oB_20 P) (.node (oB_36 P) (.node (oC_68 P) .nil .nil) .nil) (.node (oB_52 P) (.node (oC_84 P) .nil .nil) .nil)) (.node (oB_28 P) (.node (oB_44 P) (.node (oC_76 P) .nil .nil) .nil) (.node (oC_60 P) .nil .nil)))) (.node (PySem.W.boot_o_6 P) (.node (PySem.W.boot_o_10 P) (.node (oB_18 P) (.node (oB_34 P) (.node (oC_66 P) .nil .nil) .nil) (.node (oB_50 P) (.node (oC_82 P) .nil .nil) .nil)) (.node (oB_26 P) (.node (oB_42 P) (.node (oC_74 P) .nil .nil) .nil) (.node (oC_58 P) (.node (oC_90 P) .nil .nil) .nil))) (.node (oA_14 P) (.node (oB_22 P) (.node (oB_38 P) (.node (oC_70 P) .nil .nil) .nil) (.node (oB_54 P) (.node (oC_86 P) .nil .nil) .nil)) (.node (oB_30 P) (.node (oB_46 P) (.node (oC_78 P) .nil .nil) .nil) (.node (oC_62 P) .nil .nil))))))
noncomputable def SC (w : World) (os : OsState) : SharedT := ⟨TC w.params, 91, life0, #[], drawn0, 380, os⟩
noncomputable def qC : Pos := ⟨108, 0, 109, 30⟩
noncomputable def TD (P : Params) : BT := (.node (PySem.W.boot_o_0 P) (.node (PySem.W.boot_o_1 P) (.node (oC_3 P) (.node (PySem.W.boot_o_7 P) (.node (oB_15 P) (.node (oB_31 P) (.node (oC_63 P) (.node (subD 35 P) .nil .nil) .nil) (.node (subD 3 P) .nil .nil)) (.node (oB_47 P) (.node (oC_79 P) .nil .nil) (.node (subD 19 P) .nil .nil))) (.node (oB_23 P) (.node (oB_39 P) (.node (oC_71 P) .nil .nil) (.node (subD 11 P) .nil .nil)) (.node (oB_55 P) (.node (oC_87 P) .nil .nil) (.node (subD 27 P) .nil .nil)))) (.node (oA_11 P) (.node (oB_19 P) (.node (oB_35 P) (.node (oC_67 P) .nil .nil) (.node (subD 7 P) .nil .nil)) (.node (oB_51 P) (.node (oC_83 P) .nil .nil) (.node (subD 23 P) .nil .nil))) (.node (oB_27 P) (.node (oB_43 P) (.node (oC_75 P) .nil .nil) (.node (subD 15 P) .nil .nil)) (.node (oC_59 P) (.node (mainD P) .nil .nil) (.node (subD 31 P) .nil .nil))))) (.node (PySem.W.boot_o_5 P) (.node (PySem.W.boot_o_9 P) (.node (oB_17 P) (.node (oB_33 P) (.node (oC_65 P) (.node (subD 37 P) .nil .nil) .nil) (.node (subD 5 P) .nil .nil)) (.node (oB_49 P) (.node (oC_81 P) .nil .nil) (.node (subD 21 P) .nil .nil))) (.node (oB_25 P) (.node (oB_41 P) (.node (oC_73 P) .nil .nil) (.node (subD 13 P) .nil .nil)) (.node (oB_57 P) (.node (oC_89 P) .nil .nil) (.node (subD 29 P) .nil .nil)))) (.node (oA_13 P) (.node (oB_21 P) (.node (oB_37 P) (.node (oC_69 P) .nil .nil) (.node (subD 9 P) .nil .nil)) (.node (oB_53 P) (.node (oC_85 P) .nil .nil) (.node (subD 25 P) .nil .nil))) (.node (oB_29 P) (.node (oB_45 P) (.node (oC_77 P) .nil .nil) (.node (subD 17 P) .nil .nil)) (.node (oC_61 P) (.node (subD 1 P) .nil .nil) (.node (subD 33 P) .nil .nil)))))) (.node (PySem.W.boot_o_2 P) (.node (PySem.W.boot_o_4 P) (.node (PySem.W.boot_o_8 P) (.node (oB_16 P) (.node (oB_32 P) (.node (oC_64 P) (.node (subD 36 P) .nil .nil) .nil) (.node (subD 4 P) .nil .nil)) (.node (oB_48 P) (.node (oC_80 P) .nil .nil) (.node (subD 20 P) .nil .nil))) (.node (oB_24 P) (.node (oB_40 P) (.node (oC_72 P) .nil .nil) (.node (subD 12 P) .nil .nil)) (.node (oB_56 P) (.node (oC_88 P) .nil .nil) (.node (subD 28 P) .nil .nil)))) (.node (oC_12 P) (.node (oB_20 P) (.node (oB_36 P) (.node (oC_68 P) .nil .nil) (.node (subD 8 P) .nil .nil)) (.node (oB_52 P) (.node (oC_84 P) .nil .nil) (.node (subD 24 P) .nil .nil))) (.node (oB_28 P) (.node (oB_44 P) (.node (oC_76 P) .nil .nil) (.node (subD 16 P) .nil .nil)) (.node (oC_60 P) (.node (subD 0 P) .nil .nil) (.node (subD 32 P) .nil .nil))))) (.node (PySem.W.boot_o_6 P) (.node (PySem.W.boot_o_10 P) (.node (oB_18 P) (.node (oB_34 P) (.node (oC_66 P) .nil .nil) (.node (subD 6 P) .nil .nil)) (.node (oB_50 P) (.node (oC_82 P) .nil .nil) (.node (subD 22 P) .nil .nil))) (.node (oB_26 P) (.node (oB_42 P) (.node (oC_74 P) .nil .nil) (.node (subD 14 P) .nil .nil)) (.node (oC_58 P) (.node (oC_90 P) .nil .nil) (.node (subD 30 P) .nil .nil)))) (.node (oA_14 P) (.node (oB_22 P) (.node (oB_38 P) (.node (oC_70 P) .nil .nil) (.node (subD 10 P) .nil .nil)) (.node (oB_54 P) (.node (oC_86 P) .nil .nil) (.node (subD 26 P) .nil .nil))) (.node (oB_30 P) (.node (oB_46 P) (.node (oC_78 P) .nil .nil) (.node (subD 18 P) .nil .nil)) (.node (oC_62 P) (.node (subD 2 P) .nil .nil) (.node (subD 34 P) .nil .nil)))))))
noncomputable def oE_3 (P : Params) : Obj := ⟨(.type "dict"), none, (.dict #[⟨PyData.keyHash P (Str.ofString "__name__"), (.str (Str.ofString "__name__") 165), (.str (Str.ofString "law_ta0099_03") 2339)⟩, ⟨PyData.keyHash P (Str.ofString "__doc__"), (.str (Str.ofString "__doc__") 166), .none⟩, ⟨PyData.keyHash P (Str.ofString "__package__"), (.str (Str.ofString "__package__") 167), .none⟩, ⟨PyData.keyHash P (Str.ofString "__loader__"), (.str (Str.ofString "__loader__") 168), (.builtin "__main__.__loader__#opaque")⟩, ⟨PyData.keyHash P (Str.ofString "__spec__"), (.str (Str.ofString "__spec__") 169), .none⟩, ⟨PyData.keyHash P (Str.ofString "__annotations__"), (.str (Str.ofString "__annotations__") 170), (.ref 6)⟩, ⟨PyData.keyHash P (Str.ofString "__builtins__"), (.str (Str.ofString "__builtins__") 171), (.ref 4)⟩, ⟨PyData.keyHash P (Str.ofString "__file__"), (.str (Str.ofString "__file__") 173), (.str (Str.ofString "/claim/cut.py") 172)⟩, ⟨PyData.keyHash P (Str.ofString "__cached__"), (.str (Str.ofString "__cached__") 174), .none⟩, ⟨PyData.keyHash P (Str.ofString "ELLIPSIS_MARKER"), (.str (Str.ofString "ELLIPSIS_MARKER") 190), (.str (Str.ofString "...") 189)⟩, ⟨PyData.keyHash P (Str.ofString "_ellipsis_match"), (.str (Str.ofString "_ellipsis_match") 202), (.ref 21)⟩, ⟨PyData.keyHash P (Str.ofString "insort_right"), (.str (Str.ofString "insort_right") 217), (.ref 30)⟩, ⟨PyData.keyHash P (Str.ofString "bisect_right"), (.str (Str.ofString "bisect_right") 231), (.ref 39)⟩, ⟨PyData.keyHash P (Str.ofString "insort_left"), (.str (Str.ofString "insort_left") 244), (.ref 48)⟩, ⟨PyData.keyHash P (Str.ofString "bisect_left"), (.str (Str.ofString "bisect_left") 258), (.ref 57)⟩, ⟨PyData.keyHash P (Str.ofString "COMPILER_FLAG_NAMES"), (.str (Str.ofString "COMPILER_FLAG_NAMES") 291), (.ref 58)⟩, ⟨PyData.keyHash P (Str.ofString "pretty_flags"), (.str (Str.ofString "pretty_flags") 301), (.ref 65)⟩, ⟨PyData.keyHash P (Str.ofString "_parse_varint"), (.str (Str.ofString "_parse_varint") 310), (.ref 72)⟩, ⟨PyData.keyHash P (Str.ofString "b1_set"), (.str (Str.ofString "b1_set") 372), (.ref 80)⟩, ⟨PyData.keyHash P (Str.ofString "in_table_b1"), (.str (Str.ofString "in_table_b1") 379), (.ref 90)⟩, ⟨PyData.keyHash P (Str.ofString "b3_exceptions"), (.str (Str.ofString "b3_exceptions") 2330), (.ref 91)⟩, ⟨PyData.keyHash P (Str.ofString "map_table_b3"), (.str (Str.ofString "map_table_b3") 2338), (.ref 136)⟩, ⟨PyData.keyHash P (Str.ofString "_law_prepared"), (.str (Str.ofString "_law_prepared") 2346), (.ref 141)⟩, ⟨PyData.keyHash P (Str.ofString "_law_own"), (.str (Str.ofString "_law_own") 2352), (.ref 146)⟩, ⟨PyData.keyHash P (Str.ofString "_law_common"), (.str (Str.ofString "_law_common") 2362), (.ref 153)⟩, ⟨PyData.keyHash P (Str.ofString "_law_octets"), (.str (Str.ofString "_law_octets") 2368), (.ref 158)⟩, ⟨PyData.keyHash P (Str.ofString "_law_expert"), (.str (Str.ofString "_law_expert") 2374), (.ref 163)⟩, ⟨PyData.keyHash P (Str.ofString "_law_explored"), (.str (Str.ofString "_law_explored") 2380), (.ref 168)⟩, ⟨PyData.keyHash P (Str.ofString "law"), (.str (Str.ofString "law") 2386), (.ref 173)⟩] 29), #[]⟩
noncomputable def oE_12 (P : Params) : Obj := ⟨.none, none, (.fields #[(.int (3) 0), (.int (0) 0), (.ref 20), (.int (32) 0), (.int (0) 0), (.ref 29), (.int (38) 0), (.int (0) 0), (.ref 38), (.int (58) 0), (.int (0) 0), (.ref 47), (.int (64) 0), (.int (0) 0), (.ref 56), (.int (86) 0), (.int (0) 0), (.ref 64), (.int (98) 0), (.int (0) 0), (.ref 71), (.int (108) 0), (.int (0) 0), (.ref 89), (.int (111) 0), (.int (0) 0), (.ref 135), (.int (117) 0), (.int (0) 0), (.ref 140), (.int (122) 0), (.int (0) 0), (.ref 145), (.int (130) 0), (.int (0) 0), (.ref 152), (.int (136) 0), (.int (0) 0), (.ref 157), (.int (139) 0), (.int (0) 0), (.ref 162), (.int (148) 0), (.int (0) 0), (.ref 167), (.int (165) 0), (.int (0) 0), (.ref 172)]), #[]⟩
noncomputable def oE_130 (P : Params) : Obj := ⟨(.type "tuple"), none, (.seq #[] 0), #[]⟩
noncomputable def oE_131 (P : Params) : Obj := ⟨.none, none, (.fields #[]), #[]⟩
noncomputable def oE_132 (P : Params) : Obj := ⟨(.type "tuple"), none, (.seq #[(.str (Str.ofString "code") 2334), (.str (Str.ofString "r") 2335)] 0), #[]⟩
noncomputable def oE_133 (P : Params) : Obj := ⟨(.type "tuple"), none, (.seq #[] 0), #[]⟩
noncomputable def oE_134 (P : Params) : Obj := ⟨.none, none, (.func ⟨Str.ofString "map_table_b3", Str.ofString "map_table_b3", fArgs (stm 16), .stmts (fBody (stm 16)), fScope (stm 16), 0, [], .none, .none, .none, .none, none, .none, .none, 0⟩), #[]⟩
noncomputable def oE_135 (P : Params) : Obj := ⟨(.type "code"), none, (.fields #[(.str (Str.ofString "map_table_b3") 2331), (.str (Str.ofString "map_table_b3") 2332), (.str (Str.ofString "/claim/cut.py") 2333), (.int (111) 0), (.int (1) 0), (.int (0) 0), (.int (0) 0), (.int (3) 0), (.ref 130), (.bool true), (.int (181) 0), (.ref 131), .none, (.ref 132), (.ref 133), (.ref 134), (.int (2336) 0), (.int (111) 0), (.str (Str.ofString "/claim/cut.py") 2337)]), #[]⟩
noncomputable def oE_136 (P : Params) : Obj := ⟨(.type "function"), none, (.func ⟨Str.ofString "map_table_b3", Str.ofString "map_table_b3", fArgs (stm 16), .stmts (fBody (stm 16)), fScope (stm 16), 3, [], .none, .none, .none, (.str (Str.ofString "cpy313.stringprep") 311), none, (.ref 135), .none, 0⟩), #[]⟩
noncomputable def oE_137 (P : Params) : Obj := ⟨(.type "tuple"), none, (.seq #[] 0), #[]⟩
noncomputable def oE_138 (P : Params) : Obj := ⟨.none, none, (.fields #[]), #[]⟩
noncomputable def oE_139 (P : Params) : Obj := ⟨.none, none, (.func ⟨Str.ofString "_law_prepared", Str.ofString "_law_prepared", fArgs (stm 18), .stmts (fBody (stm 18)), fScope (stm 18), 0, [], .none, .none, .none, .none, none, .none, .none, 0⟩), #[]⟩
noncomputable def oE_140 (P : Params) : Obj := ⟨(.type "code"), none, (.fields #[(.str (Str.ofString "_law_prepared") 2341), (.str (Str.ofString "_law_prepared") 2342), (.str (Str.ofString "/claim/cut.py") 2343), (.int (117) 0), (.int (8) 0), (.int (0) 0), (.int (0) 0), (.int (3) 0), (.ref 137), (.bool true), (.int (181) 0), (.ref 138), .none, .none, .none, (.ref 139), (.int (2344) 0), (.int (117) 0), (.str (Str.ofString "/claim/cut.py") 2345)]), #[]⟩
noncomputable def oE_141 (P : Params) : Obj := ⟨(.type "function"), none, (.func ⟨Str.ofString "_law_prepared", Str.ofString "_law_prepared", fArgs (stm 18), .stmts (fBody (stm 18)), fScope (stm 18), 3, [], .none, .none, .none, (.str (Str.ofString "law_ta0099_03") 2339), none, (.ref 140), .none, 0⟩), #[]⟩
noncomputable def oE_142 (P : Params) : Obj := ⟨(.type "tuple"), none, (.seq #[] 0), #[]⟩
noncomputable def oE_143 (P : Params) : Obj := ⟨.none, none, (.fields #[]), #[]⟩
noncomputable def oE_144 (P : Params) : Obj := ⟨.none, none, (.func ⟨Str.ofString "_law_own", Str.ofString "_law_own", fArgs (stm 19), .stmts (fBody (stm 19)), fScope (stm 19), 0, [], .none, .none, .none, .none, none, .none, .none, 0⟩), #[]⟩
noncomputable def oE_145 (P : Params) : Obj := ⟨(.type "code"), none, (.fields #[(.str (Str.ofString "_law_own") 2347), (.str (Str.ofString "_law_own") 2348), (.str (Str.ofString "/claim/cut.py") 2349), (.int (122) 0), (.int (3) 0), (.int (0) 0), (.int (0) 0), (.int (3) 0), (.ref 142), (.bool true), (.int (181) 0), (.ref 143), .none, .none, .none, (.ref 144), (.int (2350) 0), (.int (122) 0), (.str (Str.ofString "/claim/cut.py") 2351)]), #[]⟩
noncomputable def oE_146 (P : Params) : Obj := ⟨(.type "function"), none, (.func ⟨Str.ofString "_law_own", Str.ofString "_law_own", fArgs (stm 19), .stmts (fBody (stm 19)), fScope (stm 19), 3, [], .none, .none, .none, (.str (Str.ofString "law_ta0099_03") 2339), none, (.ref 145), .none, 0⟩), #[]⟩
noncomputable def oE_147 (P : Params) : Obj := ⟨(.type "tuple"), none, (.seq #[] 0), #[]⟩
noncomputable def oE_148 (P : Params) : Obj := ⟨.none, none, (.fields #[]), #[]⟩
noncomputable def oE_149 (P : Params) : Obj := ⟨(.type "tuple"), none, (.seq #[(.str (Str.ofString "chosen") 2356), (.str (Str.ofString "rows") 2357), (.str (Str.ofString "told") 2358), (.str (Str.ofString "row") 2359)] 0), #[]⟩
noncomputable def oE_150 (P : Params) : Obj := ⟨(.type "tuple"), none, (.seq #[] 0), #[]⟩
noncomputable def oE_151 (P : Params) : Obj := ⟨.none, none, (.func ⟨Str.ofString "_law_common", Str.ofString "_law_common", fArgs (stm 20), .stmts (fBody (stm 20)), fScope (stm 20), 0, [], .none, .none, .none, .none, none, .none, .none, 0⟩), #[]⟩
noncomputable def oE_152 (P : Params) : Obj := ⟨(.type "code"), none, (.fields #[(.str (Str.ofString "_law_common") 2353), (.str (Str.ofString "_law_common") 2354), (.str (Str.ofString "/claim/cut.py") 2355), (.int (130) 0), (.int (2) 0), (.int (0) 0), (.int (0) 0), (.int (3) 0), (.ref 147), (.bool true), (.int (181) 0), (.ref 148), .none, (.ref 149), (.ref 150), (.ref 151), (.int (2360) 0), (.int (130) 0), (.str (Str.ofString "/claim/cut.py") 2361)]), #[]⟩
noncomputable def oE_153 (P : Params) : Obj := ⟨(.type "function"), none, (.func ⟨Str.ofString "_law_common", Str.ofString "_law_common", fArgs (stm 20), .stmts (fBody (stm 20)), fScope (stm 20), 3, [], .none, .none, .none, (.str (Str.ofString "law_ta0099_03") 2339), none, (.ref 152), .none, 0⟩), #[]⟩
noncomputable def oE_154 (P : Params) : Obj := ⟨(.type "tuple"), none, (.seq #[] 0), #[]⟩
noncomputable def oE_155 (P : Params) : Obj := ⟨.none, none, (.fields #[]), #[]⟩
noncomputable def oE_156 (P : Params) : Obj := ⟨.none, none, (.func ⟨Str.ofString "_law_octets", Str.ofString "_law_octets", fArgs (stm 21), .stmts (fBody (stm 21)), fScope (stm 21), 0, [], .none, .none, .none, .none, none, .none, .none, 0⟩), #[]⟩
noncomputable def oE_157 (P : Params) : Obj := ⟨(.type "code"), none, (.fields #[(.str (Str.ofString "_law_octets") 2363), (.str (Str.ofString "_law_octets") 2364), (.str (Str.ofString "/claim/cut.py") 2365), (.int (136) 0), (.int (3) 0), (.int (0) 0), (.int (0) 0), (.int (3) 0), (.ref 154), (.bool true), (.int (181) 0), (.ref 155), .none, .none, .none, (.ref 156), (.int (2366) 0), (.int (136) 0), (.str (Str.ofString "/claim/cut.py") 2367)]), #[]⟩
noncomputable def oE_158 (P : Params) : Obj := ⟨(.type "function"), none, (.func ⟨Str.ofString "_law_octets", Str.ofString "_law_octets", fArgs (stm 21), .stmts (fBody (stm 21)), fScope (stm 21), 3, [], .none, .none, .none, (.str (Str.ofString "law_ta0099_03") 2339), none, (.ref 157), .none, 0⟩), #[]⟩
noncomputable def oE_159 (P : Params) : Obj := ⟨(.type "tuple"), none, (.seq #[] 0), #[]⟩
noncomputable def oE_160 (P : Params) : Obj := ⟨.none, none, (.fields #[]), #[]⟩
noncomputable def oE_161 (P : Params) : Obj := ⟨.none, none, (.func ⟨Str.ofString "_law_expert", Str.ofString "_law_expert", fArgs (stm 22), .stmts (fBody (stm 22)), fScope (stm 22), 0, [], .none, .none, .none, .none, none, .none, .none, 0⟩), #[]⟩
noncomputable def oE_162 (P : Params) : Obj := ⟨(.type "code"), none, (.fields #[(.str (Str.ofString "_law_expert") 2369), (.str (Str.ofString "_law_expert") 2370), (.str (Str.ofString "/claim/cut.py") 2371), (.int (139) 0), (.int (3) 0), (.int (0) 0), (.int (0) 0), (.int (3) 0), (.ref 159), (.bool true), (.int (181) 0), (.ref 160), .none, .none, .none, (.ref 161), (.int (2372) 0), (.int (139) 0), (.str (Str.ofString "/claim/cut.py") 2373)]), #[]⟩
noncomputable def oE_163 (P : Params) : Obj := ⟨(.type "function"), none, (.func ⟨Str.ofString "_law_expert", Str.ofString "_law_expert", fArgs (stm 22), .stmts (fBody (stm 22)), fScope (stm 22), 3, [], .none, .none, .none, (.str (Str.ofString "law_ta0099_03") 2339), none, (.ref 162), .none, 0⟩), #[]⟩
noncomputable def oE_164 (P : Params) : Obj := ⟨(.type "tuple"), none, (.seq #[] 0), #[]⟩
noncomputable def oE_165 (P : Params) : Obj := ⟨.none, none, (.fields #[]), #[]⟩
noncomputable def oE_166 (P : Params) : Obj := ⟨.none, none, (.func ⟨Str.ofString "_law_explored", Str.ofString "_law_explored", fArgs (stm 23), .stmts (fBody (stm 23)), fScope (stm 23), 0, [], .none, .none, .none, .none, none, .none, .none, 0⟩), #[]⟩
noncomputable def oE_167 (P : Params) : Obj := ⟨(.type "code"), none, (.fields #[(.str (Str.ofString "_law_explored") 2375), (.str (Str.ofString "_law_explored") 2376), (.str (Str.ofString "/claim/cut.py") 2377), (.int (148) 0), (.int (5) 0), (.int (0) 0), (.int (0) 0), (.int (3) 0), (.ref 164), (.bool true), (.int (181) 0), (.ref 165), .none, .none, .none, (.ref 166), (.int (2378) 0), (.int (148) 0), (.str (Str.ofString "/claim/cut.py") 2379)]), #[]⟩
noncomputable def oE_168 (P : Params) : Obj := ⟨(.type "function"), none, (.func ⟨Str.ofString "_law_explored", Str.ofString "_law_explored", fArgs (stm 23), .stmts (fBody (stm 23)), fScope (stm 23), 3, [], .none, .none, .none, (.str (Str.ofString "law_ta0099_03") 2339), none, (.ref 167), .none, 0⟩), #[]⟩
noncomputable def oE_169 (P : Params) : Obj := ⟨(.type "tuple"), none, (.seq #[] 0), #[]⟩
noncomputable def oE_170 (P : Params) : Obj := ⟨.none, none, (.fields #[]), #[]⟩
noncomputable def oE_171 (P : Params) : Obj := ⟨.none, none, (.func ⟨Str.ofString "law", Str.ofString "law", fArgs (stm 24), .stmts (fBody (stm 24)), fScope (stm 24), 0, [], .none, .none, .none, .none, none, .none, .none, 0⟩), #[]⟩
noncomputable def oE_172 (P : Params) : Obj := ⟨(.type "code"), none, (.fields #[(.str (Str.ofString "law") 2381), (.str (Str.ofString "law") 2382), (.str (Str.ofString "/claim/cut.py") 2383), (.int (165) 0), (.int (1) 0), (.int (0) 0), (.int (0) 0), (.int (3) 0), (.ref 169), (.bool true), (.int (181) 0), (.ref 170), .none, .none, .none, (.ref 171), (.int (2384) 0), (.int (165) 0), (.str (Str.ofString "/claim/cut.py") 2385)]), #[]⟩
noncomputable def oE_173 (P : Params) : Obj := ⟨(.type "function"), none, (.func ⟨Str.ofString "law", Str.ofString "law", fArgs (stm 24), .stmts (fBody (stm 24)), fScope (stm 24), 3, [], .none, .none, .none, (.str (Str.ofString "law_ta0099_03") 2339), none, (.ref 172), .none, 0⟩), #[]⟩
noncomputable def TE (P : Params) : BT := (.node (PySem.W.boot_o_0 P) (.node (PySem.W.boot_o_1 P) (.node (oE_3 P) (.node (PySem.W.boot_o_7 P) (.node (oB_15 P) (.node (oB_31 P) (.node (oC_63 P) (.node (subD 35 P) .nil .nil) .nil) (.node (subD 3 P) (.node (oE_159 P) .nil .nil) .nil)) (.node (oB_47 P) (.node (oC_79 P) (.node (oE_143 P) .nil .nil) .nil) (.node (subD 19 P) .nil .nil))) (.node (oB_23 P) (.node (oB_39 P) (.node (oC_71 P) (.node (oE_135 P) .nil .nil) .nil) (.node (subD 11 P) (.node (oE_167 P) .nil .nil) .nil)) (.node (oB_55 P) (.node (oC_87 P) (.node (oE_151 P) .nil .nil) .nil) (.node (subD 27 P) .nil .nil)))) (.node (oA_11 P) (.node (oB_19 P) (.node (oB_35 P) (.node (oC_67 P) (.node (oE_131 P) .nil .nil) .nil) (.node (subD 7 P) (.node (oE_163 P) .nil .nil) .nil)) (.node (oB_51 P) (.node (oC_83 P) (.node (oE_147 P) .nil .nil) .nil) (.node (subD 23 P) .nil .nil))) (.node (oB_27 P) (.node (oB_43 P) (.node (oC_75 P) (.node (oE_139 P) .nil .nil) .nil) (.node (subD 15 P) (.node (oE_171 P) .nil .nil) .nil)) (.node (oC_59 P) (.node (mainD P) (.node (oE_155 P) .nil .nil) .nil) (.node (subD 31 P) .nil .nil))))) (.node (PySem.W.boot_o_5 P) (.node (PySem.W.boot_o_9 P) (.node (oB_17 P) (.node (oB_33 P) (.node (oC_65 P) (.node (subD 37 P) .nil .nil) .nil) (.node (subD 5 P) (.node (oE_161 P) .nil .nil) .nil)) (.node (oB_49 P) (.node (oC_81 P) (.node (oE_145 P) .nil .nil) .nil) (.node (subD 21 P) .nil .nil))) (.node (oB_25 P) (.node (oB_41 P) (.node (oC_73 P) (.node (oE_137 P) .nil .nil) .nil) (.node (subD 13 P) (.node (oE_169 P) .nil .nil) .nil)) (.node (oB_57 P) (.node (oC_89 P) (.node (oE_153 P) .nil .nil) .nil) (.node (subD 29 P) .nil .nil)))) (.node (oA_13 P) (.node (oB_21 P) (.node (oB_37 P) (.node (oC_69 P) (.node (oE_133 P) .nil .nil) .nil) (.node (subD 9 P) (.node (oE_165 P) .nil .nil) .nil)) (.node (oB_53 P) (.node (oC_85 P) (.node (oE_149 P) .nil .nil) .nil) (.node (subD 25 P) .nil .nil))) (.node (oB_29 P) (.node (oB_45 P) (.node (oC_77 P) (.node (oE_141 P) .nil .nil) .nil) (.node (subD 17 P) (.node (oE_173 P) .nil .nil) .nil)) (.node (oC_61 P) (.node (subD 1 P) (.node (oE_157 P) .nil .nil) .nil) (.node (subD 33 P) .nil .nil)))))) (.node (PySem.W.boot_o_2 P) (.node (PySem.W.boot_o_4 P) (.node (PySem.W.boot_o_8 P) (.node (oB_16 P) (.node (oB_32 P) (.node (oC_64 P) (.node (subD 36 P) .nil .nil) .nil) (.node (subD 4 P) (.node (oE_160 P) .nil .nil) .nil)) (.node (oB_48 P) (.node (oC_80 P) (.node (oE_144 P) .nil .nil) .nil) (.node (subD 20 P) .nil .nil))) (.node (oB_24 P) (.node (oB_40 P) (.node (oC_72 P) (.node (oE_136 P) .nil .nil) .nil) (.node (subD 12 P) (.node (oE_168 P) .nil .nil) .nil)) (.node (oB_56 P) (.node (oC_88 P) (.node (oE_152 P) .nil .nil) .nil) (.node (subD 28 P) .nil .nil)))) (.node (oE_12 P) (.node (oB_20 P) (.node (oB_36 P) (.node (oC_68 P) (.node (oE_132 P) .nil .nil) .nil) (.node (subD 8 P) (.node (oE_164 P) .nil .nil) .nil)) (.node (oB_52 P) (.node (oC_84 P) (.node (oE_148 P) .nil .nil) .nil) (.node (subD 24 P) .nil .nil))) (.node (oB_28 P) (.node (oB_44 P) (.node (oC_76 P) (.node (oE_140 P) .nil .nil) .nil) (.node (subD 16 P) (.node (oE_172 P) .nil .nil) .nil)) (.node (oC_60 P) (.node (subD 0 P) (.node (oE_156 P) .nil .nil) .nil) (.node (subD 32 P) .nil .nil))))) (.node (PySem.W.boot_o_6 P) (.node (PySem.W.boot_o_10 P) (.node (oB_18 P) (.node (oB_34 P) (.node (oC_66 P) (.node (oE_130 P) .nil .nil) .nil) (.node (subD 6 P) (.node (oE_162 P) .nil .nil) .nil)) (.node (oB_50 P) (.node (oC_82 P) (.node (oE_146 P) .nil .nil) .nil) (.node (subD 22 P) .nil .nil))) (.node (oB_26 P) (.node (oB_42 P) (.node (oC_74 P) (.node (oE_138 P) .nil .nil) .nil) (.node (subD 14 P) (.node (oE_170 P) .nil .nil) .nil)) (.node (oC_58 P) (.node (oC_90 P) (.node (oE_154 P) .nil .nil) .nil) (.node (subD 30 P) .nil .nil)))) (.node (oA_14 P) (.node (oB_22 P) (.node (oB_38 P) (.node (oC_70 P) (.node (oE_134 P) .nil .nil) .nil) (.node (subD 10 P) (.node (oE_166 P) .nil .nil) .nil)) (.node (oB_54 P) (.node (oC_86 P) (.node (oE_150 P) .nil .nil) .nil) (.node (subD 26 P) .nil .nil))) (.node (oB_30 P) (.node (oB_46 P) (.node (oC_78 P) (.node (oE_142 P) .nil .nil) .nil) (.node (subD 18 P) .nil .nil)) (.node (oC_62 P) (.node (subD 2 P) (.node (oE_158 P) .nil .nil) .nil) (.node (subD 34 P) .nil .nil)))))))
noncomputable def SE (w : World) (os : OsState) : SharedT := ⟨TE w.params, 174, life0, #[], drawn0, 2387, os⟩
noncomputable def qE : Pos := ⟨165, 0, 207, 91⟩

noncomputable def cdB : Code := .body bd benv
noncomputable def BB : List Frame := [topFrame fq]
noncomputable def SD (w : World) (os : OsState) : SharedT := ⟨TD w.params, 130, life0, #[], drawn0, 2330, os⟩

theorem preL (w : World) (os : OsState) : topGo treeTable pw w 11 AN 12 ⟨boot_heap w.params, Array.mk [], boot_drawn, boot_toks, os⟩ (topStub pw) = some ((SA w os).abs, ⟨denote treeTable cdB, cdB, ppos, BB⟩) := by kernel_rfl!
theorem blockL (w : World) (os : OsState) : segRun treeTable pw w 11 AN 1 1 (SA w os).abs (blockOf bd benv cdB ppos BB) = some (.next, (SA w os).abs, cdB, bpos) := by kernel_rfl!
theorem g1 (w : World) (os : OsState) : segRunT treeTable pw w 11 AN 1 233 (SA w os) (piecesOf (bd.take 9) benv cdB bpos BB) = some (.next, SB w os, cdB, qB) := by kernel_rfl!
theorem g2 (w : World) : ∀ os : OsState, segRunT treeTable pw w 11 AN 1 1240 (SB w os) (piecesOf ((bd.drop 9).take 6) benv cdB qB BB) = some (.next, SC w os, cdB, qC) := by
  refine byRow2 "special-get-raises" (P := fun w => ∀ os : OsState, segRunT treeTable pw w 11 AN 1 1240 (SB w os) (piecesOf ((bd.drop 9).take 6) benv cdB qB BB) = some (.next, SC w os, cdB, qC)) (fun w os => ?_) (fun w os => ?_) w
  · rw [PySem.W.Fast.te10110043849684766642, PySem.W.Fast.te14364793385576792824]; kernel_rfl!
  · rw [PySem.W.Fast.te10110043849684766642, PySem.W.Fast.te14364793385576792824]; kernel_rfl!


noncomputable def rising : List Int → Bool
  | a :: b :: r => decide (a < b) && rising (b :: r)
  | _ => true
theorem rising_lt : ∀ {l : List Int} {a : Int}, rising (a :: l) = true → ∀ b ∈ l, a < b
  | [], _, _, b, h => (nomatch h)
  | c :: r, a, h, b, hb => by
    rw [rising, Bool.and_eq_true, decide_eq_true_eq] at h
    rcases List.mem_cons.mp hb with rfl | hb
    · exact h.1
    · exact Int.lt_trans h.1 (rising_lt h.2 b hb)
theorem rising_tail {a : Int} {l : List Int} (h : rising (a :: l) = true) : rising l = true := by
  cases l with
  | nil => rfl
  | cons b r => rw [rising, Bool.and_eq_true] at h; exact h.2
theorem rising_nodup : ∀ {l : List Int}, rising l = true → l.Nodup
  | [], _ => List.nodup_nil
  | a :: l, h => List.nodup_cons.mpr ⟨fun hm => Int.lt_irrefl a (rising_lt h a hm), rising_nodup (rising_tail h)⟩

noncomputable def keysB : List Int := (c0B ++ csB.flatten ++ lastB).map (·.1.1)
theorem keys_rising : rising keysB = true := by decide +kernel
theorem keys_small : keysB.all (fun k => decide (0 ≤ k) && decide (k < 2 ^ 60)) = true := by decide +kernel
theorem keys_ok : okKeysH ((c0B ++ csB.flatten ++ lastB).map (·.1.1)) :=
  ⟨rising_nodup keys_rising, fun k hk => by
    have := List.all_eq_true.mp keys_small k hk
    simpa using this⟩
theorem len0 : c0B.length = 17 := by decide +kernel
theorem lens : csB.all (fun c => c.length == 17) = true := by decide +kernel
theorem lenl : lastB.length = 4 := by decide +kernel
theorem lena : (c0B ++ csB.flatten ++ lastB).length = 650 := by decide +kernel
theorem lenc : csB.length = 37 := by decide +kernel
theorem items_eq : itemsB = c0B ++ csB.flatten ++ lastB := by kernel_rfl!

noncomputable def dictE : Stmt → PySem.Expr
  | .Assign _ v _ => v
  | _ => default
noncomputable def dictQ : Stmt → Pos
  | .Assign _ (.Dict _ _ q) _ => q
  | _ => default
noncomputable def stQ : Stmt → Pos
  | .Assign _ _ q => q
  | _ => default
noncomputable def stT : Stmt → List PySem.Expr
  | .Assign t _ _ => t
  | _ => []
noncomputable def tailB (v : Value) : Sem Flow := do
  match ← assignStores benv v none ((assignEach (stT (stm 15)) benv).map (·.2)) with
  | .next => execs (bd.drop 16) benv
  | f => pure f
noncomputable def frontB : Sem Value := standAt (stQ (stm 15)) >>= fun _ => standAt (dictQ (stm 15)) >>= fun _ => dictDisplay (dl (c0B ++ csB.flatten ++ lastB))
theorem sem_assoc {α β γ : Type} (m : Sem α) (f : α → Sem β) (g : β → Sem γ) : (m >>= f) >>= g = m >>= fun a => f a >>= g := by
  simp only [Sem.bind_eq_wrap', Sem.wrap_wrap]
  rfl
theorem dict_eval : eval (dictE (stm 15)) benv = (standAt (dictQ (stm 15)) >>= fun _ => dictDisplay (dl (c0B ++ csB.flatten ++ lastB))) := by kernel_rfl!
theorem dict_exec : exec (stm 15) benv = (standAt (stQ (stm 15)) >>= fun _ => eval (dictE (stm 15)) benv >>= fun v => assignStores benv v none ((assignEach (stT (stm 15)) benv).map (·.2))) := by kernel_rfl!
theorem dict_execs : execs (bd.drop 15) benv = (frontB >>= tailB) := by
  have e0 : execs (bd.drop 15) benv = (exec (stm 15) benv >>= fun f => match f with | .next => execs (bd.drop 16) benv | f => pure f) := by kernel_rfl!
  rw [e0, dict_exec, dict_eval]
  unfold frontB
  simp only [sem_assoc]
  rfl

noncomputable def LC (P : Params) : List Obj := (TC P).list 91
theorem LC_len (P : Params) : (LC P).length = 91 := by simp [LC, BT.list]
theorem SC_st (w : World) (os : OsState) : (SC w os).abs = st life0 #[] drawn0 os (LC w.params) 380 := rfl
theorem SD_st (w : World) (os : OsState) : (SD w os).abs = st life0 #[] drawn0 os (LC w.params ++ mainO :: subsO) 2330 := by
  have e : (TD w.params).list 130 = LC w.params ++ mainO :: subsO := by kernel_rfl!
  show st life0 #[] drawn0 os ((TD w.params).list 130) 2330 = _
  rw [e]

theorem front_runs (w : World) (os : OsState) : Runs pw w 11 AN frontB (SC w os).abs 20000 (.ref 91) (SD w os).abs := by
  have h := runs_display (p := pw) (w := w) (n₀ := 11) (ann := AN) (life := life0) (gens := #[]) (drawn := drawn0) (os := os) (c0 := c0B) (last := lastB) (cs := csB) (L := LC w.params) (tk := 380) len0
    (fun c hc => by simpa using List.all_eq_true.mp lens c hc) (by intro e; have := lenl; rw [e] at this; cases this) (by rw [lenl]; decide) keys_ok (by rw [lena]; decide) (by rw [LC_len]; rfl) (by rw [LC_len]; decide)
  rw [SC_st, SD_st]
  rw [LC_len, lenc, lena] at h
  refine Runs.mono (N := ((37 * 330 + 1000) + 1) + 1) (Runs.bind (N := 1) (N' := (37 * 330 + 1000) + 1) Runs.standAt (Runs.bind (N := 1) (N' := 37 * 330 + 1000) Runs.standAt ?_)) (by decide)
  unfold mainO subsO
  rw [lena]
  exact h

theorem tailL (w : World) (os : OsState) (q : Pos) : segRunT treeTable pw w 11 AN 1 287 (SD w os) ⟨(tailB (.ref 91)).wrap doneF deadEnd id id, cdB, q, BB⟩ = some (.next, SE w os, cdB, qE) := by kernel_rfl!

theorem finL (w : World) (os : OsState) : topRun treeTable pw w 11 AN 2 (SE w os).abs ⟨doneF .next, cdB, qE, BB⟩ = some (SE w os).abs := by kernel_rfl!

theorem runL (w : World) (os : OsState) : topRun treeTable pw w 11 AN (12 + (1 + (233 + (1240 + ((287 + 2) + 20000))))) ⟨boot_heap w.params, Array.mk [], boot_drawn, boot_toks, os⟩ (topStub pw) = some (SE w os).abs := by
  refine go_top (preL w os) ?_
  refine piece_block (blockL w os) ?_
  have e1 : bd = bd.take 9 ++ bd.drop 9 := (List.take_append_drop 9 bd).symm
  have e2 : bd.drop 9 = (bd.drop 9).take 6 ++ bd.drop 15 := by
    have := (List.take_append_drop 6 (bd.drop 9)).symm
    rwa [List.drop_drop] at this
  have k3 : topRun treeTable pw w 11 AN ((287 + 2) + 20000) (SC w os).abs (restOf (bd.drop 15) benv cdB qC BB) = some (SE w os).abs := by
    obtain ⟨q', n, hn, hk⟩ := front_runs w os (fun v => (tailB v).wrap doneF (leaveH benv) id id) (leaveH benv) id id cdB qC (topFrame fq) []
    have ht := segRun_of (tailL w os q')
    obtain ⟨a, ha, hN⟩ := seg_top (res := id) (K' := doneF) (H' := leaveH benv) (B := BB) rfl 287 (SD w os).abs ⟨(tailB (.ref 91)).wrap doneF deadEnd id id, cdB, q', BB⟩
      ⟨(tailB (.ref 91)).wrap doneF (leaveH benv) id id, cdB, q', BB⟩ _ _ _ _ ⟨rfl, rfl, .inl ⟨rfl, rfl, _, rfl, rfl⟩⟩ ht
    have ha' : a = .next := ha
    subst ha'
    have h1 := hk _ _ (hN _ _ (finL w os))
    have h2 := topRun_mono (20000 - n) _ _ _ _ h1
    rw [Nat.add_assoc _ n, Nat.add_sub_cancel' hn] at h2
    unfold restOf
    rw [dict_execs, Sem.bind_eq_wrap', Sem.wrap_wrap]
    exact h2
  have k2 : topRun treeTable pw w 11 AN (1240 + ((287 + 2) + 20000)) (SB w os).abs (restOf (bd.drop 9) benv cdB qB BB) = some (SE w os).abs := by
    rw [e2]
    exact piece_app (segRun_of (g2 w os)) k3
  have k1 : topRun treeTable pw w 11 AN (233 + (1240 + ((287 + 2) + 20000))) (SA w os).abs (restOf bd benv cdB bpos BB) = some (SE w os).abs := by
    rw [e1]
    exact piece_app (segRun_of (g1 w os)) k2
  exact k1

noncomputable def HE (P : Params) : Heap := absHeap (TE P) 174 life0
noncomputable def qv : Program := { pw with main := { pw.main with body := [stm 24] } }
noncomputable def looseN : List Str := [Str.ofString "ELLIPSIS_MARKER", Str.ofString "_ellipsis_match", Str.ofString "insort_right", Str.ofString "bisect_right", Str.ofString "insort_left", Str.ofString "bisect_left", Str.ofString "COMPILER_FLAG_NAMES", Str.ofString "pretty_flags", Str.ofString "_parse_varint", Str.ofString "b1_set", Str.ofString "in_table_b1", Str.ofString "b3_exceptions", Str.ofString "map_table_b3", Str.ofString "_law_prepared", Str.ofString "_law_own", Str.ofString "_law_common", Str.ofString "_law_octets", Str.ofString "_law_expert", Str.ofString "_law_explored"]
theorem sizeL (w : World) : ((boot_heap w.params).isNs mainGlobals && (Array.mk [] : Array GenState).size == 0, (boot_heap w.params).objs.size, (boot_heap w.params).nsMap mainGlobals "__annotations__") = (true, 11, AN) := by kernel_rfl!
theorem looksL (w : World) : (fun os : OsState => ((staticsOk (importedModules pw.main.body) (boot_heap w.params) (HE w.params) && namesBound pw (HE w.params) && gensDone ⟨HE w.params, #[], drawn0, 2387, os⟩ && laidKept (boot_heap w.params) (HE w.params)),
        openSeen qv looseN (importedModules pw.main.body) (fun _ => true) true ⟨HE w.params, #[], drawn0, 2387, os⟩, HE w.params)) = fun _ => (true, openGood qv looseN, HE w.params) := by
  funext os
  refine Prod.ext ?_ (Prod.ext ?_ rfl)
  · dsimp only; kernel_rfl!
  · dsimp only; kernel_rfl!
theorem leftL : LeftO pw qv looseN (fun _ => true) (fun s => s.heap) (fun w => HE w.params) 100000 :=
  LeftO.of_pieces (H₀ := boot_heap) (H₁ := HE) (gs₀ := Array.mk []) (gs₁ := #[]) (d₀ := boot_drawn) (d₁ := drawn0) (k₀ := boot_toks) (k₁ := 2387) (m₀ := 11) (ann := AN) (M := (12 + (1 + (233 + (1240 + ((287 + 2) + 20000))))))
   (boot_open (by kernel_rfl!) rfl (fun s => by kernel_rfl!)) sizeL runL (by rfl) looksL

end
set_option backward.match.sparseCases false
theorem none_ne {α : Type} {v : α} {p : Prop} (h : none = some v) : p := nomatch h
theorem ff_ne {p : Prop} (h : false = true) : p := nomatch h

noncomputable def S (l : List Nat) : Str := ⟨l.toArray⟩
theorem S_toList (x : Str) : S x.cps.toList = x := by cases x; rfl
theorem S_inj {a b : List Nat} (h : S a = S b) : a = b := by
  have := congrArg (fun x : Str => x.cps.toList) h
  simpa [S] using this
theorem S_length (l : List Nat) : (S l).length = l.length := by simp [S, Str.length]
inductive V where
  | none
  | bool (b : Bool)
  | int (i : Int)
  | str (l : List Nat)
  | tup (l : List V)
  | lst (l : List V)
  | ref (n : Nat)
  | rng (a b c : Int)
  | lam (args : Arguments) (body : PySem.Expr) (scope : Scope)
  | cst (v : Value)
noncomputable abbrev Names := List (Str × NameKind)

noncomputable abbrev Vars := List (Str × Option V)
structure Fr where
  names : Names
  vars : Vars
  
  lam : Bool
noncomputable def gotv (o : Option (Option V)) : Option V := match o with
  | some v => v
  | none => none
noncomputable def Fr.get (f : Fr) (x : Str) : Option V := gotv (f.vars.lookup x)
inductive AObj where
  | list (l : List V)
  | iter (l : List V)
  | tab
noncomputable abbrev Objs := List AObj
inductive C where
  | obj (a : Addr)
  | tab (a : Addr)
noncomputable def C.addr : C → Addr
  | .obj a => a
  | .tab a => a
structure FP where
  names : Names
  L : Addr
  cells : List (Str × Addr)
  lam : Bool
noncomputable def FP.addrs (p : FP) : List Addr := p.L :: p.cells.map (·.2)

structure Pl where
  fr : List FP
  ob : List C
  
  hid : List Addr
noncomputable def Pl.mt (κ : Pl) : List Addr := κ.fr.flatMap FP.addrs ++ (κ.hid ++ κ.ob.map C.addr)
theorem Pl.mt_ob {κ : Pl} {i : Nat} {c : C} (h : κ.ob[i]? = some c) : c.addr ∈ κ.mt := List.mem_append_right _ (List.mem_append_right _ (List.mem_map_of_mem (List.mem_of_getElem? h)))
theorem Pl.mt_hid {κ : Pl} {a : Addr} (h : a ∈ κ.hid) : a ∈ κ.mt := List.mem_append_right _ (List.mem_append_left _ h)
theorem Pl.mt_fr {κ : Pl} {i : Nat} {p : FP} {b : Addr} (h : κ.fr[i]? = some p) (hb : b ∈ p.addrs) : b ∈ κ.mt := List.mem_append_left _ (List.mem_flatMap.mpr ⟨p, List.mem_of_getElem? h, hb⟩)

noncomputable def cellAt : List FP → Str → Option Addr
  | [], _ => none
  | p :: r, x => match p.names.lookup x with
    | some .cell => p.cells.lookup x
    | some .free => cellAt r x
    | _ => none

noncomputable def CodeR (h : Heap) (κ : Pl) (cv : Value) : Prop := ∃ c oc vs q t, cv = .ref c ∧ c ∉ κ.mt ∧ h.get? c = some oc ∧ oc.data = .fields vs ∧ vs[1]? = some (.str q t)

structure IsLam (h : Heap) (κ : Pl) (args : Arguments) (body : PySem.Expr) (scope : Scope) (o : Obj) (fd : FuncData) : Prop where
  data : o.data = .func fd
  params : fd.params = args
  bd : fd.body = .expr body
  sc : fd.scope = scope
  glob : fd.globals = mainGlobals
  blt : fd.builtins = builtinsNs
  dfl : fd.defaults = .none
  kwd : fd.kwdefaults = .none
  clos : fd.closure = []
  code : CodeR h κ fd.code
  cls : o.cls = .type "function"
noncomputable def PTup (h : Heap) (a : Addr) (items : Array Value) : Prop := ∃ n, h.get? a = some { cls := .type "tuple", data := .seq items n }
theorem PTup.isTup {h : Heap} {a : Addr} {items : Array Value} (x : PTup h a items) : IsTup h a items := let ⟨n, e⟩ := x; ⟨_, e, rfl, n, rfl⟩
theorem PTup.isTuple {h : Heap} {a : Addr} {items : Array Value} (x : PTup h a items) : h.IsTuple a items := let ⟨n, e⟩ := x; ⟨_, e, rfl, n, rfl⟩
mutual

noncomputable def RV (h : Heap) (κ : Pl) : V → Value → Prop
  | .none, cv => cv = .none
  | .bool b, cv => cv = .bool b
  | .int i, cv => ∃ t, cv = .int i t
  | .str l, cv => ∃ t, cv = .str (S l) t
  | .tup l, cv => ∃ a vals, cv = .ref a ∧ PTup h a vals ∧ a ∉ κ.mt ∧ RVs h κ l vals.toList
  | .lst l, cv => ∃ a vals, cv = .ref a ∧ h.PlainList a vals ∧ a ∉ κ.mt ∧ RVs h κ l vals.toList
  | .ref n, cv => ∃ a, cv = .ref a ∧ κ.ob[n]? = some (.obj a)
  | .rng x y z, cv => ∃ a t1 t2 t3, cv = .ref a ∧ a ∉ κ.mt ∧ h.get? a = some { cls := .type "range", dict := none, data := .fields #[.int x t1, .int y t2, .int z t3], slots := #[] }
  | .lam args body scope, cv => ∃ a o fd, cv = .ref a ∧ a ∉ κ.mt ∧ h.get? a = some o ∧ IsLam h κ args body scope o fd
  | .cst v, cv => cv = v
noncomputable def RVs (h : Heap) (κ : Pl) : List V → List Value → Prop
  | [], cvs => cvs = []
  | v :: l, cvs => ∃ cv r, cvs = cv :: r ∧ RV h κ v cv ∧ RVs h κ l r
end
section
variable {h : Heap} {κ : Pl}
theorem RVs_nil : RVs h κ [] [] := rfl
theorem RVs_cons {v : V} {l : List V} {cv : Value} {r : List Value} (a : RV h κ v cv) (b : RVs h κ l r) : RVs h κ (v :: l) (cv :: r) := ⟨cv, r, rfl, a, b⟩
theorem RVs_length : ∀ {l : List V} {r : List Value}, RVs h κ l r → l.length = r.length
  | [], _, e => congrArg List.length e.symm
  | v :: l, _, ⟨cv, r, e, _, b⟩ => (congrArg (· + 1) (RVs_length b)).trans (congrArg List.length e.symm)
theorem RVs_app : ∀ {l l' : List V} {r r' : List Value}, RVs h κ l r → RVs h κ l' r' → RVs h κ (l ++ l') (r ++ r')
  | [], l', _, r', rfl, e' => e'
  | v :: l, l', _, r', ⟨cv, r, rfl, a, b⟩, e' => ⟨cv, r ++ r', rfl, a, RVs_app b e'⟩
theorem RVs_get : ∀ {l : List V} {r : List Value} {k : Nat} {v : V}, RVs h κ l r → l[k]? = some v → ∃ cv, r[k]? = some cv ∧ RV h κ v cv
  | v :: l, _, 0, _, ⟨cv, r, rfl, a, b⟩, rfl => ⟨cv, rfl, a⟩
  | v :: l, _, k + 1, _, ⟨cv, r, rfl, a, b⟩, e => RVs_get (k := k) b e
theorem RVs_take : ∀ {l : List V} {r : List Value} (k : Nat), RVs h κ l r → RVs h κ (l.take k) (r.take k)
  | l, r, 0, _ => rfl
  | [], _, _ + 1, rfl => rfl
  | v :: l, _, k + 1, ⟨cv, r, rfl, a, b⟩ => ⟨cv, r.take k, rfl, a, RVs_take k b⟩
theorem RVs_drop : ∀ {l : List V} {r : List Value} (k : Nat), RVs h κ l r → RVs h κ (l.drop k) (r.drop k)
  | l, r, 0, e => e
  | [], _, _ + 1, rfl => rfl
  | v :: l, _, k + 1, ⟨cv, r, rfl, a, b⟩ => RVs_drop k b
end

noncomputable def OptR (h : Heap) (κ : Pl) : Option V → Option Value → Prop
  | none, none => True
  | some v, some cv => RV h κ v cv
  | _, _ => False
theorem OptR.some {h : Heap} {κ : Pl} {v : V} {o : Option Value} (r : OptR h κ (some v) o) : ∃ cv, o = some cv ∧ RV h κ v cv := match o, r with
  | .some cv, r => ⟨cv, rfl, r⟩

noncomputable def ObjR (h : Heap) (κ : Pl) : AObj → C → Prop
  | .list l, .obj a => ∃ vals, h.PlainList a vals ∧ RVs h κ l vals.toList
  | .tab, .tab a => ∃ ps : Array Value, h.get? a = some (tabObj ps) ∧ TriplesOk ps.toList ∧ ∀ pos cv, codeAmong pos ps.toList = some cv → CodeR h κ cv
  | .iter l, .obj a => ∃ b k vals, h.IsListIter a b k ∧ h.PlainList b vals ∧ b ∉ κ.mt ∧ RVs h κ l (vals.toList.drop k)
  | _, _ => False

structure FrameR (h : Heap) (κ : Pl) (f : Fr) (p : FP) : Prop where
  nm : f.names = p.names
  lm : f.lam = p.lam
  loc : ∃ m, h.Ns p.L m ∧ ∀ x, f.names.lookup x = some .local → OptR h κ (f.get x) (m x)
  cell : ∀ x, f.names.lookup x = some .cell → ∃ c cv, p.cells.lookup x = some c ∧ h.IsCell c cv ∧ OptR h κ (f.get x) cv

structure Ext (h : Heap) (κ : Pl) (h' : Heap) (κ' : Pl) : Prop where
  pre : κ.ob <+: κ'.ob
  keep : ∀ b o, h.get? b = some o → b ∉ κ.mt → h'.get? b = some o
  fresh : ∀ b ∈ κ'.mt, b ∉ κ.mt → h.get? b = none
section
variable {h h' h'' : Heap} {κ κ' κ'' : Pl}
theorem Ext.refl (h : Heap) (κ : Pl) : Ext h κ h κ := ⟨List.prefix_rfl, fun _ _ e _ => e, fun _ a b => absurd a b⟩
theorem Ext.off (x : Ext h κ h' κ') {b : Addr} {o : Obj} (hb : h.get? b = some o) (hn : b ∉ κ.mt) : b ∉ κ'.mt := fun hm => nomatch (x.fresh b hm hn).symm.trans hb
theorem Ext.trans (x : Ext h κ h' κ') (y : Ext h' κ' h'' κ'') : Ext h κ h'' κ'' where
  pre := x.pre.trans y.pre
  keep b o hb hn := y.keep b o (x.keep b o hb hn) (x.off hb hn)
  fresh b hm hn := Classical.byContradiction fun hb =>
    match hq : h.get? b with
    | none => hb hq
    | some o => match Classical.em (b ∈ κ'.mt) with
      | .inl h1 => hb (x.fresh b h1 hn)
      | .inr h1 => nomatch (x.keep b o hq hn).symm.trans (y.fresh b hm h1)
theorem Ext.grow (k : ∀ b o, h.get? b = some o → h'.get? b = some o) : Ext h κ h' κ := ⟨List.prefix_rfl, fun b o e _ => k b o e, fun _ p q => absurd p q⟩
theorem pre_get {α : Type} {l l' : List α} (p : l <+: l') {i : Nat} {c : α} (e : l[i]? = some c) : l'[i]? = some c := by
  obtain ⟨t, rfl⟩ := p
  rw [List.getElem?_append_left (List.getElem?_eq_some_iff.mp e).1]; exact e
theorem CodeR_mono (x : Ext h κ h' κ') {cv : Value} (r : CodeR h κ cv) : CodeR h' κ' cv :=
  let ⟨c, oc, vs, q, t, e, a, b, r⟩ := r; ⟨c, oc, vs, q, t, e, x.off b a, x.keep _ _ b a, r⟩
mutual
theorem RV_mono (x : Ext h κ h' κ') : ∀ {v : V} {cv : Value}, RV h κ v cv → RV h' κ' v cv
  | .none, _, e => e
  | .bool _, _, e => e
  | .int _, _, e => e
  | .str _, _, e => e
  | .tup l, _, ⟨a, vals, e, ⟨o, ho⟩, ha, m⟩ => ⟨a, vals, e, ⟨o, x.keep _ _ ho ha⟩, x.off ho ha, RVs_mono x m⟩
  | .lst l, _, ⟨a, vals, e, ⟨o, ho⟩, ha, m⟩ => ⟨a, vals, e, ⟨o, x.keep _ _ ho ha⟩, x.off ho ha, RVs_mono x m⟩
  | .ref n, _, ⟨a, e, hi⟩ => ⟨a, e, pre_get x.pre hi⟩
  | .rng _ _ _, _, ⟨a, t1, t2, t3, e, ha, ho⟩ => ⟨a, t1, t2, t3, e, x.off ho ha, x.keep _ _ ho ha⟩
  | .lam _ _ _, _, ⟨a, o, fd, e, ha, ho, l⟩ => ⟨a, o, fd, e, x.off ho ha, x.keep _ _ ho ha, { l with code := CodeR_mono x l.code }⟩
  | .cst _, _, e => e
theorem RVs_mono (x : Ext h κ h' κ') : ∀ {l : List V} {r : List Value}, RVs h κ l r → RVs h' κ' l r
  | [], _, e => e
  | _ :: _, _, ⟨cv, r, e, a, b⟩ => ⟨cv, r, e, RV_mono x a, RVs_mono x b⟩
end
theorem OptR_mono (x : Ext h κ h' κ') : ∀ {v : Option V} {cv : Option Value}, OptR h κ v cv → OptR h' κ' v cv
  | none, none, _ => trivial
  | some _, some _, r => RV_mono x r
theorem lookup_memL {α : Type} {x : Str} {c : α} : ∀ {l : List (Str × α)}, l.lookup x = some c → (x, c) ∈ l
  | (y, d) :: l, e => by
    rw [List.lookup_cons] at e
    split at e
    · rename_i hx
      cases e
      rw [eq_of_beq hx]; exact List.mem_cons_self ..
    · exact List.mem_cons_of_mem _ (lookup_memL e)
theorem ObjR_mono (x : Ext h κ h' κ') {o : AObj} {c : C} (own : ∀ ob, h.get? c.addr = some ob → h'.get? c.addr = some ob) (r : ObjR h κ o c) : ObjR h' κ' o c := match o, c, r with
  | .list l, .obj a, ⟨vals, ⟨n, ho⟩, hv⟩ => ⟨vals, ⟨n, own _ ho⟩, RVs_mono x hv⟩
  | .tab, .tab a, ⟨ps, h1, h2, h3⟩ => ⟨ps, own _ h1, h2, fun p cv e => CodeR_mono x (h3 p cv e)⟩
  | .iter l, .obj a, ⟨b, k, vals, ⟨ob, ho, rest⟩, ⟨ol, hol⟩, hb, hv⟩ => ⟨b, k, vals, ⟨ob, own ob ho, rest⟩, ⟨ol, x.keep b _ hol hb⟩, x.off hol hb, RVs_mono x hv⟩
theorem FrameR_mono (x : Ext h κ h' κ') {f : Fr} {p : FP} (own : ∀ b ∈ p.addrs, ∀ ob, h.get? b = some ob → h'.get? b = some ob) (r : FrameR h κ f p) : FrameR h' κ' f p where
  nm := r.nm
  lm := r.lm
  loc := let ⟨m, ⟨ob, es, ep, ho, rest⟩, hl⟩ := r.loc; ⟨m, ⟨ob, es, ep, own _ (List.mem_cons_self ..) ob ho, rest⟩, fun y hy => OptR_mono x (hl y hy)⟩
  cell y hy := let ⟨c, cv, h1, ⟨ob, ho, hd⟩, h3⟩ := r.cell y hy; ⟨c, cv, h1, ⟨ob, own c (List.mem_cons_of_mem _ (List.mem_map_of_mem (lookup_memL h1))) ob ho, hd⟩, OptR_mono x h3⟩
end

structure Rel (h0 : Heap) (κ : Pl) (F : List Fr) (O : Objs) (h : Heap) : Prop where
  len : κ.ob.length = O.length
  flen : κ.fr.length = F.length
  base : ∀ a o, h0.get? a = some o → h.get? a = some o
  off : ∀ a ∈ κ.mt, h0.get? a = none
  nd : κ.mt.Nodup
  ex : ∀ a ∈ κ.mt, ∃ o, h.get? a = some o
  objs : ∀ (i : Nat) (o : AObj) (c : C), O[i]? = some o → κ.ob[i]? = some c → ObjR h κ o c
  frs : ∀ (i : Nat) (f : Fr) (p : FP), F[i]? = some f → κ.fr[i]? = some p → FrameR h κ f p
  tab : ∀ p : Addr, p < h0.objs.size → h0.get? p = none → ∃ k : Nat, κ.ob[k]? = some (.tab p)
mutual

noncomputable def V.pure : V → Bool
  | .tup l => pures l
  | .lst l => pures l
  | .ref _ => false
  | _ => true
noncomputable def pures : List V → Bool
  | [] => true
  | v :: l => v.pure && pures l
end
mutual

noncomputable def V.under (b : Nat) : V → Bool
  | .tup l => belows b l
  | .lst l => belows b l
  | .ref n => decide (n < b)
  | _ => true
noncomputable def belows (b : Nat) : List V → Bool
  | [] => true
  | v :: l => v.under b && belows b l
end
noncomputable def AObj.Under (b : Nat) : AObj → Prop
  | .list l => belows b l = true
  | .iter l => belows b l = true
  | .tab => True

noncomputable def Mono (b : Nat) (O O' : Objs) : Prop := ∀ (i : Nat) (o : AObj), i < b → O[i]? = some o → ∃ o', O'[i]? = some o' ∧ ∀ m, o.Under m → o'.Under m
theorem Mono.refl (b : Nat) (O : Objs) : Mono b O O := fun i o _ e => ⟨o, e, fun _ h => h⟩
theorem Mono.trans {b : Nat} {O O' O'' : Objs} (x : Mono b O O') (y : Mono b O' O'') : Mono b O O'' := fun i o hi e =>
  let ⟨_, e', k⟩ := x i o hi e; let ⟨o'', e'', k'⟩ := y i _ hi e'; ⟨o'', e'', fun m h => k' m (k m h)⟩
noncomputable def SameRest (s s' : Shared) : Prop := s'.gens = s.gens ∧ s'.os = s.os ∧ s'.drawn = s.drawn

structure GoF (h0 : Heap) (b : Nat) (FR : List FP) (κ : Pl) (O : Objs) (s : Shared) (κ' : Pl) (F' : List Fr) (O' : Objs) (s' : Shared) : Prop where
  rel : Rel h0 κ' F' O' s'.heap
  ext : Ext s.heap κ s'.heap κ'
  frs : κ'.fr = FR
  rest : SameRest s s'
  mono : Mono b O O'
  hid : ∀ a ∈ κ.hid, a ∈ κ'.hid ∧ ∀ o, s.heap.get? a = some o → s'.heap.get? a = some o
noncomputable abbrev Go (h0 : Heap) (b : Nat) (κ : Pl) := GoF h0 b κ.fr κ
theorem Go.refl {h0 : Heap} {b : Nat} {κ : Pl} {F : List Fr} {O : Objs} {s : Shared} (R : Rel h0 κ F O s.heap) : Go h0 b κ O s κ F O s := ⟨R, Ext.refl _ _, rfl, ⟨rfl, rfl, rfl⟩, Mono.refl _ _, fun _ h => ⟨h, fun _ e => e⟩⟩
theorem GoF.trans {h0 : Heap} {b : Nat} {FR : List FP} {κ κ1 κ2 : Pl} {F1 F2 : List Fr} {O O1 O2 : Objs} {s s1 s2 : Shared} (x : GoF h0 b FR κ O s κ1 F1 O1 s1) (y : Go h0 b κ1 O1 s1 κ2 F2 O2 s2) : GoF h0 b FR κ O s κ2 F2 O2 s2 :=
  ⟨y.rel, x.ext.trans y.ext, y.frs.trans x.frs, ⟨y.rest.1.trans x.rest.1, y.rest.2.1.trans x.rest.2.1, y.rest.2.2.trans x.rest.2.2⟩, x.mono.trans y.mono, fun a h => ⟨(y.hid a (x.hid a h).1).1, fun o e => (y.hid a (x.hid a h).1).2 o ((x.hid a h).2 o e)⟩⟩

theorem Rel.grow {h0 : Heap} {κ : Pl} {F : List Fr} {O : Objs} {h h' : Heap} (R : Rel h0 κ F O h) (k : ∀ b o, h.get? b = some o → h'.get? b = some o) : Rel h0 κ F O h' :=
  { R with base := fun a o e => k a o (R.base a o e), ex := fun a ha => let ⟨o, ho⟩ := R.ex a ha; ⟨o, k a o ho⟩, objs := fun i o c e e' => ObjR_mono (Ext.grow k) (fun ob hb => k _ ob hb) (R.objs i o c e e'), frs := fun i f p e e' => FrameR_mono (Ext.grow k) (fun b _ ob hb => k b ob hb) (R.frs i f p e e') }
theorem Go.grow {h0 : Heap} {b : Nat} {κ : Pl} {F : List Fr} {O : Objs} {s s' : Shared} (R : Rel h0 κ F O s.heap) (k : ∀ b o, s.heap.get? b = some o → s'.heap.get? b = some o) (r : SameRest s s') : Go h0 b κ O s κ F O s' := ⟨R.grow k, Ext.grow k, rfl, r, Mono.refl _ _, fun a h => ⟨h, fun o e => k a o e⟩⟩
set_option backward.match.sparseCases true
set_option backward.match.sparseCases false

structure FnI where
  params : Arguments
  body : List Stmt
  scope : Scope
  dfl : List V
  kwd : List (Str × V)
structure Glob where
  names : List (Str × V)
  fns : List (Addr × FnI)
  tabs : List (Addr × List (Int × List Nat))
  sets : List (Addr × List Int)
inductive Fl where
  | next | brk | cont
  | ret (v : V)
noncomputable def lenOk (n : Nat) : Bool := decide (n ≤ 1000000)
noncomputable def intOk (i : Int) : Bool := decide (i.natAbs < 2 ^ 4000)
noncomputable def listAt (O : Objs) (n : Nat) : Option (List V) := match O[n]? with
  | some o => (match o with
    | .list l => some l
    | _ => none)
  | none => none
noncomputable def itemsOf (O : Objs) (v : V) : Option (List V) := match v with
  | .lst l => some l
  | .ref n => listAt O n
  | _ => none
noncomputable def pyEqs (f : V → V → Option Bool) : List V → List V → Option Bool
  | [], [] => some true
  | a :: l, b :: r => (f a b).bind fun x => (pyEqs f l r).map fun y => x && y
  | _, _ => none
noncomputable def eqL (O : Objs) (f : V → V → Option Bool) (l : List V) (b : V) : Option Bool := (itemsOf O b).bind fun r => if l.length == r.length then pyEqs f l r else some false
noncomputable def leafEq (a b : V) : Option Bool := match a with
  | .none => (match b with | .none => some true | _ => none)
  | .bool a => (match b with | .bool b => some (a == b) | _ => none)
  | .int a => (match b with | .int b => some (decide (a = b)) | _ => none)
  | .str a => (match b with | .str b => some (decide (a = b)) | _ => none)
  | _ => none
noncomputable def pyEq (O : Objs) : Nat → V → V → Option Bool
  | 0, _, _ => none
  | n + 1, a, b => match a with
    | .tup a => (match b with | .tup b => if a.length == b.length then pyEqs (pyEq O n) a b else none | _ => none)
    | .lst l => eqL O (pyEq O n) l b
    | .ref k => (listAt O k).bind fun l => eqL O (pyEq O n) l b
    | a => leafEq a b
noncomputable def clipV (n step : Int) (v : Option Int) (dflt : Int) : Int := match v with
  | none => dflt
  | some i =>
    let i := if i < 0 then i + n else i
    if step > 0 then max 0 (min i n) else max (-1) (min i (n - 1))
noncomputable def sliceIdx (lo hi st : Option Int) (len : Nat) : Option (List Nat) :=
  let step := st.getD 1
  if step == 0 then none else
  let n : Int := len
  some (sliceRange (clipV n step lo (if step > 0 then 0 else n - 1)) (clipV n step hi (if step > 0 then n else -1)) step)
noncomputable def picked {α : Type} (l : List α) (is : List Nat) : List α := is.filterMap fun i => l[i]?
noncomputable def findT (x y : List Nat) (lo hi : Nat) : Int := match Builtin.Str.occurrences (S x) (S y) lo hi 1 with
  | i :: _ => (i : Int)
  | [] => -1
noncomputable def clipT (n : Nat) (v : Int) : Nat := (max 0 (if v < 0 then v + n else v)).toNat
noncomputable def strsV : List V → Option (List (List Nat))
  | [] => some []
  | v :: r => match v with
    | .str l => (strsV r).map (l :: ·)
    | _ => none
noncomputable def intsV : List V → Option (List Int)
  | [] => some []
  | v :: r => match v with
    | .int i => (intsV r).map (i :: ·)
    | _ => none
noncomputable def truthV (O : Objs) (v : V) : Option Bool := match v with
  | .none => some false
  | .bool b => some b
  | .int i => some (decide (i ≠ 0))
  | .str l => if lenOk l.length then some (!l.isEmpty) else none
  | .lst l => if lenOk l.length then some (!l.isEmpty) else none
  | .ref n => (listAt O n).bind fun l => if lenOk l.length then some (!l.isEmpty) else none
  | _ => none
noncomputable def writeOk (b n : Nat) (v : V) : Bool := decide (b ≤ n) || v.pure
noncomputable def int2 (a c : V) (f : Int → Int → Option V) : Option V := match a with
  | .int x => (match c with | .int y => f x y | _ => none)
  | _ => none
noncomputable def addL (O : Objs) (l : List V) (c : V) : Option V := (itemsOf O c).bind fun r => if lenOk (l.length + r.length) then some (.lst (l ++ r)) else none
noncomputable def addV (O : Objs) (a c : V) : Option V := match a with
  | .int x => (match c with | .int y => some (.int (x + y)) | _ => none)
  | .str x => (match c with | .str y => if lenOk (x.length + y.length) then some (.str (x ++ y)) else none | _ => none)
  | .tup x => (match c with | .tup y => if !x.isEmpty && !y.isEmpty && lenOk (x.length + y.length) then some (.tup (x ++ y)) else none | _ => none)
  | .lst l => addL O l c
  | .ref n => (listAt O n).bind fun l => addL O l c
  | _ => none
noncomputable def mulL (l : List V) (y : Int) : Option V := if 0 ≤ y && y < 1000 && lenOk (l.length * y.toNat) then some (.lst ((List.replicate y.toNat l).flatten)) else none
noncomputable def mulV (O : Objs) (a c : V) : Option V := match c with
  | .int y => (match a with
    | .int x => if intOk x && intOk y then some (.int (x * y)) else none
    | .str x => if 0 ≤ y && y < 1000 && lenOk (x.length * y.toNat) then some (.str ((List.replicate y.toNat x).flatten)) else none
    | .lst l => mulL l y
    | .ref n => (listAt O n).bind fun l => mulL l y
    | _ => none)
  | _ => none
noncomputable def binV (O : Objs) (op : Operator) (a c : V) : Option V := match op with
  | .Add => addV O a c
  | .Mult => mulV O a c
  | .Sub => int2 a c fun x y => some (.int (x - y))
  | .FloorDiv => int2 a c fun x y => if y > 0 && intOk y then some (.int (x / y)) else none
  | .Mod => int2 a c fun x y => if y > 0 then some (.int (x % y)) else none
  | .Pow => int2 a c fun x y => if (x == 2 || x == 3 || x == 4 || x == 10 || x == 64) && 0 ≤ y && y < 600 then some (.int (x ^ y.toNat)) else none
  | .LShift => int2 a c fun x y => if 0 ≤ x && 0 ≤ y && y < 64 && intOk x then some (.int (x * 2 ^ y.toNat)) else none
  | .BitAnd => int2 a c fun x y => if 0 ≤ x && 0 ≤ y then some (.int ((x.toNat &&& y.toNat : Nat) : Int)) else none
  | .BitOr => int2 a c fun x y => if 0 ≤ x && 0 ≤ y then some (.int ((x.toNat ||| y.toNat : Nat) : Int)) else none
  | .BitXor => int2 a c fun x y => if 0 ≤ x && 0 ≤ y then some (.int ((x.toNat ^^^ y.toNat : Nat) : Int)) else none
  | _ => none
noncomputable def negV (v : V) : Option V := match v with
  | .int i => if intOk i then some (.int (-i)) else none
  | _ => none
noncomputable def isNone (v : V) : Option Bool := match v with
  | .none => some true
  | .cst _ => none
  | .rng _ _ _ => none
  | _ => some false
noncomputable def isV (a c : V) : Option Bool := match c with
  | .none => isNone a
  | .bool d => (match a with
    | .bool e => some (e == d)
    | .none => some false
    | _ => none)
  | _ => none
noncomputable def anyEq : List V → V → Option Bool
  | [], _ => some false
  | x :: l, v => (leafEq x v).bind fun t => (anyEq l v).map fun u => t || u
noncomputable def inV (G : Glob) (O : Objs) (x c : V) : Option Bool := match c with
  | .str l => (match x with
    | .str y => some (!(Builtin.Str.occurrences (S l) (S y) 0 l.length 1).isEmpty)
    | _ => none)
  | .lst l => anyEq l x
  | .tup l => anyEq l x
  | .ref n => (listAt O n).bind fun l => anyEq l x
  | .cst d => (match d with
    | .ref a => (G.sets.lookup a).bind fun l => (match x with
      | .int i => if 0 ≤ i && i.toNat < 2 ^ 60 then some (l.contains i) else none
      | _ => none)
    | _ => none)
  | _ => none
noncomputable def pair2 (v : V) : Option (V × V) := match v with
  | .tup l => (match l with
    | [] => none
    | x :: l => (match l with
      | [] => none
      | y :: l => (match l with
        | [] => some (x, y)
        | _ => none)))
  | _ => none
noncomputable def lt2 (a c : Int) (y u : V) : Option Bool := match y with
  | .int b => (match u with | .int d => some (decide (a < c) || (decide (a = c) && decide (b < d))) | _ => none)
  | .bool _ => (match u with | .bool _ => if a = c then none else some (decide (a < c)) | _ => none)
  | _ => none
noncomputable def ltV (a c : V) : Option Bool := (pair2 a).bind fun p => (pair2 c).bind fun q => match p.1 with
  | .int a => (match q.1 with
    | .int c => lt2 a c p.2 q.2
    | _ => none)
  | _ => none
noncomputable def int2b (a c : V) (f : Int → Int → Bool) : Option Bool := match a with
  | .int x => (match c with | .int y => some (f x y) | _ => none)
  | _ => none
noncomputable def cmpV (G : Glob) (O : Objs) (op : CmpOp) (a c : V) : Option Bool := match op with
  | .Eq => pyEq O 9 a c
  | .NotEq => (pyEq O 9 a c).map (!·)
  | .Lt => int2b a c fun x y => decide (x < y)
  | .LtE => int2b a c fun x y => decide (x ≤ y)
  | .Gt => int2b a c fun x y => decide (x > y)
  | .GtE => int2b a c fun x y => decide (x ≥ y)
  | .Is => isV a c
  | .IsNot => (isV a c).map (!·)
  | .In => inV G O a c
  | .NotIn => (inV G O a c).map (!·)
noncomputable def optInt (v : V) : Option (Option Int) := match v with
  | .none => some none
  | .int i => some (some i)
  | _ => none
noncomputable def kOk (k : Int) : Bool := decide (k.natAbs < 2 ^ 60)
noncomputable def atV (l : List V) (k : Int) : Option V := if kOk k then (seqIndex? k l.length).bind (l[·]?) else none
noncomputable def indexV (O : Objs) (c i : V) : Option V := match i with
  | .int k => (match c with
    | .tup l => atV l k
    | .lst l => atV l k
    | .ref n => (listAt O n).bind fun l => atV l k
    | .str l => if kOk k then (seqIndex? k l.length).bind fun j => (l[j]?).map fun c => .str [c] else none
    | _ => none)
  | _ => none
noncomputable def sliceV (O : Objs) (c lo hi st : V) : Option V :=
  (optInt lo).bind fun lo => (optInt hi).bind fun hi => (optInt st).bind fun st => match c with
    | .str l => if lenOk l.length && st.isNone then (sliceIdx lo hi st l.length).map fun is => .str (picked l is) else none
    | .lst l => if lenOk l.length then (sliceIdx lo hi st l.length).map fun is => .lst (picked l is) else none
    | .ref n => (listAt O n).bind fun l => if lenOk l.length then (sliceIdx lo hi st l.length).map fun is => .lst (picked l is) else none
    | _ => none

noncomputable def nodupB : List Str → Bool
  | [] => true
  | x :: r => !r.contains x && nodupB r
noncomputable def addKw (allowed : List Str) : List (Str × V) → List (Str × V) → Option (List (Str × V))
  | slots, [] => some slots
  | slots, e :: r => if allowed.contains e.1 && (slots.lookup e.1).isNone then addKw allowed (slots ++ [e]) r else none
noncomputable def addD : List (Str × V) → List (Str × V) → List (Str × V)
  | slots, [] => slots
  | slots, e :: r => if (slots.lookup e.1).isNone then addD (slots ++ [e]) r else addD slots r
noncomputable def addKwd (kwd : List (Str × V)) : List (Str × V) → List Str → Option (List (Str × V))
  | slots, [] => some slots
  | slots, n :: r => if (slots.lookup n).isNone then (kwd.lookup n).bind fun v => addKwd kwd (slots ++ [(n, v)]) r else addKwd kwd slots r
noncomputable def bindV (ps : Arguments) (dfl : List V) (kwd : List (Str × V)) (pos : List V) (kw : List (Str × V)) : Option (List (Str × V)) :=
  let normal := ps.args.map (·.arg)
  let kwonly := ps.kwonlyargs.map (·.arg)
  if ps.posonlyargs.isEmpty && ps.vararg.isNone && ps.kwarg.isNone && decide (pos.length ≤ normal.length) && nodupB (normal ++ kwonly) then
    (addKw (normal ++ kwonly) (normal.zip pos) kw).bind fun slots =>
      let d := dfl.drop (dfl.length - normal.length)
      let fd := normal.length - d.length
      if ((normal.take fd).filter fun n => (slots.lookup n).isNone).isEmpty then
        (addKwd kwd (addD slots ((normal.drop fd).zip d)) kwonly).map fun slots => (normal ++ kwonly).filterMap fun n => (slots.lookup n).map (n, ·)
      else none
  else none
noncomputable def okVars (names : Names) (vars : List (Str × V)) : Bool := vars.all fun x => names.lookup x.1 == some .local || names.lookup x.1 == some .cell

noncomputable def freeze (O : Objs) (b : Nat) : Nat → V → Option V
  | 0, _ => none
  | n + 1, v => match v with
    | .ref k => if k < b then some v else (listAt O k).bind fun l => (l.mapM (freeze O b n)).map .lst
    | .tup l => (l.mapM (freeze O b n)).map .tup
    | .lst l => (l.mapM (freeze O b n)).map .lst
    | v => some v
noncomputable def leave (b : Nat) (v : V) (O : Objs) : Option V := freeze O b 4 v
noncomputable def rngOk (a b c : Int) : Bool := decide (a.natAbs < 2 ^ 60) && decide (b.natAbs < 2 ^ 60) && c == 1 || (a == 3 && b == -1 && c == -1)
theorem nat_bound {a : Int} (h : a.natAbs < 2 ^ 60) : -(2 ^ 62) ≤ a ∧ a < 2 ^ 62 := by omega
theorem rngOk_small {a b c : Int} (h : rngOk a b c = true) : Builtin.Range.small a b c = true := by
  rcases Bool.or_eq_true_iff.mp h with h | h
  · obtain ⟨h, h3⟩ := Bool.and_eq_true_iff.mp h
    obtain ⟨h1, h2⟩ := Bool.and_eq_true_iff.mp h
    have n1 := nat_bound (of_decide_eq_true h1)
    have n2 := nat_bound (of_decide_eq_true h2)
    cases eq_of_beq h3
    exact small_one n1.1 n1.2 n2.1 n2.2
  · obtain ⟨h, h3⟩ := Bool.and_eq_true_iff.mp h
    obtain ⟨h1, h2⟩ := Bool.and_eq_true_iff.mp h
    cases eq_of_beq h1
    cases eq_of_beq h2
    cases eq_of_beq h3
    decide
noncomputable def rangeL (a b c : Int) : List Int := (List.range (Builtin.Range.rangeSize a b c).toNat).map fun (k : Nat) => a + k * c

inductive Src where
  | items (l : List V)
  | live (n : Nat) (k : Nat)
noncomputable def srcOf (O : Objs) (v : V) : Option Src := match v with
  | .lst l => some (.items l)
  | .tup l => some (.items l)
  | .str l => some (.items (l.map fun c => .str [c]))
  | .rng a b c => if rngOk a b c && lenOk (rangeL a b c).length then some (.items ((rangeL a b c).map .int)) else none
  | .ref n => (listAt O n).map fun _ => .live n 0
  | _ => none
noncomputable def nextOf (O : Objs) (s : Src) : Option (Option (V × Src)) := match s with
  | .items l => (match l with
    | [] => some none
    | v :: l => some (some (v, .items l)))
  | .live n k => (listAt O n).map fun l => (l[k]?).map fun v => (v, .live n (k + 1))

noncomputable def maxV (a b : Int) : Int := if a < b then b else a
noncomputable def minV (a b : Int) : Int := if b < a then b else a
noncomputable def runK {α : Type} (f : Nat → Nat → Option Bool) : KasT α → Option α
  | .ret a => some a
  | .ask i j k => (f i j).bind fun c => runK f (k c)
noncomputable def pairI (v : V) : Bool := match pair2 v with
  | some p => (match p.1 with
    | .int _ => (match p.2 with | .int _ => true | .bool _ => true | _ => false)
    | _ => false)
  | none => false
noncomputable def ltAtV (l : List V) (i j : Nat) : Option Bool := (l[i]?).bind fun a => (l[j]?).bind fun b => ltV a b
noncomputable def sortV (l : List V) : Option (List V) := if l.all pairI then (runK (ltAtV l) (kas_sort l.length)).bind fun p => if p.toList.all (fun i => decide (i < l.length)) then some (picked l p.toList) else none else none
noncomputable def allItems (O : Objs) (v : V) : Option (List V) := match v with
  | .tup l => some l
  | .str l => some (l.map fun c => .str [c])
  | .rng a b c => if rngOk a b c && lenOk (rangeL a b c).length then some ((rangeL a b c).map .int) else none
  | v => itemsOf O v
noncomputable def lenV (O : Objs) (v : V) : Option V := match v with
  | .str l => if lenOk l.length then some (.int l.length) else none
  | .tup l => if lenOk l.length then some (.int l.length) else none
  | .lst l => if lenOk l.length then some (.int l.length) else none
  | .ref n => (listAt O n).bind fun l => if lenOk l.length then some (.int l.length) else none
  | _ => none
noncomputable def one (a : List V) (f : V → Option (V × Objs)) : Option (V × Objs) := match a with
  | [v] => f v
  | _ => none
noncomputable def asInt (v : V) (f : Int → Option (V × Objs)) : Option (V × Objs) := match v with
  | .int i => f i
  | _ => none
noncomputable def asStr (v : V) (f : List Nat → Option (V × Objs)) : Option (V × Objs) := match v with
  | .str i => f i
  | _ => none
noncomputable abbrev Fn := List V → Objs → Option (V × Objs)
noncomputable def bLen : Fn := fun a O => one a fun v => (lenV O v).map fun r => (r, O)
noncomputable def bSum : Fn := fun a O => one a fun v => (itemsOf O v).bind fun l => (intsV l).bind fun is => if is.all (fun i => decide (0 ≤ i)) && decide (is.sum.toNat < 2 ^ 62) && lenOk l.length then some (.int is.sum, O) else none
noncomputable def bIter : Fn := fun a O => one a fun v => match v with
    | .lst l => some (.ref O.length, O ++ [.iter l])
    | _ => none
noncomputable def iterAt (O : Objs) (n : Nat) : Option (List V) := match O[n]? with
    | some o => (match o with
      | .iter l => some l
      | _ => none)
    | none => none
noncomputable def bNext : Fn := fun a O => one a fun v => match v with
    | .ref n => (iterAt O n).bind fun l => match l with
      | v :: l => some (v, O.set n (.iter l))
      | [] => none
    | _ => none
noncomputable def bChr : Fn := fun a O => one a fun v => asInt v fun i => if 0 ≤ i && (i.toNat < 55000 || Nat.ble 60000 i.toNat && i.toNat < 1000000) then some (.str [i.toNat], O) else none
noncomputable def bOrd : Fn := fun a O => one a fun v => asStr v fun l => match l with
    | [c] => some (.int c, O)
    | _ => none
noncomputable def bHex : Fn := fun a O => one a fun v => asInt v fun i => if 0 ≤ i && i.toNat < 2 ^ 64 then some (.str (48 :: 120 :: (Nat.toDigits 16 i.toNat).map Char.toNat), O) else none
noncomputable def bAbs : Fn := fun a O => one a fun v => asInt v fun i => if intOk i then some (.int i.natAbs, O) else none
noncomputable def two (a : List V) (f : V → V → Option (V × Objs)) : Option (V × Objs) := match a with
  | [u, v] => f u v
  | _ => none
noncomputable def bMin : Fn := fun a O => two a fun u v => asInt u fun x => asInt v fun y => some (.int (minV x y), O)
noncomputable def bSorted : Fn := fun a O => one a fun v => (itemsOf O v).bind fun l => if 2 ≤ l.length && l.length < 64 then (sortV l).map fun r => (.lst r, O) else none
noncomputable def callB (id : Str) (a : List V) (b : Nat) (O : Objs) : Option (V × Objs) :=
  if id == ("len" : Str) then bLen a O
  else if id == ("sum" : Str) then bSum a O
  else if id == ("iter" : Str) then bIter a O
  else if id == ("next" : Str) then bNext a O
  else if id == ("chr" : Str) then bChr a O
  else if id == ("ord" : Str) then bOrd a O
  else if id == ("hex" : Str) then bHex a O
  else if id == ("abs" : Str) then bAbs a O
  else if id == ("min" : Str) then bMin a O
  else if id == ("sorted" : Str) then bSorted a O
  else none
noncomputable def yRange : Fn := fun a O => match a with
    | [v] => asInt v fun y => if intOk y then some (.rng 0 y 1, O) else none
    | [u, v] => asInt u fun x => asInt v fun y => if intOk x && intOk y then some (.rng x y 1, O) else none
    | [u, v, t] => asInt u fun x => asInt v fun y => asInt t fun z => if intOk x && intOk y && (z == 1 || z == -1) then some (.rng x y z, O) else none
    | _ => none
noncomputable def yList : Fn := fun a O => one a fun v => (allItems O v).bind fun l => if lenOk l.length then some (.ref O.length, O ++ [.list l]) else none
noncomputable def callY (id : Str) (a : List V) (b : Nat) (O : Objs) : Option (V × Objs) :=
  if id == ("range" : Str) then yRange a O
  else if id == ("list" : Str) then yList a O
  else none
noncomputable def mSplit (x : List Nat) : Fn := fun a O => match a with
    | [] => if lenOk x.length && lenOk (Builtin.Str.spaceWords (S x) (x.length + 1)).length then some (.ref O.length, O ++ [.list ((Txt.words (S x)).map fun p => .str p.cps.toList)]) else none
    | [v] => asStr v fun y => if !y.isEmpty && lenOk x.length && lenOk (Builtin.Str.partsBetween (S x) (Builtin.Str.occurrences (S x) (S y) 0 x.length (x.length + 1)) y.length).length then some (.ref O.length, O ++ [.list ((Txt.split (S x) (S y)).map fun p => .str p.cps.toList)]) else none
    | _ => none
noncomputable def mJoin (x : List Nat) : Fn := fun a O => one a fun v => (itemsOf O v).bind fun l => (strsV l).bind fun ts => if JoinOk (S x) (ts.map S) then some (.str (Txt.join (S x) (ts.map S)).cps.toList, O) else none
noncomputable def mStarts (x : List Nat) : Fn := fun a O => one a fun v => asStr v fun y => some (.bool (Txt.startswith (S x) (S y)), O)
noncomputable def mEnds (x : List Nat) : Fn := fun a O => one a fun v => asStr v fun y => some (.bool (Txt.endswith (S x) (S y)), O)
set_option backward.match.sparseCases true
noncomputable def mFind (x : List Nat) : Fn := fun a O => match a with
    | [v, i, j] => asStr v fun y => asInt i fun i => asInt j fun j => some (.int (findT x y (clipT x.length i) (min (clipT x.length j) x.length)), O)
    | _ => none
set_option backward.match.sparseCases false
noncomputable def mLower (x : List Nat) : Fn := fun a O => match a with
    | [] => if lenOk (Txt.lower (S x)).length then some (.str (Txt.lower (S x)).cps.toList, O) else none
    | _ => none
noncomputable def methS (name : Str) (x : List Nat) (a : List V) (O : Objs) : Option (V × Objs) :=
  if name == ("split" : Str) then mSplit x a O
  else if name == ("join" : Str) then mJoin x a O
  else if name == ("startswith" : Str) then mStarts x a O
  else if name == ("endswith" : Str) then mEnds x a O
  else if name == ("find" : Str) then mFind x a O
  else if name == ("lower" : Str) then mLower x a O
  else none
noncomputable def lAppend (n : Nat) (l : List V) (b : Nat) : Fn := fun a O => one a fun v => if writeOk b n v && lenOk l.length then some (.none, O.set n (.list (l ++ [v]))) else none
noncomputable def lInsert (n : Nat) (l : List V) (b : Nat) : Fn := fun a O => two a fun i v => asInt i fun i => if 0 ≤ i && i ≤ l.length && writeOk b n v && lenOk l.length then some (.none, O.set n (.list (l.take i.toNat ++ v :: l.drop i.toNat))) else none
noncomputable def methL (name : Str) (n : Nat) (l : List V) (a : List V) (b : Nat) (O : Objs) : Option (V × Objs) :=
  if name == ("append" : Str) then lAppend n l b a O
  else if name == ("insert" : Str) then lInsert n l b a O
  else none
noncomputable def tGet (es : List (Int × List Nat)) (i : Int) (d : V) : V := match es.lookup i with
  | some x => .str x
  | none => d

noncomputable def methT (G : Glob) (name : Str) (ad : Addr) (a : List V) : Option V :=
  if name == ("get" : Str) then (G.tabs.lookup ad).bind fun es => match a with
    | [v] => (match v with | .int i => if 0 ≤ i && i.toNat < 2 ^ 60 then some (tGet es i .none) else none | _ => none)
    | [v, d] => (match v with | .int i => if 0 ≤ i && i.toNat < 2 ^ 60 then some (tGet es i d) else none | _ => none)
    | _ => none
  else none
set_option backward.match.sparseCases true

inductive LfI {α : Type} (o : Option α) (Q : α → Prop) : Prop where
  | mk (v : α) (h : o = some v) (q : Q v) : LfI o Q

noncomputable def Lf {α : Type} (o : Option α) (Q : α → Prop) : Prop := match o with
  | some v => Q v
  | none => False
theorem Lf.out {α : Type} {o : Option α} {Q : α → Prop} (h : Lf o Q) : LfI o Q := match o, h with
  | some v, h => ⟨v, rfl, h⟩

theorem Lf.of {α : Type} {o : Option α} {Q : α → Prop} {v : α} (h : o = some v) (q : Q v) : Lf o Q := by subst h; exact q
noncomputable def sel (t : Bool) (A B : Prop) : Prop := match t with
  | true => A
  | false => B
noncomputable def Gd (t : Bool) (A : Prop) : Prop := match t with
  | true => A
  | false => False
theorem Gd.out {t : Bool} {A : Prop} (h : Gd t A) : t = true ∧ A := match t, h with
  | true, h => ⟨rfl, h⟩
structure WI where
  e : PySem.Expr → List Fr → Nat → (V → Objs → Prop) → Objs → Prop
  l : PySem.Expr → List Fr → Nat → (V → Objs → Prop) → Objs → Prop
  t : PySem.Expr → List Fr → Nat → (Bool → Objs → Prop) → Objs → Prop
  s : Stmt → List Fr → Nat → (Fl → List Fr → Objs → Prop) → Objs → Prop
  c : V → List V → List (Str × V) → Nat → (V → Objs → Prop) → Objs → Prop

noncomputable def getFree : List Fr → Str → Option V
  | [], _ => none
  | f :: r, x => (f.names.lookup x).bind fun k => match k with
    | .cell => f.get x
    | .free => getFree r x
    | _ => none
noncomputable def getV (G : Glob) (F : List Fr) (x : Str) : Option V := match F with
  | [] => none
  | f :: r => (f.names.lookup x).bind fun k => match k with
    | .local => f.get x
    | .cell => f.get x
    | .free => getFree r x
    | .globalImplicit => G.names.lookup x
    | _ => none
noncomputable def setVar : Vars → Str → V → Vars
  | [], x, v => [(x, some v)]
  | e :: r, x, v => if e.1 == x then (x, some v) :: r else e :: setVar r x v
noncomputable def ownK (k : Option NameKind) : Bool := match k with
  | some .local => true
  | some .cell => true
  | _ => false

noncomputable def pad (names : Names) (vars : List (Str × V)) : Vars := vars.map (fun x => (x.1, some x.2)) ++ (names.filter fun x => ownK (some x.2) && (vars.lookup x.1).isNone).map fun x => (x.1, none)
noncomputable def setTop (F : List Fr) (x : Str) (v : V) : Option (List Fr) := match F with
  | [] => none
  | f :: r => if ownK (f.names.lookup x) then some (⟨f.names, setVar f.vars x v, f.lam⟩ :: r) else none
set_option backward.match.sparseCases false
noncomputable def setAll : List Fr → List PySem.Expr → List V → Option (List Fr)
  | F, [], [] => some F
  | F, e :: r, v :: vs => (match e with
    | .Name x _ => (setTop F x v).bind fun F1 => setAll F1 r vs
    | _ => none)
  | _, _, _ => none
noncomputable def setTgt (F : List Fr) (t : PySem.Expr) (v : V) : Option (List Fr) := match t with
  | .Name x _ => setTop F x v
  | .Tuple es _ _ => (match v with
    | .tup vs => setAll F es vs
    | _ => none)
  | _ => none

noncomputable def starFree : List PySem.Expr → Bool
  | [] => true
  | e :: r => match e with
    | .Starred _ _ => false
    | _ => starFree r
noncomputable def okEs (es : List PySem.Expr) : Bool := starFree es && decide (es.length ≤ 1000)
noncomputable def okNm (x : Str) : Bool := !(x == ("__debug__" : Str) || x == ("__classdict__" : Str))
noncomputable def noSet (e : PySem.Expr) : Bool := match e with
  | .Set _ _ _ => false
  | _ => true
noncomputable def okBase (e : PySem.Expr) : Bool := match e with
  | .Call f args ks _ => (match f with
    | .Name _ _ => !(args.isEmpty && ks.isEmpty)
    | _ => true)
  | _ => true
set_option backward.match.sparseCases true
noncomputable def okScope (sc : Scope) : Bool := sc.kind == .function && !sc.isGenerator && !sc.isCoroutine && sc.names.all fun x => x.2 == .free || x.2 == .globalImplicit || (x.2 == .local || x.2 == .cell) && sc.names.lookup x.1 == some x.2
noncomputable def freeAt (F : List Fr) (x : Str) : Bool := match F with
  | [] => false
  | f :: _ => match f.names.lookup x with
    | some .cell => true
    | some .free => true
    | _ => false
noncomputable def freeOk (F : List Fr) (names : Names) : Bool := names.all fun x => x.2 != .free || freeAt F x.1
noncomputable def okLam (args : Arguments) (sc : Scope) : Bool := args.defaults.isEmpty && args.kw_defaults.isEmpty && args.posonlyargs.isEmpty && args.kwonlyargs.isEmpty && args.vararg.isNone && args.kwarg.isNone && okScope sc && !sc.names.any (fun x => x.2 == .free)
noncomputable def lamFree (F : List Fr) : Bool := F.all fun f => !f.lam
noncomputable def kindAt (F : List Fr) (x : Str) : Option NameKind := match F with
  | [] => none
  | f :: _ => f.names.lookup x
noncomputable def swapNames (kind : Str → Option NameKind) (line : Nat) (ts : List PySem.Expr) : List Str := ts.filterMap fun t => match t with
  | .Name id pos => if kind id == some .local && pos.line == line then some id else none
  | _ => none
noncomputable def starB (vs : List PySem.Expr) : Bool := vs.any fun e => match e with
  | .Starred .. => true
  | _ => false
noncomputable def swapB (kind : Str → Option NameKind) (ts : List PySem.Expr) (e : PySem.Expr) : Option (Option (List Str)) := match e with
  | .Tuple vs _ _ =>
    if !(ts.length == 2 || ts.length == 3) || vs.length != ts.length then some none
    else if starB vs then some none
    else
      if (swapNames kind ((ts.head?.map (·.pos.line)).getD 0) ts).length != ts.length || (swapNames kind ((ts.head?.map (·.pos.line)).getD 0) ts).eraseDups.length != (swapNames kind ((ts.head?.map (·.pos.line)).getD 0) ts).length then some none
      else if vs.all (foldedForSure 8) then some none
      else if vs.all (constantsAlone 8) then none
      else some (some (swapNames kind ((ts.head?.map (·.pos.line)).getD 0) ts))
  | _ => some none
set_option backward.match.sparseCases false
noncomputable def okTargets (F : List Fr) (ts : List PySem.Expr) : Bool := ts.all fun t => match t with
  | .Name x _ => ownK (kindAt F x)
  | _ => true
noncomputable def setNames (F : List Fr) : List Str → List V → Option (List Fr)
  | [], [] => some F
  | x :: r, v :: vs => (setTop F x v).bind fun F1 => setNames F1 r vs
  | _, _ => none
noncomputable def noComp (e : PySem.Expr) : Bool := match e with
  | .ListComp .. => false
  | .SetComp .. => false
  | .DictComp .. => false
  | _ => true
set_option backward.match.sparseCases true
noncomputable def pushAt (O : Objs) (m : Nat) (v : V) : Option Objs := (listAt O m).bind fun l => if lenOk l.length then some (O.set m (.list (l ++ [v]))) else none
section
variable (G : Glob) (J : WI)
noncomputable def wes (f : PySem.Expr → List Fr → Nat → (V → Objs → Prop) → Objs → Prop) : List PySem.Expr → List Fr → Nat → (List V → Objs → Prop) → Objs → Prop
  | [], _, _, Q, O => Q [] O
  | e :: r, F, b, Q, O => f e F b (fun v O1 => wes f r F b (fun vs O2 => Q (v :: vs) O2) O1) O
noncomputable def wOpt (e : Option PySem.Expr) (F : List Fr) (b : Nat) (Q : V → Objs → Prop) (O : Objs) : Prop := match e with
  | none => Q .none O
  | some e => J.e e F b Q O
noncomputable def wks : List Keyword → List Fr → Nat → (List (Str × V) → Objs → Prop) → Objs → Prop
  | [], _, _, Q, O => Q [] O
  | k :: r, F, b, Q, O => match k.arg with
    | some n => J.e k.value F b (fun v O1 => wks r F b (fun vs O2 => Q ((n, v) :: vs) O2) O1) O
    | none => False
noncomputable def wAnd (op : BoolOp) : List PySem.Expr → List Fr → Nat → (V → Objs → Prop) → Objs → Prop
  | [], _, _, _, _ => False
  | e :: r, F, b, Q, O => J.e e F b (fun v O1 => match r with
    | [] => Q v O1
    | _ => Lf (truthV O1 v) fun t => sel (match op with | .And => t | .Or => !t) (wAnd op r F b Q O1) (Q v O1)) O
noncomputable def wTs (op : BoolOp) : List PySem.Expr → List Fr → Nat → (Bool → Objs → Prop) → Objs → Prop
  | [], _, _, Q, O => Q (match op with | .And => true | .Or => false) O
  | e :: r, F, b, Q, O => J.t e F b (fun t O1 => sel (match op with | .And => t | .Or => !t) (wTs op r F b Q O1) (Q t O1)) O
noncomputable def wChain (a : V) : List CmpOp → List PySem.Expr → List Fr → Nat → (Bool → Objs → Prop) → Objs → Prop
  | op :: ops, e :: es, F, b, Q, O => Gd (!behindInMarks op e) (J.l e F b (fun v O1 => Lf (cmpV G O1 op a v) fun t => match ops with
    | [] => Q t O1
    | _ => sel t (wChain v ops es F b Q O1) (Q false O1)) O)
  | _, _, _, _, _, _ => False
noncomputable def xs : List Stmt → List Fr → Nat → (Fl → List Fr → Objs → Prop) → Objs → Prop
  | [], F, _, Q, O => Q .next F O
  | s :: r, F, b, Q, O => J.s s F b (fun f F1 O1 => match f with
    | .next => xs r F1 b Q O1
    | f => Q f F1 O1) O
noncomputable def whileW (test : PySem.Expr) (body : List Stmt) (b : Nat) (Q : Fl → List Fr → Objs → Prop) : Nat → List Fr → Objs → Prop
  | 0, _, _ => False
  | n + 1, F, O => J.t test F b (fun t O1 => sel t (xs J body F b (fun f F1 O2 => match f with
      | .next => whileW test body b Q n F1 O2
      | .cont => whileW test body b Q n F1 O2
      | .brk => Q .next F1 O2
      | .ret v => Q (.ret v) F1 O2) O1) (Q .next F O1)) O
structure WHILE (test : PySem.Expr) (body : List Stmt) (b : Nat) (Q : Fl → List Fr → Objs → Prop) (F : List Fr) (O : Objs) : Prop where
  is : whileW J test body b Q 300 F O
noncomputable def forW (tgt : PySem.Expr) (body orelse : List Stmt) (b : Nat) (Q : Fl → List Fr → Objs → Prop) : Nat → Src → List Fr → Objs → Prop
  | 0, _, _, _ => False
  | n + 1, src, F, O => Lf (nextOf O src) fun x => match x with
    | none => xs J orelse F b Q O
    | some p => Lf (setTgt F tgt p.1) fun F1 => xs J body F1 b (fun f F2 O2 => match f with
      | .next => forW tgt body orelse b Q n p.2 F2 O2
      | .cont => forW tgt body orelse b Q n p.2 F2 O2
      | .brk => Q .next F2 O2
      | .ret v => Q (.ret v) F2 O2) O
structure FOR (tgt : PySem.Expr) (body orelse : List Stmt) (b : Nat) (Q : Fl → List Fr → Objs → Prop) (src : Src) (F : List Fr) (O : Objs) : Prop where
  is : forW J tgt body orelse b Q 300 src F O
noncomputable def wIfs : List PySem.Expr → List Fr → Nat → (Bool → Objs → Prop) → Objs → Prop
  | [], _, _, Q, O => Q true O
  | e :: r, F, b, Q, O => J.t e F b (fun t O1 => sel t (wIfs r F b Q O1) (Q false O1)) O
noncomputable def compW (tgt : PySem.Expr) (ifs : List PySem.Expr) (elt : PySem.Expr) (m : Nat) (Q : Objs → Prop) : Nat → Src → List Fr → Objs → Prop
  | 0, _, _, _ => False
  | n + 1, src, F, O => Lf (nextOf O src) fun x => match x with
    | none => Q O
    | some p => Lf (setTgt F tgt p.1) fun F1 => wIfs J ifs F1 m (fun t O1 => sel t (J.e elt F1 m (fun v O2 => Lf (pushAt O2 m v) fun O3 => compW tgt ifs elt m Q n p.2 F1 O3) O1) (compW tgt ifs elt m Q n p.2 F1 O1)) O
structure COMP (tgt : PySem.Expr) (ifs : List PySem.Expr) (elt : PySem.Expr) (m : Nat) (Q : Objs → Prop) (src : Src) (F : List Fr) (O : Objs) : Prop where
  is : compW J tgt ifs elt m Q 300 src F O
noncomputable def isEnum (e : PySem.Expr) : Option (Str × PySem.Expr) := match e with
  | .Call f args ks _ => (match f with
    | .Name x _ => if x == ("enumerate" : Str) then (match args with
      | [a] => if ks.isEmpty then some (x, a) else none
      | _ => none) else none
    | _ => none)
  | _ => none
noncomputable def isTup (e : PySem.Expr) : Bool := match e with
  | .Tuple _ _ _ => true
  | _ => false
set_option backward.match.sparseCases false
noncomputable def enumV (v : V) : Option Src := match v with
  | .lst l => if lenOk l.length then some (.items (l.zipIdx.map fun y => .tup [.int y.2, y.1])) else none
  | _ => none
noncomputable def isEnumT (v : V) : Bool := match v with
  | .cst d => (match d with
    | .type t => t == "enumerate"
    | _ => false)
  | _ => false
set_option backward.match.sparseCases true
noncomputable def wSrc (tgt e : PySem.Expr) (F : List Fr) (b : Nat) (Q : Src → Objs → Prop) (O : Objs) : Prop := match isEnum e with
  | some p => Gd (starFree [p.2] && isTup tgt) (Lf (getV G F p.1) fun f => Gd (isEnumT f) (J.l p.2 F b (fun v O1 => Lf (enumV v) fun s => Q s O1) O))
  | none => Gd (noSet e) (J.l e F b (fun v O1 => Lf (srcOf O1 v) fun s => Q s O1) O)
noncomputable def lcEnd (m : Nat) (Q : V → Objs → Prop) (O : Objs) : Prop := Lf (listAt O m) fun l => sel (pures l) (Q (.lst l) (O.take m)) (Q (.ref m) O)
noncomputable def wLc (elt : PySem.Expr) (gs : List Comprehension) (scope : Scope) (F : List Fr) (b : Nat) (Q : V → Objs → Prop) (O : Objs) : Prop := match gs with
  | [g] => Gd (g.is_async == 0 && okScope scope && freeOk F scope.names) (wSrc G J g.target g.iter F b (fun src O1 => COMP J g.target g.ifs elt O1.length (lcEnd O1.length Q) src (⟨scope.names, pad scope.names [], false⟩ :: F) (O1 ++ [.list []])) O)
  | _ => False

inductive MT where
  | str | list | dict
noncomputable def MT.ty : MT → String
  | .str => "str"
  | .list => "list"
  | .dict => "dict"
set_option backward.match.sparseCases false
noncomputable def selfTy (G : Glob) (O : Objs) (v : V) : Option MT := match v with
  | .str _ => some .str
  | .lst _ => some .list
  | .ref n => (listAt O n).map fun _ => .list
  | .cst d => (match d with
    | .ref ad => if (G.tabs.lookup ad).isSome then some .dict else none
    | _ => none)
  | _ => none
set_option backward.match.sparseCases true
noncomputable def methId (name : Str) (T : MT) : Option String := match T with
  | .str => if name == ("split" : Str) then some "str.split" else if name == ("join" : Str) then some "str.join" else if name == ("startswith" : Str) then some "str.startswith" else if name == ("endswith" : Str) then some "str.endswith"
    else if name == ("find" : Str) then some "str.find" else if name == ("lower" : Str) then some "str.lower" else none
  | .list => if name == ("append" : Str) then some "list.append" else if name == ("insert" : Str) then some "list.insert" else none
  | .dict => if name == ("get" : Str) then some "dict.get" else none
noncomputable def methV (name : Str) (v : V) (a : List V) (b : Nat) (O : Objs) : Option (V × Objs) := match v with
  | .str x => methS name x a O
  | .ref n => (listAt O n).bind fun l => methL name n l a b O
  | .cst d => (match d with
    | .ref ad => (methT G name ad a).map fun v => (v, O)
    | _ => none)
  | _ => none
set_option backward.match.sparseCases false
noncomputable def isStr (v : V) : Bool := match v with
  | .str _ => true
  | _ => false
set_option backward.match.sparseCases true
noncomputable def wMeth (o : PySem.Expr) (name : Str) (apos : Pos) (args : List PySem.Expr) (pos : Pos) (F : List Fr) (b : Nat) (Q : V → Objs → Prop) (O : Objs) : Prop :=
  Gd (apos.endLine == pos.line && okBase o && starFree args && decide (args.length < 20)) (J.e o F b (fun v O1 => Lf ((selfTy G O1 v).bind (methId name)) fun _ => wes (match isStr v with | true => J.l | false => J.e) args F b (fun a O2 => Lf (methV G name v a b O2) fun r => Q r.1 r.2) O1) O)
set_option backward.match.sparseCases false
noncomputable def isFn (v : V) : Option Bool := match v with
  | .cst d => (match d with
    | .builtin _ => some false
    | .type _ => some false
    | .ref ad => if (G.fns.lookup ad).isSome then some true else none
    | _ => none)
  | .lam _ _ _ => some true
  | _ => none
theorem Gd.of {t : Bool} {A : Prop} (h : t = true) (a : A) : Gd t A := by subst h; exact a
theorem Gd.nil {α : Type} {l : List α} {A : Prop} (h : Gd l.isEmpty A) : l = [] ∧ A := match l, h with
  | [], h => ⟨rfl, h⟩

structure CALL (f : V) (a : List V) (ks : List (Str × V)) (b : Nat) (Q : V → Objs → Prop) (O : Objs) : Prop where
  is : J.c f a ks b Q O
set_option backward.match.sparseCases true
noncomputable def wCall (f : PySem.Expr) (args : List PySem.Expr) (ks : List Keyword) (pos : Pos) (F : List Fr) (b : Nat) (Q : V → Objs → Prop) (O : Objs) : Prop := match f with
  | .Attribute o name apos => Gd ks.isEmpty (wMeth G J o name apos args pos F b Q O)
  | .Name x p => Gd (starFree args && ks.all fun k => k.arg.isSome) (J.e (.Name x p) F b (fun v O1 => Lf (isFn G v) fun t => sel t (wes J.e args F b (fun a O2 => wks J ks F b (fun k O3 => CALL J v a k b Q O3) O2) O1) (Gd ks.isEmpty (wes J.l args F b (fun a O2 => J.c v a [] b Q O2) O1))) O)
  | _ => False
noncomputable def stepE (e : PySem.Expr) (F : List Fr) (b : Nat) (Q : V → Objs → Prop) (O : Objs) : Prop := match e with
  | .Constant c _ _ => (match c with
    | .none => Q .none O
    | .bool c => Q (.bool c) O
    | .int i => Q (.int i) O
    | .str x => Q (.str x.cps.toList) O
    | _ => False)
  | .Name x _ => Gd (okNm x) (Lf (getV G F x) fun v => Q v O)
  | .BoolOp op vs _ => wAnd J op vs F b Q O
  | .BinOp l op r _ => J.l l F b (fun x O1 => J.l r F b (fun y O2 => Lf (binV O2 op x y) fun v => Q v O2) O1) O
  | .UnaryOp op x _ => (match op with
    | .Not => J.e x F b (fun v O1 => Lf (truthV O1 v) fun t => Q (.bool (!t)) O1) O
    | .USub => J.e x F b (fun v O1 => Lf (negV v) fun u => Q u O1) O
    | _ => False)
  | .IfExp t x y _ => J.t t F b (fun c O1 => sel c (J.e x F b Q O1) (J.e y F b Q O1)) O
  | .Lambda args body scope _ => Gd (okLam args scope && lamFree F) (Q (.lam args body scope) O)
  | .List es _ => Gd (okEs es) (wes J.l es F b (fun vs O1 => Q (.ref O1.length) (O1 ++ [.list vs])) O)
  | .Tuple es _ _ => Gd (okEs es) (wes J.e es F b (fun vs O1 => Q (.tup vs) O1) O)
  | .ListComp elt gs scope _ => wLc G J elt gs scope F b Q O
  | .Compare l ops rs _ => (match ops with
    | [op] => (match rs with
      | [r] => Gd (!behindInMarks op r) (J.l l F b (fun x O1 => J.l r F b (fun y O2 => Lf (cmpV G O2 op x y) fun t => Q (.bool t) O2) O1) O)
      | _ => False)
    | _ => False)
  | .Call f args ks pos => wCall G J f args ks pos F b Q O
  | .Subscript v i _ => (match i with
    | .Slice lo hi st _ => J.e v F b (fun x O1 => wOpt J lo F b (fun l O2 => wOpt J hi F b (fun h O3 => wOpt J st F b (fun s O4 => Lf (sliceV O4 x l h s) fun r => Q r O4) O3) O2) O1) O
    | i => J.e v F b (fun x O1 => J.e i F b (fun y O2 => Lf (indexV O2 x y) fun r => Q r O2) O1) O)
  | _ => False
noncomputable def stepL (e : PySem.Expr) (F : List Fr) (b : Nat) (Q : V → Objs → Prop) (O : Objs) : Prop := match e with
  | .List es _ => Gd (okEs es) (wes J.l es F b (fun vs O1 => Q (.lst vs) O1) O)
  | e => stepE G J e F b Q O
noncomputable def stepT (e : PySem.Expr) (F : List Fr) (b : Nat) (Q : Bool → Objs → Prop) (O : Objs) : Prop := match e with
  | .UnaryOp op x _ => (match op with
    | .Not => J.t x F b (fun t O1 => Q (!t) O1) O
    | _ => stepE G J e F b (fun v O1 => Lf (truthV O1 v) fun t => Q t O1) O)
  | .BoolOp op vs _ => wTs J op vs F b Q O
  | .IfExp t x y _ => J.t t F b (fun c O1 => sel c (J.t x F b Q O1) (J.t y F b Q O1)) O
  | .Compare l ops rs _ => Gd (ops.length == rs.length) (J.l l F b (fun v O1 => wChain G J v ops rs F b Q O1) O)
  | e => stepE G J e F b (fun v O1 => Lf (truthV O1 v) fun t => Q t O1) O
set_option backward.match.sparseCases false
noncomputable def plainV (v : V) : Bool := match v with
  | .none => true
  | .int _ => true
  | .bool _ => true
  | .str _ => true
  | _ => false
set_option backward.match.sparseCases true
noncomputable def wTgt (es : List PySem.Expr) (e : PySem.Expr) (F : List Fr) (v : V) : Option (List Fr) :=
  if okTargets F es then (swapB (kindAt F) es e).bind fun sw => match v with
    | .tup vs => (match sw with
      | none => setAll F es vs
      | some names => if vs.length == names.length then setNames F names.reverse vs.reverse else none)
    | _ => none
  else none
set_option backward.match.sparseCases false
noncomputable def delV (O : Objs) (o i : V) : Option Objs := match o with
  | .ref n => (match i with
    | .int k => (listAt O n).bind fun l => if lenOk l.length && kOk k then (seqIndex? k l.length).map fun j => O.set n (.list (l.eraseIdx j)) else none
    | _ => none)
  | _ => none
set_option backward.match.sparseCases true
noncomputable def augV (O : Objs) (op : Operator) (a c : V) : Option V := match a with
  | .int _ => (match c with
    | .int _ => binV O op a c
    | _ => none)
  | _ => none
noncomputable def wAssign (t : PySem.Expr) (e : PySem.Expr) (F : List Fr) (b : Nat) (Q : Fl → List Fr → Objs → Prop) (O : Objs) : Prop := match t with
  | .Name x _ => (match e with
    | .ListComp elt gs scope _ => wLc G J elt gs scope F b (fun v O1 => Lf (setTop F x v) fun F1 => Q .next F1 O1) O
    | e => Gd (noComp e) (J.e e F b (fun v O1 => Lf (setTop F x v) fun F1 => Q .next F1 O1) O))
  | .Tuple es _ _ => Gd (noComp e) (J.e e F b (fun v O1 => Lf (wTgt es e F v) fun F1 => Q .next F1 O1) O)
  | _ => False
noncomputable def stepS (st : Stmt) (F : List Fr) (b : Nat) (Q : Fl → List Fr → Objs → Prop) (O : Objs) : Prop := match st with
  | .Expr e _ => Gd (noComp e) (J.e e F b (fun v O1 => Gd (plainV v) (Q .next F O1)) O)
  | .Pass _ => Q .next F O
  | .Break _ => Q .brk F O
  | .Return e _ => (match e with
    | some e => J.e e F b (fun v O1 => Q (.ret v) F O1) O
    | none => False)
  | .Assign ts e _ => (match ts with
    | [t] => wAssign G J t e F b Q O
    | _ => False)
  | .AugAssign t op e _ => (match t with
    | .Name x _ => Gd (okNm x) (Lf (getV G F x) fun a => J.e e F b (fun c O1 => Lf (augV O1 op a c) fun v => Lf (setTop F x v) fun F1 => Q .next F1 O1) O)
    | _ => False)
  | .Delete ts _ => (match ts with
    | [t] => (match t with
      | .Subscript o i _ => J.e o F b (fun v O1 => J.e i F b (fun k O2 => Lf (delV O2 v k) fun O3 => Q .next F O3) O1) O
      | _ => False)
    | _ => False)
  | .If t x y _ => J.t t F b (fun c O1 => sel c (xs J x F b Q O1) (xs J y F b Q O1)) O
  | .While t body orelse _ => Gd orelse.isEmpty (WHILE J t body b Q F O)
  | .For tgt it body orelse _ => wSrc G J tgt it F b (fun src O1 => FOR J tgt body orelse b Q src F O1) O
  | .Assert t _ _ => J.t t F b (fun c O1 => Gd c (Q .next F O1)) O
  | _ => False
noncomputable def noFree (names : Names) : Bool := !names.any (fun x => x.2 == .free)
noncomputable def wFn (fi : FnI) (vars : List (Str × V)) (Q : V → Objs → Prop) (O : Objs) : Prop := Gd (okVars fi.scope.names vars && noFree fi.scope.names) (xs J fi.body [⟨fi.scope.names, pad fi.scope.names vars, false⟩] O.length (fun f _ O1 => match f with
  | .ret v => Lf (leave O.length v O1) fun r => Q r (O1.take O.length)
  | .next => Q .none (O1.take O.length)
  | _ => False) O)
noncomputable def stepC (f : V) (a : List V) (ks : List (Str × V)) (b : Nat) (Q : V → Objs → Prop) (O : Objs) : Prop := match f with
  | .cst d => (match d with
    | .ref ad => Lf (G.fns.lookup ad) fun fi => Lf (bindV fi.params fi.dfl fi.kwd a ks) fun vars => wFn J fi vars Q O
    | .builtin id => Gd ks.isEmpty (Lf (callB (Str.ofString id) a b O) fun r => Q r.1 r.2)
    | .type id => Gd ks.isEmpty (Lf (callY (Str.ofString id) a b O) fun r => Q r.1 r.2)
    | _ => False)
  | .lam args body scope => Gd ks.isEmpty (Lf (bindV args [] [] a []) fun vars => Gd (okVars scope.names vars && okScope scope && noFree scope.names) (J.e body [⟨scope.names, pad scope.names vars, true⟩] O.length (fun v O1 => Lf (leave O.length v O1) fun r => Q r (O1.take O.length)) O))
  | _ => False
noncomputable def WI.bot : WI := ⟨fun _ _ _ _ _ => False, fun _ _ _ _ _ => False, fun _ _ _ _ _ => False, fun _ _ _ _ _ => False, fun _ _ _ _ _ _ => False⟩
noncomputable def W : Nat → WI
  | 0 => WI.bot
  | n + 1 => ⟨stepE G (W n), stepL G (W n), stepT G (W n), stepS G (W n), stepC G (W n)⟩
end
set_option backward.match.sparseCases false
noncomputable def stAt (l : List Stmt) (i : Nat) : Stmt := l.getD i (.Pass default)
noncomputable def ifX : Stmt → List Stmt
  | .If _ x _ _ => x
  | _ => []
noncomputable def ifY : Stmt → List Stmt
  | .If _ _ x _ => x
  | _ => []
noncomputable def wT : Stmt → PySem.Expr
  | .While t _ _ _ => t
  | _ => default
noncomputable def wB : Stmt → List Stmt
  | .While _ x _ _ => x
  | _ => []
noncomputable def foT : Stmt → PySem.Expr
  | .For t _ _ _ _ => t
  | _ => default
noncomputable def foB : Stmt → List Stmt
  | .For _ _ b _ _ => b
  | _ => []
noncomputable def foE : Stmt → List Stmt
  | .For _ _ _ e _ => e
  | _ => []
noncomputable abbrev u (s : String) : Str := Str.ofString s
noncomputable section
noncomputable def fnI (k : Nat) (dfl : List V) (kwd : List (Str × V)) : FnI := ⟨fArgs (stm k), fBody (stm k), fScope (stm k), dfl, kwd⟩
theorem fnI_params (k d w) : (fnI k d w).params = fArgs (stm k) := rfl
theorem fnI_body (k d w) : (fnI k d w).body = fBody (stm k) := rfl
theorem fnI_scope (k d w) : (fnI k d w).scope = fScope (stm k) := rfl
theorem fnI_dfl (k d w) : (fnI k d w).dfl = d := rfl
theorem fnI_kwd (k d w) : (fnI k d w).kwd = w := rfl

noncomputable def G3 : Glob where
  names := [(u "_ellipsis_match", .cst (.ref 21)),
    (u "insort_right", .cst (.ref 30)),
    (u "bisect_right", .cst (.ref 39)),
    (u "insort_left", .cst (.ref 48)),
    (u "bisect_left", .cst (.ref 57)),
    (u "pretty_flags", .cst (.ref 65)),
    (u "_parse_varint", .cst (.ref 72)),
    (u "in_table_b1", .cst (.ref 90)),
    (u "map_table_b3", .cst (.ref 136)),
    (u "_law_prepared", .cst (.ref 141)),
    (u "_law_own", .cst (.ref 146)),
    (u "_law_common", .cst (.ref 153)),
    (u "_law_octets", .cst (.ref 158)),
    (u "_law_expert", .cst (.ref 163)),
    (u "_law_explored", .cst (.ref 168)),
    (u "law", .cst (.ref 173)),
    (u "COMPILER_FLAG_NAMES", .cst (.ref 58)),
    (u "b1_set", .cst (.ref 80)),
    (u "b3_exceptions", .cst (.ref 91)),
    (u "ELLIPSIS_MARKER", .str [46, 46, 46]),
    (u "len", .cst (.builtin "len")),
    (u "hex", .cst (.builtin "hex")),
    (u "next", .cst (.builtin "next")),
    (u "ord", .cst (.builtin "ord")),
    (u "chr", .cst (.builtin "chr")),
    (u "abs", .cst (.builtin "abs")),
    (u "sum", .cst (.builtin "sum")),
    (u "sorted", .cst (.builtin "sorted")),
    (u "min", .cst (.builtin "min")),
    (u "iter", .cst (.builtin "iter")),
    (u "range", .cst (.type "range")),
    (u "list", .cst (.type "list")),
    (u "enumerate", .cst (.type "enumerate"))]
  fns := [(21, fnI 2 [] []), (30, fnI 4 [.int 0, .none] [(u "key", .none)]), (39, fnI 5 [.int 0, .none] [(u "key", .none)]), (48, fnI 6 [.int 0, .none] [(u "key", .none)]), (57, fnI 7 [.int 0, .none] [(u "key", .none)]), (65, fnI 10 [] []), (72, fnI 11 [] []), (90, fnI 14 [] []), (136, fnI 16 [] []), (141, fnI 18 [] []), (146, fnI 19 [] []), (153, fnI 20 [] []), (158, fnI 21 [] []), (163, fnI 22 [] []), (168, fnI 23 [] []), (173, fnI 24 [] [])]
  tabs := [(58, [(1, (u "OPTIMIZED").cps.toList), (2, (u "NEWLOCALS").cps.toList), (4, (u "VARARGS").cps.toList), (8, (u "VARKEYWORDS").cps.toList), (16, (u "NESTED").cps.toList), (32, (u "GENERATOR").cps.toList), (64, (u "NOFREE").cps.toList), (128, (u "COROUTINE").cps.toList), (256, (u "ITERABLE_COROUTINE").cps.toList), (512, (u "ASYNC_GENERATOR").cps.toList)]),
    (91, itemsB.map fun p => (p.1.1, p.1.2.cps.toList))]
  sets := [(80, [173, 847, 6150, 6155, 6156, 6157, 8203, 8204, 8205, 8288, 65279] ++ (List.range 16).map fun (k : Nat) => (65024 : Int) + k)]
noncomputable def tabsA : List Addr := [16, 25, 34, 43, 52, 60, 67, 85, 131, 138, 143, 148, 155, 160, 165, 170]
noncomputable def H0 (P : Params) : Heap := hideAll (HE P) tabsA

@[irreducible] noncomputable def PG : Program := PySem.Challenge.rw_ta0099_03.row.prog
@[irreducible] noncomputable def GG : Glob := G3
@[irreducible] noncomputable def HW (w : World) : Heap := H0 w.params
end
set_option backward.match.sparseCases true
set_option backward.match.sparseCases false

noncomputable abbrev MW (w : World) : Model := model PG w
noncomputable def noE : Value → Shared → Prop := fun _ _ => False
noncomputable def topV (v : Value) : V := match v with
  | .none => .none
  | .bool b => .bool b
  | .int i _ => .int i
  | .str x _ => .str x.cps.toList
  | v => .cst v
theorem topV_is (h : Heap) (κ : Pl) : ∀ cv : Value, RV h κ (topV cv) cv := fun cv => match cv with
  | .none => rfl
  | .bool _ => rfl
  | .int _ _ => ⟨_, rfl⟩
  | .str x t => ⟨t, by rw [S_toList]⟩
  | .float .. => rfl
  | .bytes .. => rfl
  | .ref _ => rfl
  | .type _ => rfl
  | .builtin _ => rfl
  | .ellipsis => rfl
  | .notImplemented => rfl
structure FnOkH (h : Heap) (a : Addr) (fi : FnI) (o : Obj) (fd : FuncData) : Prop where
  get : h.get? a = some o
  data : o.data = .func fd
  params : fd.params = fi.params
  body : fd.body = .stmts fi.body
  scope : fd.scope = fi.scope
  glob : fd.globals = mainGlobals
  blt : fd.builtins = builtinsNs
  clos : fd.closure = []
  crec : h.CodeRec fd.code fd.qualname
  cls : o.cls = .type "function"
  kind : fi.scope.kind = .function
  gen : fi.scope.isGenerator = false
  cor : fi.scope.isCoroutine = false
  code : ∃ c p, fd.code = .ref c ∧ CodeHd h c p ∧ p < h.objs.size ∧ h.get? p = none
  dfl : fi.dfl = [] ∧ fd.defaults = .none ∨ ∃ t vals, fd.defaults = .ref t ∧ IsTup h t vals ∧ fi.dfl = vals.toList.map topV
  kwd : fi.kwd = [] ∧ fd.kwdefaults = .none ∨ ∃ d m, fd.kwdefaults = .ref d ∧ h.Ns d m ∧ ∀ x, (m x).map topV = fi.kwd.lookup x
noncomputable abbrev FnOk (w : World) := FnOkH (HW w)

structure Base (w : World) : Prop where
  nolimit : (HW w).NoLimit
  bmain : ∃ mg, (HW w).Ns mainGlobals mg ∧ ∀ p, (HW w).get? p = none → (HW w).BuiltinsAt mg p
  sysm : ∃ o, (HW w).get? sysModules = some o
  globals : ∃ mg mb, (HW w).Ns mainGlobals mg ∧ (HW w).Ns builtinsNs mb ∧ ∀ x v, GG.names.lookup x = some v → ∃ cv, v = topV cv ∧ (mg x = some cv ∨ (mg x = none ∧ mb x = some cv))
  fns : ∀ a fi, GG.fns.lookup a = some fi → ∃ o fd, FnOk w a fi o fd

structure Ok (A : Around) (n : Nat) : Prop where
  dep : A.depth + n ≤ 690
  uni : A.units + 10 * n ≤ 9800
  hd : A.handled = none
theorem Ok.dn {A : Around} {n : Nat} (h : Ok A (n + 1)) : Ok A n := ⟨Nat.le_of_succ_le h.dep, Nat.le_trans (Nat.add_le_add_left (Nat.mul_le_mul_left 10 (Nat.le_succ n)) _) h.uni, h.hd⟩

structure EnvT (p : FP) (r : List FP) (env : Env) : Prop where
  L : env.locals = p.L
  loc : ∀ x, p.names.lookup x = some .local → env.kindOf x = some .local
  cell : ∀ x, p.names.lookup x = some .cell → env.kindOf x = some .cell ∧ ∃ c, p.cells.lookup x = some c ∧ env.cells.lookup x = some c
  free : ∀ x, p.names.lookup x = some .free → (env.kindOf x = some .cell ∨ env.kindOf x = some .free) ∧ ∃ c, env.cells.lookup x = some c ∧ cellAt r x = some c
  glb : ∀ x, p.names.lookup x = some .globalImplicit → env.kindOf x = some .globalImplicit
noncomputable def lamFreeP (fr : List FP) : Bool := fr.all fun p => !p.lam
structure EnvR (w : World) (fr : List FP) (env : Env) : Prop where
  kind : env.scope.kind = .function
  glob : env.globals = mainGlobals
  blt : env.builtins = builtinsNs
  code : lamFreeP fr = true → ∃ c p, env.code = .ref c ∧ CodeHd (HW w) c p ∧ p < (HW w).objs.size ∧ (HW w).get? p = none
  top : ∃ p r, fr = p :: r ∧ EnvT p r env

structure St (w : World) (A : Around) (n b : Nat) (κ : Pl) (F : List Fr) (O : Objs) (s : Shared) (env : Env) : Prop where
  ok : Ok A n
  rel : Rel (HW w) κ F O s.heap
  env : EnvR w κ.fr env
  le : b ≤ O.length
noncomputable abbrev GoW (w : World) := Go (HW w)
noncomputable abbrev RelW (w : World) := Rel (HW w)
section
variable {w : World} {A : Around} {n b : Nat} {κ κ1 : Pl} {F F1 : List Fr} {O O1 : Objs} {s s1 : Shared} {env : Env}
theorem Go.le (R : RelW w κ F O s.heap) (g : GoW w b κ O s κ1 F1 O1 s1) : O.length ≤ O1.length := by
  rw [← R.len, ← g.rel.len]; exact g.ext.pre.length_le
theorem St.next (t : St w A n b κ F O s env) (g : GoW w b κ O s κ1 F1 O1 s1) : St w A n b κ1 F1 O1 s1 env := ⟨t.ok, g.rel, g.frs ▸ t.env, Nat.le_trans t.le (g.le t.rel)⟩
theorem Ok.one (h : Ok A (n + 1)) : Ok A 1 := ⟨Nat.le_trans (Nat.add_le_add_left (Nat.le_add_left 1 n) _) h.dep, Nat.le_trans (Nat.add_le_add_left (Nat.mul_le_mul_left 10 (Nat.le_add_left 1 n)) _) h.uni, h.hd⟩
theorem St.dn (t : St w A (n + 1) b κ F O s env) : St w A n b κ F O s env := { t with ok := t.ok.dn }
end

inductive End {α β : Type} (w : World) (b : Nat) (κ : Pl) (F : List Fr) (O : Objs) (s : Shared) (R : Heap → Pl → α → β → Prop) (Q : α → Objs → Prop) : β → Shared → Prop where
  | mk {v : α} {κ' : Pl} {O' : Objs} {cv : β} {s' : Shared} (q : Q v O') (g : GoW w b κ O s κ' F O' s') (r : R s'.heap κ' v cv) : End w b κ F O s R Q cv s'
noncomputable def FlR (h : Heap) (κ : Pl) (f : Fl) (g : Flow) : Prop := match f with
  | .next => g = .next
  | .brk => g = .brk
  | .cont => g = .cont
  | .ret v => ∃ cv, g = .ret cv ∧ RV h κ v cv

inductive EndS (w : World) (b : Nat) (κ : Pl) (O : Objs) (s : Shared) (Q : Fl → List Fr → Objs → Prop) : Flow → Shared → Prop where
  | mk {f : Fl} {F' : List Fr} {κ' : Pl} {O' : Objs} {cf : Flow} {s' : Shared} (q : Q f F' O') (g : GoW w b κ O s κ' F' O' s') (r : FlR s'.heap κ' f cf) : EndS w b κ O s Q cf s'
noncomputable def EqR {α : Type} (_ : Heap) (_ : Pl) (a : α) (c : α) : Prop := c = a
noncomputable def RVn (k : Nat) (h : Heap) (κ : Pl) (vs : List V) (cvs : List Value) : Prop := RVs h κ vs cvs ∧ cvs.length = k
noncomputable def KsR (h : Heap) (κ : Pl) : List (Str × V) → List (Str × Value) → Prop
  | [], r => r = []
  | e :: l, r => ∃ cv r', r = (e.1, cv) :: r' ∧ RV h κ e.2 cv ∧ KsR h κ l r'
theorem KsR_mono {h h' : Heap} {κ κ' : Pl} (x : Ext h κ h' κ') : ∀ {l : List (Str × V)} {r : List (Str × Value)}, KsR h κ l r → KsR h' κ' l r
  | [], _, e => e
  | _ :: _, _, ⟨cv, r', e, a, c⟩ => ⟨cv, r', e, RV_mono x a, KsR_mono x c⟩

structure Snd (w : World) (n : Nat) (J : WI) : Prop where
  e : ∀ {A s κ F O b env ex Q}, J.e ex F b Q O → St w A n b κ F O s env → wpAny (MW w) A (eval ex env) (End w b κ F O s RV Q) noE s
  l : ∀ {A s κ F O b env ex Q}, J.l ex F b Q O → St w A n b κ F O s env → wpAny (MW w) A (eval ex env) (End w b κ F O s RV Q) noE s
  t : ∀ {A s κ F O b env ex Q}, J.t ex F b Q O → St w A n b κ F O s env → wpAny (MW w) A (isTrue ex env (eval ex env)) (End w b κ F O s EqR Q) noE s
  s : ∀ {A s κ F O b env st Q}, J.s st F b Q O → St w A n b κ F O s env → wpAny (MW w) A (exec st env) (EndS w b κ O s Q) noE s
  c : ∀ {A s κ F O b f a ks cf ca cks Q}, J.c f a ks b Q O → Ok A n → RelW w κ F O s.heap → b ≤ O.length → RV s.heap κ f cf → RVs s.heap κ a ca → KsR s.heap κ ks cks → wpAny (MW w) A (call cf ca cks) (End w b κ F O s RV Q) noE s
section
variable {α β γ : Type} {w : World} {A : Around} {n b : Nat} {κ κ1 : Pl} {F F1 : List Fr} {O O1 : Objs} {s s1 : Shared} {env : Env} {R : Heap → Pl → α → β → Prop} {Q : α → Objs → Prop} {E : Value → Shared → Prop}

theorem End.seq {m : Sem β} {P : β → Shared → Prop} (h : wpAny (MW w) A m (End w b κ F O s R Q) noE s) (k : ∀ {v κ1 O1 cv s1}, Q v O1 → GoW w b κ O s κ1 F O1 s1 → R s1.heap κ1 v cv → P cv s1) : wpAny (MW w) A m P E s :=
  wpAny_mono h (fun _ _ e => match e with | .mk q g r => k q g r) fun _ _ x => x.elim
theorem EndS.seq {m : Sem Flow} {Q : Fl → List Fr → Objs → Prop} {P : Flow → Shared → Prop} (h : wpAny (MW w) A m (EndS w b κ O s Q) noE s) (k : ∀ {f F1 κ1 O1 cf s1}, Q f F1 O1 → GoW w b κ O s κ1 F1 O1 s1 → FlR s1.heap κ1 f cf → P cf s1) : wpAny (MW w) A m P E s :=
  wpAny_mono h (fun _ _ e => match e with | .mk q g r => k q g r) fun _ _ x => x.elim
theorem End.go {cv : β} {s2 : Shared} (g : GoW w b κ O s κ1 F O1 s1) (e : End w b κ1 F O1 s1 R Q cv s2) : End w b κ F O s R Q cv s2 := match e with
  | .mk q g1 r => .mk q (g.trans g1) r
theorem End.on {m : Sem β} (g : GoW w b κ O s κ1 F O1 s1) (h : wpAny (MW w) A m (End w b κ1 F O1 s1 R Q) noE s1) : wpAny (MW w) A m (End w b κ F O s R Q) E s1 :=
  wpAny_mono h (fun _ _ e => e.go g) fun _ _ x => x.elim
theorem EndS.on {m : Sem Flow} {Q : Fl → List Fr → Objs → Prop} (g : GoW w b κ O s κ1 F1 O1 s1) (h : wpAny (MW w) A m (EndS w b κ1 O1 s1 Q) noE s1) : wpAny (MW w) A m (EndS w b κ O s Q) E s1 :=
  wpAny_mono h (fun _ _ e => match e with | .mk q g1 r => .mk q (g.trans g1) r) fun _ _ x => x.elim

theorem End.tok (Rl : RelW w κ F O s.heap) {v : α} {cv : β} {k : Nat} (q : Q v O) (r : R s.heap κ v cv) : End w b κ F O s R Q cv { s with toks := k } := .mk q (Go.grow Rl (fun _ _ e => e) ⟨rfl, rfl, rfl⟩) r
theorem End.here (Rl : RelW w κ F O s.heap) {v : α} {cv : β} (q : Q v O) (r : R s.heap κ v cv) : End w b κ F O s R Q cv s := .mk q (Go.refl Rl) r

theorem End.up (Rl : RelW w κ F O s.heap) (k : ∀ b o, s.heap.get? b = some o → s1.heap.get? b = some o) (e : SameRest s s1) {v : α} {cv : β} (q : Q v O) (r : R s1.heap κ v cv) : End w b κ F O s R Q cv s1 := .mk q (Go.grow Rl k e) r
end
set_option backward.match.sparseCases true

theorem bind_some {α β : Type} {o : Option α} {f : α → Option β} {r : β} (h : o.bind f = some r) : ∃ a, o = some a ∧ f a = some r := match o, h with
  | some a, h => ⟨a, rfl, h⟩
theorem map_some {α β : Type} {o : Option α} {f : α → β} {r : β} (h : o.map f = some r) : ∃ a, o = some a ∧ f a = r := match o, h with
  | some a, h => ⟨a, rfl, Option.some.inj h⟩
theorem new_none {h : Heap} {a : Addr} (l : h.objs.size ≤ a) : h.get? a = none := by
  unfold Heap.get?
  rw [Array.getElem?_eq_none l]
theorem push_keeps (h : Heap) (o : Obj) : ∀ b ob, h.get? b = some ob → (h.push o).get? b = some ob := fun _ _ e => Heap.get?_push_of_some o e
section
variable {h0 h h' : Heap} {κ : Pl} {F : List Fr} {O : Objs}
theorem Rel.get {i : Nat} {o : AObj} (R : Rel h0 κ F O h) (e : O[i]? = some o) : ∃ c, κ.ob[i]? = some c ∧ ObjR h κ o c :=
  have hi := R.len.symm ▸ (List.getElem?_eq_some_iff.mp e).1
  ⟨_, List.getElem?_eq_getElem hi, R.objs i o _ e (List.getElem?_eq_getElem hi)⟩
theorem Rel.at' {i : Nat} {o : AObj} {a : Addr} (R : Rel h0 κ F O h) (e : O[i]? = some o) (hi : κ.ob[i]? = some (.obj a)) : ObjR h κ o (.obj a) := R.objs i o _ e hi
theorem Rel.size_off (R : Rel h0 κ F O h) : h.objs.size ∉ κ.mt := fun q => let ⟨_, ho⟩ := R.ex _ q; nomatch (new_none (Nat.le_refl _)).symm.trans ho
theorem ob_nd (nd : κ.mt.Nodup) : (κ.ob.map C.addr).Nodup := (List.nodup_append.mp (List.nodup_append.mp nd).2.1).2.1
theorem ob_inj (nd : κ.mt.Nodup) {i j : Nat} {c c' : C} (hi : κ.ob[i]? = some c) (hj : κ.ob[j]? = some c') (e : c.addr = c'.addr) : i = j := by
  refine (List.getElem?_inj (by rw [List.length_map]; exact (List.getElem?_eq_some_iff.mp hi).1) (ob_nd nd)).mp ?_
  rw [List.getElem?_map, List.getElem?_map, hi, hj, Option.map_some, Option.map_some, e]
theorem fr_off (nd : κ.mt.Nodup) {i : Nat} {p : FP} {a : Addr} (hi : κ.fr[i]? = some p) (ha : a ∈ p.addrs) : a ∉ κ.hid ++ κ.ob.map C.addr := fun q =>
  (List.nodup_append.mp nd).2.2 a (List.mem_flatMap.mpr ⟨p, List.mem_of_getElem? hi, ha⟩) a q rfl
theorem fr_ob (nd : κ.mt.Nodup) {i j : Nat} {p : FP} {c : C} {a : Addr} (hi : κ.fr[i]? = some p) (ha : a ∈ p.addrs) (hj : κ.ob[j]? = some c) : c.addr ≠ a := fun q =>
  fr_off nd hi ha (List.mem_append_right _ (q ▸ List.mem_map_of_mem (List.mem_of_getElem? hj)))
theorem hid_ob (nd : κ.mt.Nodup) {j : Nat} {c : C} {a : Addr} (ha : a ∈ κ.hid) (hj : κ.ob[j]? = some c) : c.addr ≠ a := fun q =>
  (List.nodup_append.mp (List.nodup_append.mp nd).2.1).2.2 a ha c.addr (List.mem_map_of_mem (List.mem_of_getElem? hj)) q.symm
theorem fr_inj : ∀ {l : List FP} {i j : Nat} {p p' : FP} {a : Addr}, (l.flatMap FP.addrs).Nodup → l[i]? = some p → l[j]? = some p' → a ∈ p.addrs → a ∈ p'.addrs → i = j
  | p :: l, 0, 0, _, _, _, _, _, _, _, _ => rfl
  | p :: l, i + 1, j + 1, _, _, _, nd, hi, hj, h1, h2 => congrArg (· + 1) (fr_inj (l := l) (List.nodup_append.mp nd).2.1 hi hj h1 h2)
  | p :: l, 0, j + 1, _, p', a, nd, rfl, hj, h1, h2 => absurd rfl ((List.nodup_append.mp nd).2.2 a h1 a (List.mem_flatMap.mpr ⟨p', List.mem_of_getElem? (l := l) hj, h2⟩))
  | p :: l, i + 1, 0, p', _, a, nd, hi, rfl, h1, h2 => absurd rfl ((List.nodup_append.mp nd).2.2 a h2 a (List.mem_flatMap.mpr ⟨p', List.mem_of_getElem? (l := l) hi, h1⟩))
theorem fr_nd (nd : κ.mt.Nodup) : (κ.fr.flatMap FP.addrs).Nodup := (List.nodup_append.mp nd).1
theorem fp_nodup : ∀ {l : List FP} {i : Nat} {p : FP}, (l.flatMap FP.addrs).Nodup → l[i]? = some p → p.addrs.Nodup
  | p :: l, 0, _, nd, rfl => (List.nodup_append.mp nd).1
  | p :: l, i + 1, _, nd, e => fp_nodup (l := l) (List.nodup_append.mp nd).2.1 e

theorem Rel.put {F' : List Fr} {O' : Objs} {a : Addr} (R : Rel h0 κ F O h) (ha : a ∈ κ.mt) (hs : ∀ b ob, b ≠ a → h.get? b = some ob → h'.get? b = some ob) (hx : ∃ ob, h'.get? a = some ob) (lo : O'.length = O.length) (lf : F'.length = F.length)
    (ho : Ext h κ h' κ → ∀ (i : Nat) o' c, O'[i]? = some o' → κ.ob[i]? = some c → (O[i]? = some o' ∧ c.addr ≠ a) ∨ ObjR h' κ o' c)
    (hf : Ext h κ h' κ → ∀ (i : Nat) f' p, F'[i]? = some f' → κ.fr[i]? = some p → (F[i]? = some f' ∧ a ∉ p.addrs) ∨ FrameR h' κ f' p) : Rel h0 κ F' O' h' ∧ Ext h κ h' κ :=
  have x : Ext h κ h' κ := ⟨List.prefix_rfl, fun b ob hb hn => hs b ob (fun q => hn (q ▸ ha)) hb, fun _ p q => absurd p q⟩
  ⟨{ R with
    len := R.len.trans lo.symm
    flen := R.flen.trans lf.symm
    base := fun b ob hb => hs b ob (fun q => nomatch (R.off b (q ▸ ha)).symm.trans hb) (R.base b ob hb)
    ex := fun b hb => (Classical.em (b = a)).elim (fun q => q ▸ hx) fun q => let ⟨o, e⟩ := R.ex b hb; ⟨o, hs b o q e⟩
    objs := fun i o' c e e' => (ho x i o' c e e').elim (fun q => ObjR_mono x (fun ob e => hs _ ob q.2 e) (R.objs i o' c q.1 e')) id
    frs := fun i f' p e e' => (hf x i f' p e e').elim (fun q => FrameR_mono x (fun b hb ob e => hs b ob (fun z => q.2 (z ▸ hb)) e) (R.frs i f' p q.1 e')) id }, x⟩
theorem and_hid {P1 P2 : Prop} {a : Addr} (ne : ∀ x ∈ κ.hid, x ≠ a) (hs : ∀ b ob, b ≠ a → h.get? b = some ob → h'.get? b = some ob) (p : P1 ∧ P2) : P1 ∧ P2 ∧ ∀ x ∈ κ.hid, x ∈ κ.hid ∧ ∀ o, h.get? x = some o → h'.get? x = some o :=
  ⟨p.1, p.2, fun x hx => ⟨hx, fun o e => hs x o (ne x hx) e⟩⟩

theorem Rel.setO {i : Nat} {o o' : AObj} {c : C} (R : Rel h0 κ F O h) (e : O[i]? = some o) (hi : κ.ob[i]? = some c) (hs : ∀ b ob, b ≠ c.addr → h.get? b = some ob → h'.get? b = some ob) (hx : ∃ ob, h'.get? c.addr = some ob) (hr : Ext h κ h' κ → ObjR h' κ o' c) : Rel h0 κ F (O.set i o') h' ∧ Ext h κ h' κ ∧ ∀ x ∈ κ.hid, x ∈ κ.hid ∧ ∀ o, h.get? x = some o → h'.get? x = some o :=
  and_hid (fun x hx q => hid_ob R.nd hx hi q.symm) hs <| R.put (Pl.mt_ob hi) hs hx List.length_set rfl (fun x j oj cj ej hj => by
    by_cases hij : i = j
    · subst hij
      rw [List.getElem?_set_self (List.getElem?_eq_some_iff.mp e).1] at ej
      cases ej; cases hi.symm.trans hj
      exact .inr (hr x)
    · rw [List.getElem?_set_ne hij] at ej
      exact .inl ⟨ej, fun q => hij (ob_inj R.nd hi hj q.symm)⟩) fun _ j f p ej hj => .inl ⟨ej, fun q => fr_ob R.nd hj q hi rfl⟩

theorem Rel.setF {f f' : Fr} {r : List Fr} {p : FP} {pr : List FP} {a : Addr} (R : Rel h0 κ (f :: r) O h) (hp : κ.fr = p :: pr) (ha : a ∈ p.addrs) (hs : ∀ b ob, b ≠ a → h.get? b = some ob → h'.get? b = some ob) (hx : ∃ ob, h'.get? a = some ob) (hr : Ext h κ h' κ → FrameR h' κ f' p) : Rel h0 κ (f' :: r) O h' ∧ Ext h κ h' κ ∧ ∀ x ∈ κ.hid, x ∈ κ.hid ∧ ∀ o, h.get? x = some o → h'.get? x = some o :=
  have h0 : κ.fr[0]? = some p := hp ▸ rfl
  and_hid (fun x hx (q : x = a) => fr_off R.nd h0 ha (List.mem_append_left _ (q ▸ hx))) hs <| R.put (Pl.mt_fr h0 ha) hs hx rfl rfl (fun _ j o c e hj => .inl ⟨e, fr_ob R.nd h0 ha hj⟩) fun x j g q ej hj => match j, ej, hj with
    | 0, e, hj => .inr (Option.some.inj e ▸ Option.some.inj (h0.symm.trans hj) ▸ hr x)
    | j + 1, e, hj => .inl ⟨e, fun z => nomatch fr_inj (fr_nd R.nd) h0 hj ha z⟩

theorem Rel.more {κ' : Pl} {F' : List Fr} {O' : Objs} {new : List Addr} (R : Rel h0 κ F O h) (pm : κ'.mt.Perm (new ++ κ.mt)) (pre : κ.ob <+: κ'.ob) (k : ∀ b o, h.get? b = some o → h'.get? b = some o) (hn : ∀ a ∈ new, h.get? a = none ∧ ∃ o, h'.get? a = some o) (nd : new.Nodup)
    (len : κ'.ob.length = O'.length) (flen : κ'.fr.length = F'.length) (objs : Ext h κ h' κ' → ∀ (i : Nat) o c, O'[i]? = some o → κ'.ob[i]? = some c → ObjR h' κ' o c) (frs : Ext h κ h' κ' → ∀ (i : Nat) f p, F'[i]? = some f → κ'.fr[i]? = some p → FrameR h' κ' f p) : Rel h0 κ' F' O' h' ∧ Ext h κ h' κ' :=
  have e : ∀ b ∈ κ'.mt, b ∈ new ∨ b ∈ κ.mt := fun b hb => List.mem_append.mp (pm.mem_iff.mp hb)
  have x : Ext h κ h' κ' := ⟨pre, fun b ob q _ => k b ob q, fun b hb hnb => (e b hb).elim (fun q => (hn b q).1) fun q => absurd q hnb⟩
  ⟨{ len := len
     flen := flen
     base := fun a ob q => k a ob (R.base a ob q)
     off := fun a ha => (e a ha).elim (fun q => match hq : h0.get? a with
        | none => rfl
        | some ob => nomatch (hn a q).1.symm.trans (R.base a ob hq)) (R.off a)
     nd := pm.nodup_iff.mpr (List.nodup_append.mpr ⟨nd, R.nd, fun a ha b hb q => let ⟨_, ho⟩ := R.ex b hb; nomatch (q ▸ (hn a ha).1).symm.trans ho⟩)
     ex := fun a ha => (e a ha).elim (fun q => (hn a q).2) fun q => let ⟨o, ho⟩ := R.ex a q; ⟨o, k a o ho⟩
     objs := objs x
     frs := frs x
     tab := fun p hp hq => let ⟨j, hj⟩ := R.tab p hp hq; ⟨j, pre_get pre hj⟩ }, x⟩
theorem Rel.objs_mono {κ' : Pl} (R : Rel h0 κ F O h) (k : ∀ b o, h.get? b = some o → h'.get? b = some o) (x : Ext h κ h' κ') {i : Nat} {o : AObj} {c : C} (e : O[i]? = some o) (e' : κ.ob[i]? = some c) : ObjR h' κ' o c := ObjR_mono x (fun ob q => k _ ob q) (R.objs i o c e e')
theorem Rel.frs_mono {κ' : Pl} (R : Rel h0 κ F O h) (k : ∀ b o, h.get? b = some o → h'.get? b = some o) (x : Ext h κ h' κ') {i : Nat} {f : Fr} {p : FP} (e : F[i]? = some f) (e' : κ.fr[i]? = some p) : FrameR h' κ' f p := FrameR_mono x (fun b _ ob q => k b ob q) (R.frs i f p e e')

theorem Rel.addO {o : AObj} (R : Rel h0 κ F O h) (k : ∀ b o, h.get? b = some o → h'.get? b = some o) (hx : ∃ ob, h'.get? h.objs.size = some ob) (hr : ∀ κ', Ext h κ h' κ' → ObjR h' κ' o (.obj h.objs.size)) :
    Rel h0 ⟨κ.fr, κ.ob ++ [.obj h.objs.size], κ.hid⟩ F (O ++ [o]) h' ∧ Ext h κ h' ⟨κ.fr, κ.ob ++ [.obj h.objs.size], κ.hid⟩ := by
  refine R.more (new := [h.objs.size]) ?_ ⟨_, rfl⟩ k (fun a ha => ?_) (List.nodup_cons.mpr ⟨List.not_mem_nil, List.nodup_nil⟩) ?_ R.flen (fun x i oi ci e e' => ?_) fun x i f p e e' => R.frs_mono k x e e'
  · rw [Pl.mt, List.map_append, ← List.append_assoc, ← List.append_assoc, List.append_assoc (κ.fr.flatMap _)]
    exact List.perm_append_comm
  · rw [List.mem_singleton.mp ha]; exact ⟨new_none (Nat.le_refl _), hx⟩
  · rw [List.length_append, List.length_append, R.len]; rfl
  · rcases Nat.lt_or_ge i O.length with hl | hl
    · rw [List.getElem?_append_left hl] at e
      rw [List.getElem?_append_left (R.len.symm ▸ hl)] at e'
      exact R.objs_mono k x e e'
    · rw [List.getElem?_append_right hl] at e
      rw [List.getElem?_append_right (R.len.symm ▸ hl), R.len] at e'
      match i - O.length, e, e' with
      | 0, rfl, rfl => exact hr _ x

theorem Rel.addH {new : List Addr} (R : Rel h0 κ F O h) (k : ∀ b o, h.get? b = some o → h'.get? b = some o) (hn : ∀ a ∈ new, h.get? a = none ∧ ∃ o, h'.get? a = some o) (nd : new.Nodup) : Rel h0 ⟨κ.fr, κ.ob, new ++ κ.hid⟩ F O h' ∧ Ext h κ h' ⟨κ.fr, κ.ob, new ++ κ.hid⟩ := by
  refine R.more (new := new) ?_ List.prefix_rfl k hn nd R.len R.flen (fun x i o c e e' => R.objs_mono k x e e') fun x i f p e e' => R.frs_mono k x e e'
  show (κ.fr.flatMap FP.addrs ++ (new ++ κ.hid ++ κ.ob.map C.addr)).Perm _
  rw [List.append_assoc, ← List.append_assoc, Pl.mt, ← List.append_assoc new]
  exact List.perm_append_comm.append_right _
end
theorem Mono.app (b : Nat) (O T : Objs) : Mono b O (O ++ T) := fun i o _ e => ⟨o, by rw [List.getElem?_append_left (List.getElem?_eq_some_iff.mp e).1]; exact e, fun _ h => h⟩
theorem Mono.set_high {b i : Nat} {O : Objs} {o : AObj} (h : b ≤ i) : Mono b O (O.set i o) := fun j oj hj e => ⟨oj, by rw [List.getElem?_set_ne (fun q : i = j => absurd (q.symm ▸ hj) (Nat.not_lt.mpr h))]; exact e, fun _ q => q⟩
theorem Mono.set_pure {b i : Nat} {O : Objs} {o o' : AObj} (e : O[i]? = some o) (h : ∀ m, o.Under m → o'.Under m) : Mono b O (O.set i o') := fun j oj hj ej => by
  by_cases hij : i = j
  · subst hij
    cases e.symm.trans ej
    exact ⟨o', by rw [List.getElem?_set_self (List.getElem?_eq_some_iff.mp e).1], h⟩
  · exact ⟨oj, by rw [List.getElem?_set_ne hij]; exact ej, fun _ q => q⟩
section
variable {w : World} {A : Around} {n b : Nat} {κ : Pl} {F : List Fr} {O : Objs} {s : Shared} {env : Env}
noncomputable abbrev pushS (s : Shared) (o : Obj) : Shared := { s with heap := s.heap.push o }
theorem Go.push (R : RelW w κ F O s.heap) (o : Obj) : GoW w b κ O s κ F O (pushS s o) := Go.grow R (push_keeps _ o) ⟨rfl, rfl, rfl⟩

theorem new_tup {vs : List V} {cvs : List Value} {Q : V → Objs → Prop} (R : RelW w κ F O s.heap) (q : Q (.tup vs) O) (r : RVs s.heap κ vs cvs) : End w b κ F O s RV Q (.ref s.heap.objs.size) (pushS s { cls := .type "tuple", data := .seq cvs.toArray }) :=
  .mk q (Go.push R _) ⟨_, cvs.toArray, rfl, ⟨_, Heap.get?_push_size _ rfl⟩, R.size_off, RVs_mono (Ext.grow (push_keeps _ _)) r⟩
theorem new_lst {vs : List V} {cvs : List Value} {Q : V → Objs → Prop} (R : RelW w κ F O s.heap) (q : Q (.lst vs) O) (r : RVs s.heap κ vs cvs) : End w b κ F O s RV Q (.ref s.heap.objs.size) (pushS s { cls := .type "list", data := .seq cvs.toArray }) :=
  .mk q (Go.push R _) ⟨_, cvs.toArray, rfl, ⟨_, Heap.get?_push_size _ rfl⟩, R.size_off, RVs_mono (Ext.grow (push_keeps _ _)) r⟩
theorem new_obj' {o : AObj} {h' : Heap} {tk : Nat} {Q : V → Objs → Prop} (R : RelW w κ F O s.heap) (q : Q (.ref O.length) (O ++ [o])) (k : ∀ b o, s.heap.get? b = some o → h'.get? b = some o) (hx : ∃ ob, h'.get? s.heap.objs.size = some ob) (r : ∀ κ', Ext s.heap κ h' κ' → ObjR h' κ' o (.obj s.heap.objs.size)) : End w b κ F O s RV Q (.ref s.heap.objs.size) { s with heap := h', toks := tk } :=
  let ⟨R', x⟩ := R.addO k hx r
  .mk q ⟨R', x, rfl, ⟨rfl, rfl, rfl⟩, Mono.app _ _ _, fun a h => ⟨h, fun o e => k a o e⟩⟩ ⟨_, rfl, by rw [← R.len, List.getElem?_append_right (Nat.le_refl _), Nat.sub_self]; rfl⟩
theorem new_obj {o : AObj} {ob : Obj} {Q : V → Objs → Prop} (R : RelW w κ F O s.heap) (q : Q (.ref O.length) (O ++ [o])) (nf : ob.isFreed = false) (r : ∀ κ', Ext s.heap κ (s.heap.push ob) κ' → ObjR (s.heap.push ob) κ' o (.obj s.heap.objs.size)) : End w b κ F O s RV Q (.ref s.heap.objs.size) (pushS s ob) :=
  new_obj' R q (push_keeps _ _) ⟨_, Heap.get?_push_size _ nf⟩ r
theorem new_list {vs : List V} {cvs : List Value} {Q : V → Objs → Prop} (R : RelW w κ F O s.heap) (q : Q (.ref O.length) (O ++ [.list vs])) (r : RVs s.heap κ vs cvs) : End w b κ F O s RV Q (.ref s.heap.objs.size) (pushS s { cls := .type "list", data := .seq cvs.toArray }) :=
  new_obj R q rfl fun κ' x => ⟨cvs.toArray, ⟨_, Heap.get?_push_size _ rfl⟩, RVs_mono x r⟩

theorem free_cell {h : Heap} {x : Str} {v : V} {c : Addr} : ∀ {F : List Fr} {P : List FP}, (∀ (i : Nat) f p, F[i]? = some f → P[i]? = some p → FrameR h κ f p) → getFree F x = some v → cellAt P x = some c → ∃ cv, h.IsCell c (some cv) ∧ RV h κ v cv
  | f :: F, p :: P, hR, e, e' => by
    have fr := hR 0 f p rfl rfl
    obtain ⟨k, hk, e⟩ := bind_some e
    unfold cellAt at e'
    rw [← fr.nm, hk] at e'
    cases k with
    | cell =>
      obtain ⟨c', cv, h1, h2, h3⟩ := fr.cell x hk
      cases h1.symm.trans e'
      obtain ⟨cv, rfl, r⟩ := OptR.some (v := v) ((show f.get x = some v from e) ▸ h3)
      exact ⟨cv, h2, r⟩
    | free => exact free_cell (F := F) (P := P) (fun i f p a b => hR (i + 1) f p a b) e e'
    | _ => exact none_ne e
theorem load_sound {x : Str} {v : V} {Q : V → Objs → Prop} (B : Base w) (t : St w A n b κ F O s env) (h : getV GG F x = some v) (hcd : (x == ("__classdict__" : Str)) = false) (q : Q v O) : wpAny (MW w) A (loadName env x) (End w b κ F O s RV Q) noE s := by
  obtain ⟨p, r, hp, T⟩ := t.env.top
  have nm : ∀ {f}, F[0]? = some f → FrameR s.heap κ f p := fun e => t.rel.frs 0 _ p e (hp ▸ rfl)
  cases F with
  | nil => exact none_ne h
  | cons f rF =>
    have fr := nm rfl
    obtain ⟨kd, hn, h⟩ := bind_some h
    have hn' := fr.nm ▸ hn
    cases kd with
    | «local» =>
      obtain ⟨m, hm, hl⟩ := fr.loc
      obtain ⟨cv, e, rv⟩ := OptR.some (v := v) ((show f.get x = some v from h) ▸ hl x hn)
      exact wpAny_loadName_local t.env.kind (T.loc x hn') (T.L ▸ hm) e (End.here t.rel q rv)
    | cell =>
      obtain ⟨c, cv, h1, h2, h3⟩ := fr.cell x hn
      obtain ⟨k1, c', k2, k3⟩ := T.cell x hn'
      cases h1.symm.trans k2
      obtain ⟨cv, rfl, rv⟩ := OptR.some (v := v) ((show f.get x = some v from h) ▸ h3)
      exact wpAny_loadName_cell t.env.kind k1 k3 h2 (End.here t.rel q rv)
    | free =>
      obtain ⟨k1, c, k2, k3⟩ := T.free x hn'
      obtain ⟨cv, c1, c2⟩ := free_cell (F := rF) (P := r) (fun i f p e e' => t.rel.frs (i + 1) f p e (hp ▸ e')) h k3
      exact k1.elim (fun k1 => wpAny_loadName_cell t.env.kind k1 k2 c1 (End.here t.rel q c2)) fun k1 => wpAny_loadName_free t.env.kind k1 k2 c1 (End.here t.rel q c2) hcd
    | globalImplicit =>
      obtain ⟨mg, mb, n1, n2, n3⟩ := B.globals
      obtain ⟨cv, rfl, hcv⟩ := n3 x v h
      have g1 : s.heap.Ns env.globals mg := t.env.glob ▸ n1.keeps t.rel.base
      have g2 : s.heap.Ns env.builtins mb := t.env.blt ▸ n2.keeps t.rel.base
      unfold loadName
      simp only [Env.blockKind, t.env.kind, T.glb x hn', ScopeKind.isAnnotationScope, Bool.false_and, Bool.false_eq_true, if_false]
      exact hcv.elim (fun e => Calls.loadGlobal_global g1 e (End.here t.rel q (topV_is _ _ _))) fun e => Calls.loadGlobal_builtin g1 e.1 g2 e.2 (End.here t.rel q (topV_is _ _ _))
    | _ => exact none_ne h
theorem okNm_is {x : Str} (h : okNm x = true) : (x == ("__debug__" : Str)) = false ∧ (x == ("__classdict__" : Str)) = false := by
  simpa [okNm] using h
theorem name_sound {x : Str} {pos : Pos} {Q : V → Objs → Prop} (B : Base w) (t : St w A n b κ F O s env) (h : Gd (okNm x) (Lf (getV GG F x) fun v => Q v O)) : wpAny (MW w) A (eval (.Name x pos) env) (End w b κ F O s RV Q) noE s :=
  let ⟨h1, h2⟩ := h.out
  let ⟨v, e, q⟩ := h2.out
  wpAny_Name (load_sound B t e (okNm_is h1).2 q) (okNm_is h1).1

theorem setVar_lookup (x : Str) (v : V) (y : Str) : ∀ vars : Vars, (setVar vars x v).lookup y = if y = x then some (some v) else vars.lookup y
  | [] => by
    by_cases h : y = x
    · rw [setVar, h, List.lookup_cons_self, if_pos rfl]
    · rw [setVar, List.lookup_cons, beq_false_of_ne h, if_neg h]
  | e :: r => by
    rw [setVar]
    by_cases he : (e.1 == x) = true
    · rw [if_pos he, List.lookup_cons, List.lookup_cons (k := e.1), beq_iff_eq.mp he]
      by_cases h : y = x
      · rw [h, beq_self_eq_true, if_pos rfl]
      · rw [beq_false_of_ne h, if_neg h]
    · rw [if_neg he, List.lookup_cons, List.lookup_cons (k := e.1), setVar_lookup x v y r]
      cases h : y == e.1 with
      | false => rfl
      | true => exact (if_neg fun q => he (beq_iff_eq.mpr ((beq_iff_eq.mp h).symm.trans q))).symm

theorem FrameR.set {h h' : Heap} {f : Fr} {p : FP} {x : Str} {v : V} {cv : Value} (fr : FrameR h κ f p) (xx : Ext h κ h' κ) (r : RV h κ v cv)
    (loc : ∀ m, h.Ns p.L m → ∃ m', h'.Ns p.L m' ∧ ∀ y, f.names.lookup y = some .local → m' y = if y = x then some cv else m y)
    (cell : ∀ y c dv, f.names.lookup y = some .cell → p.cells.lookup y = some c → h.IsCell c dv → h'.IsCell c (if y = x then some cv else dv)) : FrameR h' κ ⟨f.names, setVar f.vars x v, f.lam⟩ p :=
  have key : ∀ y dv, OptR h κ (f.get y) dv → OptR h' κ (Fr.get ⟨f.names, setVar f.vars x v, f.lam⟩ y) (if y = x then some cv else dv) := fun y dv o => by
    show OptR h' κ (gotv ((setVar f.vars x v).lookup y)) _
    rw [setVar_lookup]
    by_cases q : y = x
    · rw [if_pos q, if_pos q]; exact RV_mono xx r
    · rw [if_neg q, if_neg q]; exact OptR_mono xx o
  { nm := fr.nm
    lm := fr.lm
    loc := let ⟨m, hm, hl⟩ := fr.loc; let ⟨m', h1, h2⟩ := loc m hm; ⟨m', h1, fun y hy => h2 y hy ▸ key y _ (hl y hy)⟩
    cell := fun y hy => let ⟨c, dv, h1, h2, h3⟩ := fr.cell y hy; ⟨c, _, h1, cell y c dv hy h1 h2, key y dv h3⟩ }
theorem ne_kind {l : Names} {x y : Str} {a b : NameKind} (hx : l.lookup x = some a) (hy : l.lookup y = some b) (hab : a ≠ b) : ¬ y = x := fun q => hab (Option.some.inj (hx.symm.trans (q ▸ hy)))
theorem setTop_sound {A0 : Around} {x : Str} {v : V} {cv : Value} {F1 : List Fr} {P : Unit → Shared → Prop} {E : Value → Shared → Prop} (t : St w A n b κ F O s env) (h : setTop F x v = some F1) (r : RV s.heap κ v cv) (k : ∀ s1, GoW w b κ O s κ F1 O s1 → P () s1) : wpAny (MW w) A0 (storeName env x cv) P E s := by
  obtain ⟨p, rp, hp, T⟩ := t.env.top
  cases F with
  | nil => exact none_ne h
  | cons f rF =>
    have hp0 : κ.fr[0]? = some p := hp ▸ rfl
    have fr : FrameR s.heap κ f p := t.rel.frs 0 f p rfl hp0
    have nd := fp_nodup (fr_nd t.rel.nd) hp0
    have cin : ∀ {y c}, p.cells.lookup y = some c → c ∈ p.cells.map (·.2) := fun e => List.mem_map_of_mem (lookup_memL e)
    have nin : ∀ {y c}, p.cells.lookup y = some c → ¬ p.L = c := fun e q => (List.nodup_cons.mp nd).1 (q ▸ cin e)
    dsimp only [setTop] at h
    cases hn : f.names.lookup x with
    | none => rw [hn] at h; exact none_ne h
    | some kd =>
      rw [hn] at h
      cases kd with
      | «local» =>
        cases h
        obtain ⟨m, hm, _⟩ := id fr.loc
        refine wpAny_storeName_local (T.loc x (fr.nm ▸ hn)) (T.L ▸ hm) (fun h' hn' hs' => ?_) (by rw [t.env.kind]; rfl)
        rw [T.L] at hn' hs'
        obtain ⟨R', x', hk⟩ := t.rel.setF (f' := ⟨f.names, setVar f.vars x v, f.lam⟩) hp (List.mem_cons_self ..) (fun b ob hb e => (hs'.2 b hb).trans e) (let ⟨o, _, _, ho, _⟩ := hn'; ⟨o, ho⟩) fun xx =>
          fr.set xx r (fun m2 hm2 => ⟨_, hn', fun y hy => by rw [hm.agree hm2]⟩) fun y c dv hy h1 h2 => by
            rw [if_neg (ne_kind hn hy nofun)]
            exact h2.sameBut hs' fun q => nin h1 q.symm
        exact k _ ⟨R', x', rfl, ⟨rfl, rfl, rfl⟩, Mono.refl _ _, hk⟩
      | cell =>
        cases h
        obtain ⟨k1, c', k2, k3⟩ := T.cell x (fr.nm ▸ hn)
        obtain ⟨c, cv', h1, hcell, h3⟩ := fr.cell x hn
        cases k2.symm.trans h1
        refine wpAny_storeName_cell t.env.kind k1 k3 hcell (fun h' hn' hs' => ?_)
        obtain ⟨R', x', hk⟩ := t.rel.setF (f' := ⟨f.names, setVar f.vars x v, f.lam⟩) hp (List.mem_cons_of_mem _ (cin h1)) (fun b ob hb e => (hs'.2 b hb).trans e) (let ⟨o, ho, _⟩ := hn'; ⟨o, ho⟩) fun xx =>
          fr.set xx r (fun m hm => ⟨m, hm.sameBut hs' (nin h1), fun y hy => by rw [if_neg (ne_kind hn hy nofun)]⟩) fun y c2 dv hy g1 g2 => by
              by_cases hq : y = x
              · rw [if_pos hq]
                cases (hq ▸ g1).symm.trans h1
                exact hn'
              · rw [if_neg hq]
                exact g2.sameBut hs' fun q => hq (name_of_addr (List.pairwise_map.mp (List.nodup_cons.mp nd).2) (lookup_memL g1) (q ▸ lookup_memL h1))
        exact k _ ⟨R', x', rfl, ⟨rfl, rfl, rfl⟩, Mono.refl _ _, hk⟩
      | _ => exact none_ne h
end

theorem ite_some {α : Type} {c : Prop} [Decidable c] {o : Option α} {v : α} (h : (if c then o else none) = some v) : c ∧ o = some v := by
  by_cases hc : c
  · rw [if_pos hc] at h; exact ⟨hc, h⟩
  · rw [if_neg hc] at h; exact none_ne h
theorem and_bool {a b : Bool} (h : (a && b) = true) : a = true ∧ b = true := Bool.and_eq_true_iff.mp h
theorem listAt_some {O : Objs} {n : Nat} {l : List V} (h : listAt O n = some l) : O[n]? = some (.list l) := by
  dsimp only [listAt] at h
  cases ho : O[n]? with
  | none => rw [ho] at h; exact none_ne h
  | some o =>
    rw [ho] at h
    cases o with
    | list l' => cases h; rfl
    | _ => exact none_ne h
theorem lenOk_le {k : Nat} (h : lenOk k = true) : k ≤ 1000000 := of_decide_eq_true h
section
variable {w : World} {A : Around} {n b : Nat} {κ : Pl} {F : List Fr} {O : Objs} {s : Shared} {env : Env} {J : WI} {E : Value → Shared → Prop}
theorem Rel.list {h0 h : Heap} {k : Nat} {l : List V} {cv : Value} (R : Rel h0 κ F O h) (e : listAt O k = some l) (r : RV h κ (.ref k) cv) : ∃ a vals, cv = .ref a ∧ κ.ob[k]? = some (.obj a) ∧ h.PlainList a vals ∧ RVs h κ l vals.toList :=
  let ⟨a, e1, hi⟩ := r; let ⟨vals, h1, h2⟩ := R.at' (listAt_some e) hi; ⟨a, vals, e1, hi, h1, h2⟩
theorem items_of {h0 h : Heap} {v : V} {l : List V} {cv : Value} (R : Rel h0 κ F O h) (e : itemsOf O v = some l) (r : RV h κ v cv) : ∃ a vals, cv = .ref a ∧ h.PlainList a vals ∧ RVs h κ l vals.toList := by
  cases v with
  | lst l' => cases e; exact let ⟨a, vals, e, h1, _, h2⟩ := r; ⟨a, vals, e, h1, h2⟩
  | ref k => exact let ⟨a, vals, e1, _, h1, h2⟩ := R.list (k := k) e r; ⟨a, vals, e1, h1, h2⟩
  | _ => exact none_ne e
theorem RVs_size {h : Heap} {l : List V} {vals : Array Value} (r : RVs h κ l vals.toList) : l.length = vals.size := RVs_length r
theorem RVs_empty {h : Heap} {l : List V} {vals : Array Value} (r : RVs h κ l vals.toList) : (!vals.isEmpty) = !l.isEmpty := by
  rw [Array.isEmpty, ← RVs_size r]
  cases l <;> rfl
theorem small63 {k : Nat} (h : k ≤ 1000000) : (k : Int) < 2 ^ 63 := Int.lt_of_le_of_lt (Int.ofNat_le.mpr h) (by decide)
theorem truthL_sound {a : Addr} {vals : Array Value} {l : List V} {Q : Bool → Objs → Prop} (R : RelW w κ F O s.heap) (h : lenOk l.length = true) (hl : s.heap.PlainList a vals) (rs : RVs s.heap κ l vals.toList) (q : Q (!l.isEmpty) O) : wpAny (MW w) A (truthy (.ref a)) (End w b κ F O s EqR Q) E s :=
  wpAny_truthy_list hl.isList (small63 (RVs_size rs ▸ lenOk_le h)) (RVs_empty rs ▸ End.tok R q (RVs_empty rs ▸ rfl))
theorem truth_sound {v : V} {t : Bool} {cv : Value} {Q : Bool → Objs → Prop} (h : truthV O v = some t) (R : RelW w κ F O s.heap) (r : RV s.heap κ v cv) (q : Q t O) : wpAny (MW w) A (truthy cv) (End w b κ F O s EqR Q) E s := by
  cases v with
  | none => cases h; cases r; exact fun _ _ _ => End.here R q rfl
  | bool _ => cases h; cases r; exact fun _ _ _ => End.here R q rfl
  | int i =>
    cases h; obtain ⟨t, rfl⟩ := r
    refine P.truthy_int (End.here R q ?_)
    show (i != 0) = decide (i ≠ 0)
    rw [decide_not]; rfl
  | str l =>
    obtain ⟨t, rfl⟩ := r
    obtain ⟨hl, e'⟩ := ite_some h
    cases e'
    refine P.truthy_str (by rw [S_length]; exact Int.not_le.mpr (small63 (lenOk_le hl))) (End.tok R q ?_)
    show (((S l).length : Int) != 0) = !l.isEmpty
    rw [S_length]
    cases l <;> rfl
  | lst l =>
    obtain ⟨a, vals, rfl, hl, _, rs⟩ := r
    obtain ⟨h1, h2⟩ := ite_some h
    cases h2
    exact truthL_sound R h1 hl rs q
  | ref k =>
    obtain ⟨l, h1, h⟩ := bind_some h
    obtain ⟨h2, h3⟩ := ite_some h
    cases h3
    obtain ⟨a, vals, rfl, _, hl, rs⟩ := R.list h1 r
    exact truthL_sound R h2 hl rs q
  | _ => exact none_ne h
theorem starFree_cons {e : PySem.Expr} {es : List PySem.Expr} (h : starFree (e :: es) = true) : starFree es = true ∧ starEach (e :: es) env = (false, eval e env) :: starEach es env := by
  cases e <;> first | exact ⟨h, rfl⟩ | exact ff_ne h

noncomputable def EvOk (w : World) (n : Nat) (f : PySem.Expr → List Fr → Nat → (V → Objs → Prop) → Objs → Prop) : Prop := ∀ {A s κ F O b env ex Q}, f ex F b Q O → St w A n b κ F O s env → wpAny (MW w) A (eval ex env) (End w b κ F O s RV Q) noE s
theorem wes_sound {f : PySem.Expr → List Fr → Nat → (V → Objs → Prop) → Objs → Prop} (hf : EvOk w n f) {pos : Pos} : ∀ {es : List PySem.Expr} {κ : Pl} {O : Objs} {s : Shared} {Q : List V → Objs → Prop}, wes f es F b Q O → starFree es = true → St w A n b κ F O s env →
    wpAny (MW w) A (spliced (backTo pos (starEach es env))) (End w b κ F O s (RVn es.length) Q) noE s
  | [], _, _, _, _, h, _, t => wpAny_items_nil (End.here t.rel h ⟨RVs_nil, rfl⟩)
  | _ :: _, _, _, _, _, h, hs, t => wpAny_items_cons (End.seq (hf h t) fun q g r => End.seq (wes_sound hf q (starFree_cons (env := env) hs).1 (t.next g)) fun q2 g2 r2 => .mk q2 (g.trans g2) ⟨RVs_cons (RV_mono g2.ext r) r2.1, congrArg (· + 1) r2.2⟩) (starFree_cons hs).2
noncomputable def KwR (nk : List Str) (h : Heap) (κ : Pl) (vs : List (Str × V)) (cs : List Value) : Prop := KsR h κ vs (nk.zip cs)
theorem wks_sound (S : Snd w n J) {pos : Pos} (ks : List Keyword) : ∀ {κ : Pl} {O : Objs} {s : Shared} {Q : List (Str × V) → Objs → Prop}, wks J ks F b Q O → St w A n b κ F O s env →
    wpAny (MW w) A (evalAll ((backToKw pos (keywordEach ks env)).map (·.2))) (End w b κ F O s (KwR ((backToKw pos (keywordEach ks env)).filterMap (·.1))) Q) noE s := by
  induction ks with
  | nil => exact fun h t => wpAny_evalAll_nil (End.here t.rel h rfl)
  | cons k ks ih =>
    intro κ O s Q h t
    obtain ⟨nm, e, p⟩ := k
    cases nm with
    | none => exact False.elim h
    | some x => exact wpAny_evalAll_cons (wpAny_bind (End.seq (S.e h t) fun q g r => wpAny_bind (wpAny_standAt (wpAny_pure (End.seq (ih q (t.next g)) fun q2 g2 r2 => .mk q2 (g.trans g2) ⟨_, _, rfl, RV_mono g2.ext r, r2⟩)))))
theorem wks_all {pos : Pos} (ks : List Keyword) (h : (ks.all fun k => k.arg.isSome) = true) : (backToKw pos (keywordEach ks env)).all (·.1.isSome) = true := by
  induction ks with
  | nil => rfl
  | cons k ks ih =>
    obtain ⟨nm, e, p⟩ := k
    cases nm with
    | none => exact ff_ne h
    | some x => exact ih h
theorem okEs_le {k : Nat} {es : List PySem.Expr} (h : okEs es = true) (e : k = es.length) : k ≤ sizeLine := e ▸ Nat.le_trans (of_decide_eq_true (and_bool h).2) (by decide)
theorem frozen_sound (S : Snd w n J) {pos : Pos} {es : List PySem.Expr} {Q : V → Objs → Prop} (h : Gd (okEs es) (wes J.l es F b (fun vs O1 => Q (.lst vs) O1) O)) (t : St w A n b κ F O s env) : wpAny (MW w) A (eval (.List es pos) env) (End w b κ F O s RV Q) noE s :=
  wpAny_List (End.seq (wes_sound S.l h.out.2 (and_bool h.out.1).1 t) fun q g r => ⟨okEs_le h.out.1 r.2, (new_lst g.rel q r.1).go g⟩)
theorem list_sound (S : Snd w n J) {pos : Pos} {es : List PySem.Expr} {Q : V → Objs → Prop} (h : Gd (okEs es) (wes J.l es F b (fun vs O1 => Q (.ref O1.length) (O1 ++ [.list vs])) O)) (t : St w A n b κ F O s env) : wpAny (MW w) A (eval (.List es pos) env) (End w b κ F O s RV Q) noE s :=
  wpAny_List (End.seq (wes_sound S.l h.out.2 (and_bool h.out.1).1 t) fun q g r => ⟨okEs_le h.out.1 r.2, (new_list g.rel q r.1).go g⟩)
theorem tuple_sound (S : Snd w n J) {k : Nat} {pos : Pos} {es : List PySem.Expr} {Q : V → Objs → Prop} (h : Gd (okEs es) (wes J.e es F b (fun vs O1 => Q (.tup vs) O1) O)) (t : St w A n b κ F O s env) : wpAny (MW w) A (eval (.Tuple es k pos) env) (End w b κ F O s RV Q) noE s :=
  wpAny_Tuple (End.seq (wes_sound S.e h.out.2 (and_bool h.out.1).1 t) fun q g r => ⟨okEs_le h.out.1 r.2, (new_tup g.rel q r.1).go g⟩)

theorem and_sound (S : Snd w n J) {op : BoolOp} {pos : Pos} (es : List PySem.Expr) : ∀ {κ : Pl} {O : Objs} {s : Shared} {Q : V → Objs → Prop}, wAnd J op es F b Q O → St w A n b κ F O s env → wpAny (MW w) A (boolOp pos op (evalEach es env)) (End w b κ F O s RV Q) noE s := by
  induction es with
  | nil => exact fun h => h.elim
  | cons e es ih =>
    cases es with
    | nil => exact fun h t => S.e h t
    | cons e' es =>
      intro κ O s Q h t
      show wpAny (MW w) A (do
        let v ← eval e env
        standAt pos
        let t ← holding [v] (truthy v)
        match op, t with
        | .And, false | .Or, true => pure v
        | _, _ => boolOp pos op (evalEach (e' :: es) env)) _ noE s
      refine wpAny_bind (End.seq (S.e h t) fun {v κ1 O1 cv s1} q g r => wpAny_bind (wpAny_standAt (wpAny_bind (wpAny_holding ?_))))
      obtain ⟨u, h1, q⟩ := q.out
      refine End.seq (truth_sound (b := b) (Q := fun u' O' => u' = u ∧ O' = O1) h1 g.rel r ⟨rfl, rfl⟩) fun {u' κ2 O2 ct s2} q2 g2 r2 => ?_
      obtain ⟨rfl, rfl⟩ := q2
      cases r2
      have r := RV_mono g2.ext r
      have g := g.trans g2
      cases op <;> cases u'
      · exact wpAny_pure (.mk q g r)
      · exact End.on g (ih q (t.next g))
      · exact End.on g (ih q (t.next g))
      · exact wpAny_pure (.mk q g r)
theorem ts_sound (S : Snd w n J) {op : BoolOp} : ∀ {es : List PySem.Expr} {κ : Pl} {O : Objs} {s : Shared} {Q : Bool → Objs → Prop}, wTs J op es F b Q O → St w A n b κ F O s env → wpAny (MW w) A (allTrue op es env) (End w b κ F O s EqR Q) noE s
  | [], _, _, _, _, h, t => wpAny_pure (End.here t.rel h (by cases op <;> rfl))
  | e :: es, κ, O, s, Q, h, t => by
    show wpAny (MW w) A (do
      match op, ← isTrue e env (eval e env) with
      | .And, false => pure false
      | .Or, true => pure true
      | _, _ => allTrue op es env) _ noE s
    refine wpAny_bind (End.seq (S.t h t) fun {u _ _ _ _} q g r => ?_)
    cases r
    cases op <;> cases u
    · exact wpAny_pure (.mk q g rfl)
    · exact End.on g (ts_sound S q (t.next g))
    · exact End.on g (ts_sound S q (t.next g))
    · exact wpAny_pure (.mk q g rfl)

theorem exs_sound (S : Snd w n J) : ∀ {l : List Stmt} {F : List Fr} {κ : Pl} {O : Objs} {s : Shared} {Q : Fl → List Fr → Objs → Prop}, xs J l F b Q O → St w A n b κ F O s env → wpAny (MW w) A (execs l env) (EndS w b κ O s Q) noE s
  | [], _, _, _, _, _, h, t => wpAny_execs_nil (.mk h (Go.refl t.rel) rfl)
  | _ :: l, _, _, _, _, _, h, t => wpAny_execs_cons (EndS.seq (S.s h t) fun {f _ _ _ _ _} q g r => by
    cases f with
    | next => cases r; exact EndS.on g (exs_sound S q (t.next g))
    | ret v => obtain ⟨cv, rfl, rv⟩ := r; exact .mk q g ⟨cv, rfl, rv⟩
    | _ => cases r; exact .mk q g rfl)

inductive Lp (w : World) (b : Nat) (κ : Pl) (O : Objs) (s : Shared) (P : List Fr → Objs → Prop) : Shared → Prop where
  | mk {F' : List Fr} {κ' : Pl} {O' : Objs} {s' : Shared} (p : P F' O') (g : GoW w b κ O s κ' F' O' s') : Lp w b κ O s P s'
theorem while_sound (S : Snd w n J) {test : PySem.Expr} {body : List Stmt} {pos : Pos} {Q : Fl → List Fr → Objs → Prop} {k : Nat} (h : whileW J test body b Q k F O) (t : St w A n b κ F O s env) : wpAny (MW w) A (exec (.While test body [] pos) env) (EndS w b κ O s Q) noE s := by
  refine wpAny_While (codeAny_whileLoop (fun k => Lp w b κ O s (whileW J test body b Q k)) (fun k s1 h => ?_) k (.mk h (Go.refl t.rel)))
  obtain ⟨h, g⟩ := h
  cases k with
  | zero => exact False.elim h
  | succ k =>
    have t := t.next g
    refine End.seq (S.t h t) fun {u _ _ _ _} q g1 r => ?_
    cases r
    have t := t.next g1
    have g := g.trans g1
    cases u with
    | false => exact wpAny_execs_nil (.mk q g rfl)
    | true =>
      refine EndS.seq (exs_sound S q t) fun {f _ _ _ _ _} q g2 r => ?_
      have g := g.trans g2
      cases f with
      | ret v => obtain ⟨cv, rfl, rv⟩ := r; exact .mk q g ⟨cv, rfl, rv⟩
      | brk => cases r; exact .mk q g rfl
      | _ => cases r; exact ⟨k, Nat.lt_succ_self k, .mk q g⟩
end


structure Ops (w : World) : Prop where
  bin : ∀ {A s κ F O b op x y v cx cy Q}, binV O op x y = some v → Ok A 1 → RelW w κ F O s.heap → RV s.heap κ x cx → RV s.heap κ y cy → Q v O → wpAny (MW w) A (binaryOp op cx cy) (End w b κ F O s RV Q) noE s
  inpl : ∀ {A s κ F O b op i j v cx cy Q}, binV O op (.int i) (.int j) = some v → Ok A 1 → RelW w κ F O s.heap → RV s.heap κ (.int i) cx → RV s.heap κ (.int j) cy → Q v O → wpAny (MW w) A (inplaceOp op cx cy) (End w b κ F O s RV Q) noE s
  cmp : ∀ {A s κ F O b op x y t cx cy Q}, cmpV GG O op x y = some t → Ok A 1 → RelW w κ F O s.heap → RV s.heap κ x cx → RV s.heap κ y cy → Q (.bool t) O → wpAny (MW w) A (compareOp op cx cy) (End w b κ F O s RV Q) noE s
  idx : ∀ {A s κ F O b x y v cx cy Q}, indexV O x y = some v → Ok A 1 → RelW w κ F O s.heap → RV s.heap κ x cx → RV s.heap κ y cy → Q v O → wpAny (MW w) A (getItem cx cy) (End w b κ F O s RV Q) noE s
  slice : ∀ {A s κ F O b x lo hi st v cx cl ch cs a Q}, sliceV O x lo hi st = some v → Ok A 1 → RelW w κ F O s.heap → RV s.heap κ x cx → RV s.heap κ lo cl → RV s.heap κ hi ch → RV s.heap κ st cs →
    s.heap.get? a = some { cls := .type "slice", data := .fields #[cl, ch, cs] } → a ∉ κ.mt → Q v O → wpAny (MW w) A (getItem cx (.ref a)) (End w b κ F O s RV Q) noE s
  bi : ∀ {A s κ F O b id a r ca Q}, callB (Str.ofString id) a b O = some r → Ok A 1 → RelW w κ F O s.heap → b ≤ O.length → RVs s.heap κ a ca → Q r.1 r.2 → wpAny (MW w) A (call (.builtin id) ca []) (End w b κ F O s RV Q) noE s
  ty : ∀ {A s κ F O b id a r ca Q}, callY (Str.ofString id) a b O = some r → Ok A 1 → RelW w κ F O s.heap → b ≤ O.length → RVs s.heap κ a ca → Q r.1 r.2 → wpAny (MW w) A (call (.type id) ca []) (End w b κ F O s RV Q) noE s
section
variable {w : World} {A : Around} {n b : Nat} {κ : Pl} {F : List Fr} {O : Objs} {s : Shared} {env : Env} {J : WI} {E : Value → Shared → Prop}
theorem not_b {c : Bool} (h : (!c) = true) : c = false := by
  cases c with
  | false => rfl
  | true => exact ff_ne h
theorem markedEach_cons {op : CmpOp} {ops : List CmpOp} {e : PySem.Expr} {es : List PySem.Expr} {t : Sem Value} {ts : List (Sem Value)} (h : behindInMarks op e = false) : markedEach (op :: ops) (e :: es) (t :: ts) = t :: markedEach ops es ts := by
  cases ops with
  | nil => cases es with
    | nil => cases ts with
      | nil => exact congrArg (· :: []) (markedBehindIn_of_false h)
      | cons => rfl
    | cons => rfl
  | cons => rfl
theorem markedEach_ne {ops : List CmpOp} {es : List PySem.Expr} {t : Sem Value} {ts : List (Sem Value)} : markedEach ops es (t :: ts) ≠ [] := by
  cases ops with
  | nil => cases es <;> exact List.cons_ne_nil _ _
  | cons op ops => cases es with
    | nil => cases ops <;> exact List.cons_ne_nil _ _
    | cons e es => cases ops <;> cases es <;> cases ts <;> exact List.cons_ne_nil _ _
theorem bool_truth {t : Bool} {cv : Value} {Q : Bool → Objs → Prop} (R : RelW w κ F O s.heap) (r : RV s.heap κ (.bool t) cv) (q : Q t O) : wpAny (MW w) A (truthy cv) (End w b κ F O s EqR Q) E s := truth_sound rfl R r q
theorem wpAny_release {M : Model} {vs keep : List Value} {Q : Unit → Shared → Prop} (h : Q () s) : wpAny M A (release vs keep) Q E s := fun Γ p hΓ => by rw [Sem.wp_release]; exact h

theorem link_sound (Op : Ops w) {op : CmpOp} {v a : V} {ca cv : Value} {q : Bool → Prop} {P : Value → Shared → Prop} (h : Lf (cmpV GG O op a v) q) (ok : Ok A 1) (R : RelW w κ F O s.heap) (ra : RV s.heap κ a ca) (rv : RV s.heap κ v cv)
    (k : ∀ {u κ2 ct s2}, q u → GoW w b κ O s κ2 F O s2 → RV s2.heap κ2 (.bool u) ct → P ct s2) : wpAny (MW w) A (compareOp op ca cv) P E s := by
  obtain ⟨u, h1, q⟩ := h.out
  refine End.seq (Op.cmp (b := b) (Q := fun u' O' => u' = .bool u ∧ O' = O) h1 ok R ra rv ⟨rfl, rfl⟩) fun {u' κ2 O2 ct s2} q2 g2 r2 => ?_
  obtain ⟨rfl, rfl⟩ := q2
  exact k q g2 r2
theorem chain_sound (Op : Ops w) (S : Snd w n J) {pos : Pos} {Q : Bool → Objs → Prop} (ok : Ok A 1) (ops : List CmpOp) : ∀ {es : List PySem.Expr} {a : V} {ca : Value} {κ : Pl} {O : Objs} {s : Shared}, wChain GG J a ops es F b Q O → ops.length = es.length → RV s.heap κ a ca → St w A n b κ F O s env →
    wpAny (MW w) A (testChain pos ca ops (markedEach ops es (evalEach es env))) (End w b κ F O s EqR Q) noE s := by
  induction ops with
  | nil => intro es a ca κ O s h; cases es <;> exact h.elim
  | cons op ops ih =>
    intro es a ca κ O s h hl ra t
    cases es with
    | nil => exact h.elim
    | cons e es =>
      rw [show evalEach (e :: es) env = eval e env :: evalEach es env from rfl, markedEach_cons (not_b h.out.1)]
      cases ops with
      | nil =>
        cases es with
        | cons => cases hl
        | nil =>
          show wpAny (MW w) A (do
            let rv ← holding [ca] (eval e env)
            standAt pos
            let c ← operate [ca, rv] (compareOp op ca rv)
            holding [c] (truthy c)) _ noE s
          refine wpAny_bind (wpAny_holding (End.seq (S.l h.out.2 t) fun {v κ1 O1 cv s1} q g r => wpAny_bind (wpAny_standAt (wpAny_bind (wpAny_operateT ?_)))))
          exact link_sound (b := b) Op q ok g.rel (RV_mono g.ext ra) r fun q g2 r2 => wpAny_holding (End.on (g.trans g2) (bool_truth g2.rel r2 q))
      | cons op' ops =>
        cases es with
        | nil => cases hl
        | cons e' es =>
          have ht : ∀ ts : List (Sem Value), ts ≠ [] → testChain pos ca (op :: op' :: ops) (eval e env :: ts) = (do
            let rv ← holding [ca] (eval e env)
            standAt pos
            let c ← holding [ca, rv] (compareOp op ca rv)
            release [ca, rv] [c]
            if ← holding [c, rv] (truthy c) then testChain pos rv (op' :: ops) ts else pure false) := fun ts hts => by
            cases ts with
            | nil => exact absurd rfl hts
            | cons => rfl
          rw [ht _ (show markedEach (op' :: ops) (e' :: es) (evalEach (e' :: es) env) ≠ [] from markedEach_ne)]
          refine wpAny_bind (wpAny_holding (End.seq (S.l h.out.2 t) fun {v κ1 O1 cv s1} q g r => wpAny_bind (wpAny_standAt (wpAny_bind (wpAny_holding ?_)))))
          refine link_sound (b := b) Op q ok g.rel (RV_mono g.ext ra) r fun {u κ2 ct s2} q g2 r2 => ?_
          refine wpAny_bind (wpAny_release (wpAny_bind (wpAny_holding (End.seq (bool_truth (b := b) (Q := fun u' O' => u' = u ∧ O' = O1) g2.rel r2 ⟨rfl, rfl⟩) fun {u' κ3 O3 cu s3} q3 g3 r3 => ?_))))
          obtain ⟨rfl, rfl⟩ := q3
          cases r3
          have r := RV_mono (g2.trans g3).ext r
          have g := g.trans (g2.trans g3)
          cases u' with
          | false => exact wpAny_pure (.mk q g rfl)
          | true => exact End.on g (ih q (Nat.succ.inj hl) r (t.next g))

theorem val_sound {e : PySem.Expr} {Q : Bool → Objs → Prop} (h : wpAny (MW w) A (eval e env) (End w b κ F O s RV fun v O1 => Lf (truthV O1 v) fun t => Q t O1) noE s) (hv : isTrue e env (eval e env) = (do let v ← eval e env; standAt e.pos; holding [v] (truthy v))) :
    wpAny (MW w) A (isTrue e env (eval e env)) (End w b κ F O s EqR Q) noE s := by
  rw [hv]
  exact wpAny_bind (End.seq h fun q g r => let ⟨u, h1, q⟩ := q.out; wpAny_bind (wpAny_standAt (wpAny_holding (End.on g (truth_sound h1 g.rel r q)))))
theorem stepT_sound (Op : Ops w) (S : Snd w n J) (SE : ∀ {ex : PySem.Expr} {Q}, stepE GG J ex F b Q O → wpAny (MW w) A (eval ex env) (End w b κ F O s RV Q) noE s) {e : PySem.Expr} {Q : Bool → Objs → Prop} (h : stepT GG J e F b Q O) (t : St w A (n + 1) b κ F O s env) :
    wpAny (MW w) A (isTrue e env (eval e env)) (End w b κ F O s EqR Q) noE s := by
  cases e with
  | UnaryOp op x p =>
    cases op with
    | Not => exact wpAny_isTrue_Not (End.seq (S.t h t.dn) fun q g r => .mk q g (congrArg (!·) r))
    | _ => exact val_sound (SE h) rfl
  | BoolOp op vs p => exact wpAny_isTrue_BoolOp (ts_sound S h t.dn)
  | IfExp c x y p =>
    show wpAny _ A (do if ← isTrue c env (eval c env) then isTrue x env (eval x env) else isTrue y env (eval y env)) _ noE s
    refine wpAny_bind (End.seq (S.t h t.dn) fun {u _ _ _ _} q g r => ?_)
    cases r
    cases u with
    | true => exact End.on g (S.t q (t.dn.next g))
    | false => exact End.on g (S.t q (t.dn.next g))
  | Compare l ops rs p =>
    show wpAny _ A (do testChain p (← eval l env) ops (markedEach ops rs (evalEach rs env))) _ noE s
    exact wpAny_bind (End.seq (S.l h.out.2 t.dn) fun q g r => End.on g (chain_sound Op S t.ok.one _ q (eq_of_beq h.out.1) r (t.dn.next g)))
  | _ => exact val_sound (SE h) rfl

theorem wOpt_sound (S : Snd w n J) {e : Option PySem.Expr} {Q : V → Objs → Prop} (h : wOpt J e F b Q O) (t : St w A n b κ F O s env) : wpAny (MW w) A (evalPart e env) (End w b κ F O s RV Q) noE s := by
  cases e with
  | none => rw [evalPart_none]; exact wpAny_pure (End.here t.rel h rfl)
  | some e => rw [evalPart_some]; exact S.e h t

noncomputable def HasItems (s : Shared) (cx : Value) : Prop := ∃ T id, typeLookup (.type T) "__getitem__" = pure (some (.builtin id)) ∧ s.TypeIs cx T
theorem lst_type {a : Addr} {vals : Array Value} (h : s.heap.PlainList a vals) : HasItems s (.ref a) := let ⟨_, ho⟩ := h; ⟨"list", _, list_getitem_lookup, _, ho, rfl⟩
theorem ref_type {k : Nat} {l : List V} {cx : Value} (R : RelW w κ F O s.heap) (h : listAt O k = some l) (r : RV s.heap κ (.ref k) cx) : HasItems s cx := let ⟨_, _, e, _, hl, _⟩ := R.list h r; e ▸ lst_type hl
theorem tup_type {l : List V} {cx : Value} (r : RV s.heap κ (.tup l) cx) : HasItems s cx := let ⟨_, _, e, ⟨_, ho⟩, _⟩ := r; e ▸ ⟨"tuple", _, slot_tuple_getitem.lookup, _, ho, rfl⟩
theorem str_type {l : List Nat} {cx : Value} (r : RV s.heap κ (.str l) cx) : HasItems s cx := let ⟨_, e⟩ := r; e ▸ ⟨"str", _, PySem.F.slot_str_getitem.lookup, typeIs_str _ _ _⟩
theorem lstv_type {l : List V} {cx : Value} (r : RV s.heap κ (.lst l) cx) : HasItems s cx := let ⟨_, _, e, hl, _⟩ := r; e ▸ lst_type hl
theorem idx_type {x y v : V} {cx : Value} (h : indexV O x y = some v) (R : RelW w κ F O s.heap) (r : RV s.heap κ x cx) : HasItems s cx := by
  cases y with
  | int k => cases x with
    | ref k => exact let ⟨l, h1, _⟩ := bind_some h; ref_type R h1 r
    | tup l => exact tup_type r
    | str l => exact str_type r
    | lst l => exact lstv_type r
    | _ => exact none_ne h
  | _ => exact none_ne h
theorem slice_type {x lo hi st v : V} {cx : Value} (h : sliceV O x lo hi st = some v) (R : RelW w κ F O s.heap) (r : RV s.heap κ x cx) : HasItems s cx := by
  obtain ⟨_, _, h⟩ := bind_some h
  obtain ⟨_, _, h⟩ := bind_some h
  obtain ⟨_, _, h⟩ := bind_some h
  cases x with
  | ref k => exact let ⟨l, h1, _⟩ := bind_some h; ref_type R h1 r
  | tup l => exact tup_type r
  | str l => exact str_type r
  | lst l => exact lstv_type r
  | _ => exact none_ne h
theorem Subscript_late {value slice : PySem.Expr} {pos : Pos} {Q : Value → Shared → Prop}
    (h : wpAny (MW w) A (eval value env) (fun o s₁ => wpAny (MW w) A (eval slice env) (fun i s₂ => HasItems s₂ o ∧ wpAny (MW w) A (getItem o i) Q E s₂) E s₁) E s) :
    wpAny (MW w) A (eval (.Subscript value slice pos) env) Q E s := by
  rw [eval_Subscript]
  refine wpAny_bind (wpAny_mono h (fun o s₁ h₁ => wpAny_bind (wpAny_holding (wpAny_mono h₁ (fun i s₂ h₂ => wpAny_bind (wpAny_standAt ?_)) fun _ _ x => x))) fun _ _ x => x)
  obtain ⟨⟨T, id, hl, hT⟩, hg⟩ := h₂
  refine wpAny_bind ?_
  rw [getitemInPython_of_ne hT.not_modules]
  refine wpAny_bind (wpAny_specialOf hT hl (wpAny_pure ?_))
  have fin : ∀ vs, wpAny (MW w) A (operate vs (getItem o i)) (fun r s₃ => wpAny (MW w) A (letTemporaryGo value o r >>= fun _ => pure r) Q E s₃) E s₂ := fun vs =>
    wpAny_operating (wpAny_mono hg (fun r s₃ h₃ => wpAny_bind (wpAny_letTemporaryGo (wpAny_pure h₃))) fun _ _ x => x)
  refine wpAny_bind ?_
  unfold subscripted
  split <;> first | exact fin _ | contradiction
theorem sub_sound (Op : Ops w) (S : Snd w n J) {x i : PySem.Expr} {pos : Pos} {Q : V → Objs → Prop} (h : J.e x F b (fun x O1 => J.e i F b (fun y O2 => Lf (indexV O2 x y) fun r => Q r O2) O1) O) (t : St w A n b κ F O s env) (ok : Ok A 1) : wpAny (MW w) A (eval (.Subscript x i pos) env) (End w b κ F O s RV Q) noE s :=
  Subscript_late (End.seq (S.e h t) fun q g r => End.seq (S.e q (t.next g)) fun q2 g2 r2 => let ⟨_, h1, q⟩ := q2.out
    ⟨idx_type h1 g2.rel (RV_mono g2.ext r), End.on (g.trans g2) (Op.idx h1 ok g2.rel (RV_mono g2.ext r) r2 q)⟩)
theorem slc_sound (Op : Ops w) (S : Snd w n J) {x : PySem.Expr} {lo hi st : Option PySem.Expr} {p pos : Pos} {Q : V → Objs → Prop}
    (h : J.e x F b (fun x O1 => wOpt J lo F b (fun l O2 => wOpt J hi F b (fun h O3 => wOpt J st F b (fun s O4 => Lf (sliceV O4 x l h s) fun r => Q r O4) O3) O2) O1) O) (t : St w A n b κ F O s env) (ok : Ok A 1) : wpAny (MW w) A (eval (.Subscript x (.Slice lo hi st p) pos) env) (End w b κ F O s RV Q) noE s :=
  Subscript_late (End.seq (S.e h t) fun q g r => wpAny_Slice (End.seq (wOpt_sound S q (t.next g)) fun q2 g2 r2 => End.seq (wOpt_sound S q2 ((t.next g).next g2)) fun q3 g3 r3 => End.seq (wOpt_sound S q3 (((t.next g).next g2).next g3)) fun q4 g4 r4 =>
    let ⟨_, h1, q⟩ := q4.out
    have gp := Go.push (b := b) g4.rel _
    have rx := RV_mono (((g2.trans g3).trans g4).trans gp).ext r
    ⟨slice_type h1 gp.rel rx, End.on ((((g.trans g2).trans g3).trans g4).trans gp) (Op.slice h1 ok gp.rel rx (RV_mono ((g3.trans g4).trans gp).ext r2) (RV_mono (g4.trans gp).ext r3) (RV_mono gp.ext r4) (Heap.get?_push_size _ rfl) g4.rel.size_off q)⟩))
end

section
variable {w : World} {A : Around} {n b : Nat} {κ κ1 : Pl} {F F1 : List Fr} {O O1 : Objs} {s s1 s2 : Shared} {env : Env} {J : WI} {E : Value → Shared → Prop}
theorem setAll_cons {F F1 : List Fr} {e : PySem.Expr} {es : List PySem.Expr} {vs : List V} (h : setAll F (e :: es) vs = some F1) : ∃ x p v r F2, e = .Name x p ∧ vs = v :: r ∧ setTop F x v = some F2 ∧ setAll F2 es r = some F1 := by
  cases vs with
  | nil => exact none_ne h
  | cons v r =>
    cases e with
    | Name x p => obtain ⟨F2, h1, h2⟩ := bind_some h; exact ⟨x, p, v, r, F2, rfl, rfl, h1, h2⟩
    | _ => exact none_ne h
theorem setAll_shape (es : List PySem.Expr) : ∀ {vs : List V} {F F1 : List Fr}, setAll F es vs = some F1 → (assignEach es env).length = vs.length ∧ (assignEach es env).findIdx? (·.1) = none := by
  induction es with
  | nil => intro vs F F1 h; cases vs with | nil => exact ⟨rfl, rfl⟩ | cons => exact none_ne h
  | cons e es ih =>
    intro vs F F1 h
    obtain ⟨x, p, v, r, F2, rfl, rfl, _, h2⟩ := setAll_cons h
    obtain ⟨h3, h4⟩ := ih h2
    refine ⟨congrArg (· + 1) h3, ?_⟩
    show List.findIdx? _ (_ :: _) = none
    rw [List.findIdx?_cons, h4]; rfl
theorem setAll_sound {P : Unit → Shared → Prop} (es : List PySem.Expr) : ∀ {vs : List V} {cvs : List Value} {F F1 : List Fr} {s : Shared}, setAll F es vs = some F1 → St w A n b κ F O s env → RVs s.heap κ vs cvs → (∀ s1, GoW w b κ O s κ F1 O s1 → P () s1) → wpAny (MW w) A (assignInOrder ((assignEach es env).map (·.2)) cvs) P E s := by
  induction es with
  | nil =>
    intro vs cvs F F1 s h t r k
    cases vs with
    | nil => cases h; cases r; exact wpAny_pure (k _ (Go.refl t.rel))
    | cons => exact none_ne h
  | cons e es ih =>
    intro vs cvs F F1 s h t r k
    obtain ⟨x, p, v, r', F2, rfl, rfl, h1, h2⟩ := setAll_cons h
    obtain ⟨cv, cvs, rfl, r1, r2⟩ := r
    show wpAny (MW w) A (assignInOrder (assign (.Name x p) env :: (assignEach es env).map (·.2)) (cv :: cvs)) _ E s
    exact wpAny_assignInOrder_more (wpAny_assign_Name (setTop_sound t h1 r1 fun s1 g => ih h2 (t.next g) (RVs_mono g.ext r2) fun s2 g2 => k s2 (g.trans g2)))
theorem setTgt_sound {tgt : PySem.Expr} {v : V} {cv : Value} {P : Unit → Shared → Prop} (t : St w A n b κ F O s env) (h : setTgt F tgt v = some F1) (r : RV s.heap κ v cv) (k : ∀ s1, GoW w b κ O s κ F1 O s1 → P () s1) : wpAny (MW w) A (assign tgt env cv) P E s := by
  cases tgt with
  | Name x p => exact wpAny_assign_Name (setTop_sound t h r k)
  | Tuple es _ p =>
    cases v with
    | tup l =>
      obtain ⟨a, vals, rfl, ht, ha, rs⟩ := r
      have h1 := setAll_shape (env := env) es h
      refine wpAny_assign_Tuple t.ok.hd ht.isTuple (by rw [h1.1]; exact RVs_size rs) h1.2 fun h' he => ?_
      have g : GoW w b κ O s κ F O { s with heap := h' } := Go.grow t.rel (fun b o e => he b o (fun q => by rw [q, new_none (Nat.le_refl _)] at e; exact none_ne e) e) ⟨rfl, rfl, rfl⟩
      exact setAll_sound es h (t.next g) (RVs_mono g.ext rs) fun s1 g1 => k s1 (g.trans g1)
    | _ => exact none_ne h
  | _ => exact none_ne h

theorem Go.mt (g : GoW w b κ O s κ1 F1 O1 s1) {a : Addr} (h : a ∈ κ.mt) : a ∈ κ1.mt := by
  obtain ⟨l, e⟩ := g.ext.pre
  rcases List.mem_append.mp h with h | h
  · exact List.mem_append_left _ (g.frs ▸ h)
  · rcases List.mem_append.mp h with h | h
    · exact Pl.mt_hid (g.hid a h).1
    · exact List.mem_append_right _ (List.mem_append_right _ (e ▸ List.map_append ▸ List.mem_append_left _ h))
theorem Go.old (g : GoW w b κ O s κ1 F1 O1 s1) {a : Addr} (h : s1.heap.get? a = none) : s.heap.get? a = none := by
  cases ho : s.heap.get? a with
  | none => rfl
  | some o =>
    by_cases hm : a ∈ κ.mt
    · obtain ⟨o', e⟩ := g.rel.ex a (g.mt hm); exact nomatch h.symm.trans e
    · exact nomatch h.symm.trans (g.ext.keep a o ho hm)
theorem Rel.touch {h0 h h' : Heap} {H hid' : List Addr} (R : Rel h0 κ F O h) (hH : ∀ a ∈ H, a ∈ κ.hid) (sub : hid'.Sublist κ.hid) (k : ∀ b o, b ∉ H → h.get? b = some o → h'.get? b = some o) (hx : ∀ a ∈ hid', a ∈ H → ∃ o, h'.get? a = some o) :
    Rel h0 ⟨κ.fr, κ.ob, hid'⟩ F O h' ∧ Ext h κ h' ⟨κ.fr, κ.ob, hid'⟩ :=
  have sm : (Pl.mt ⟨κ.fr, κ.ob, hid'⟩).Sublist κ.mt := (List.Sublist.refl _).append (sub.append (List.Sublist.refl _))
  have x : Ext h κ h' ⟨κ.fr, κ.ob, hid'⟩ := ⟨List.prefix_rfl, fun b o hb hn => k b o (fun q => hn (Pl.mt_hid (hH b q))) hb, fun b hb hn => absurd (sm.subset hb) hn⟩
  ⟨{ len := R.len
     flen := R.flen
     base := fun b o hb => k b o (fun q => nomatch (R.off b (Pl.mt_hid (hH b q))).symm.trans hb) (R.base b o hb)
     off := fun a ha => R.off a (sm.subset ha)
     nd := R.nd.sublist sm
     ex := fun a ha => (Classical.em (a ∈ H)).elim (fun q => (List.mem_append.mp ha).elim (fun z => by
          obtain ⟨p, hp, hap⟩ := List.mem_flatMap.mp z
          obtain ⟨i, hi⟩ := List.mem_iff_getElem?.mp hp
          exact absurd (List.mem_append_left _ (hH a q)) (fr_off R.nd hi hap)) fun z => (List.mem_append.mp z).elim (fun z => hx a z q) fun z => by
          obtain ⟨c, hc, rfl⟩ := List.mem_map.mp z
          obtain ⟨i, hi⟩ := List.mem_iff_getElem?.mp hc
          exact absurd rfl (hid_ob R.nd (hH _ q) hi)) fun q => let ⟨o, ho⟩ := R.ex a (sm.subset ha); ⟨o, k a o q ho⟩
     objs := fun i o c e e' => ObjR_mono x (fun ob q => k _ ob (fun z => hid_ob R.nd (hH _ z) e' rfl) q) (R.objs i o c e e')
     frs := fun i f p e e' => FrameR_mono x (fun b hb ob q => k b ob (fun z => fr_off R.nd e' hb (List.mem_append_left _ (hH b z))) q) (R.frs i f p e e')
     tab := R.tab }, x⟩
noncomputable def ownedNames : List String := ["enumerate", "zip", "dict_itemiterator", "dict_reverseitemiterator", "odict_iterator", "itertools.zip_longest", "itertools.pairwise"]

noncomputable def ItO (o : Obj) : Prop := ∃ n, o.cls = .type n ∧ ownedNames.contains n = false
inductive SrcR (w : World) (h : Heap) (κ : Pl) : Src → Addr → List Addr → Prop
  | walk {l : List V} {I : Addr} {fp : List Addr} {n k : Nat} {Pv : Nat → Value → Prop} {St : Nat → Heap → Prop}
      (W : ∀ A : Around, A.handled = none → Walks PG w A I fp [I] n Pv St) (cls : ∀ i h', St i h' → ∃ o, h'.get? I = some o ∧ ItO o)
      (st : St k h) (len : n = k + l.length) (fps : ∀ b ∈ fp, b = I ∨ b ∉ κ.mt ∧ ∃ o, h.get? b = some o)
      (vals : ∀ j v cv, l[j]? = some v → Pv (k + j) cv → RV h κ v cv) : SrcR w h κ (.items l) I [I]
  | live {I a : Addr} {n k : Nat} (it : h.IsListIter I a k) (at_ : κ.ob[n]? = some (.obj a)) : SrcR w h κ (.live n k) I [I]
  | enum {e it l : Addr} {i : Nat} {items : Array Value} {vs : List V} {old : Value} (hei : e ≠ it)
      (he : IsEnum h e it i old) (hit : h.IsListIter it l i) (hl : h.PlainList l items) (o3 : l ∉ κ.mt)
      (vals : RVs h κ vs (items.toList.drop i)) : SrcR w h κ (.items ((vs.zipIdx i).map fun y => .tup [.int y.2, y.1])) e [e, it]
theorem SrcR.go {src : Src} {I : Addr} {H : List Addr} (S : SrcR w s.heap κ src I H) (x : Ext s.heap κ s1.heap κ1) (hk : ∀ a ∈ κ.hid, a ∈ κ1.hid ∧ ∀ o, s.heap.get? a = some o → s1.heap.get? a = some o) (hH : ∀ a ∈ H, a ∈ κ.hid) : SrcR w s1.heap κ1 src I H := by
  cases S with
  | walk W cls st len fps vals =>
    have hI := hH I (List.mem_cons_self ..)
    exact .walk W cls ((W {} rfl).frame _ _ _ st fun b hb ob hob => (fps b hb).elim (fun q => (hk b (q ▸ hI)).2 ob hob) fun q => x.keep b ob hob q.1) len
      (fun b hb => (fps b hb).imp id fun ⟨h1, ob, hob⟩ => ⟨x.off hob h1, ob, x.keep b ob hob h1⟩) fun j v cv hj hp => RV_mono x (vals j v cv hj hp)
  | live it at_ =>
    obtain ⟨o, ho, r⟩ := it
    exact .live ⟨o, (hk I (hH I (List.mem_cons_self ..))).2 o ho, r⟩ (pre_get x.pre at_)
  | @enum e it l i items vs old hei he hit hl o3 vals =>
    obtain ⟨o, ho, r⟩ := hit
    obtain ⟨n, hn⟩ := hl
    exact .enum hei ((hk I (hH I (List.mem_cons_self ..))).2 _ he) ⟨o, (hk it (hH it (List.mem_cons_of_mem _ (List.mem_cons_self ..)))).2 _ ho, r⟩ ⟨n, x.keep _ _ hn o3⟩ (x.off hn o3) (RVs_mono x vals)

structure Turn (w : World) (b : Nat) (FR : List FP) (κ : Pl) (O : Objs) (s : Shared) (src : Src) (I : Addr) (H : List Addr) (F1 : List Fr) (O1 : Objs) (κ1 : Pl) (s1 : Shared) : Prop where
  go : GoF (HW w) b FR κ O s κ1 F1 O1 s1
  src : SrcR w s1.heap κ1 src I H
  new : ∀ a ∈ H, s.heap.get? a = none
  hid : ∀ a ∈ H, a ∈ κ1.hid

noncomputable def TgtOk (I : Addr) (H : List Addr) (tgt : PySem.Expr) : Prop := (∃ i, H = [I, i]) → isTup tgt = true
variable {src : Src} {I : Addr} {H : List Addr} {FR : List FP}
theorem Turn.on {κ2 : Pl} {F2 : List Fr} {O2 : Objs} (T : Turn w b FR κ O s src I H F1 O1 κ1 s1) (g : GoW w b κ1 O1 s1 κ2 F2 O2 s2) : Turn w b FR κ O s src I H F2 O2 κ2 s2 := ⟨T.go.trans g, T.src.go g.ext g.hid T.hid, T.new, fun a h => (g.hid a (T.hid a h)).1⟩
theorem Turn.after {κ2 : Pl} {F2 : List Fr} {O2 : Objs} (g : GoW w b κ O s κ1 F1 O1 s1) (T : Turn w b κ1.fr κ1 O1 s1 src I H F2 O2 κ2 s2) : Turn w b κ.fr κ O s src I H F2 O2 κ2 s2 := ⟨g.trans T.go, T.src, fun a h => g.old (T.new a h), T.hid⟩
theorem GoF.raw {hid' : List Addr} (g : GoF (HW w) b FR κ O s κ1 F1 O1 s1) (new : ∀ a ∈ H, s.heap.get? a = none) (hH : ∀ a ∈ H, a ∈ κ1.hid) (R0 : RelW w κ F O s.heap) (sub : hid'.Sublist κ1.hid) (old : ∀ a ∈ κ1.hid, a ∉ H → a ∈ hid') (k : ∀ b o, b ∉ H → s1.heap.get? b = some o → s2.heap.get? b = some o) (hx : ∀ a ∈ hid', a ∈ H → ∃ o, s2.heap.get? a = some o) (q : SameRest s1 s2) :
    GoF (HW w) b FR κ O s ⟨κ1.fr, κ1.ob, hid'⟩ F1 O1 s2 ∧ Ext s1.heap κ1 s2.heap ⟨κ1.fr, κ1.ob, hid'⟩ :=
  let ⟨R, x⟩ := g.rel.touch hH sub k hx
  ⟨⟨R, g.ext.trans x, g.frs, ⟨q.1.trans g.rest.1, q.2.1.trans g.rest.2.1, q.2.2.trans g.rest.2.2⟩, g.mono, fun a h =>
    have na : a ∉ H := fun z => let ⟨o, ho⟩ := R0.ex a (Pl.mt_hid h); nomatch (new a z).symm.trans ho
    ⟨old a (g.hid a h).1 na, fun o e => k a o na ((g.hid a h).2 o e)⟩⟩, x⟩

theorem Turn.drop (T : Turn w b FR κ O s src I H F1 O1 κ1 s1) (R0 : RelW w κ F O s.heap) (k : ∀ b o, b ∉ H → s1.heap.get? b = some o → s2.heap.get? b = some o) (q : SameRest s1 s2) : ∃ κ2, κ2.ob = κ1.ob ∧ GoF (HW w) b FR κ O s κ2 F1 O1 s2 :=
  ⟨⟨κ1.fr, κ1.ob, κ1.hid.filter fun a => !H.contains a⟩, rfl, (T.go.raw T.new T.hid R0 (hid' := κ1.hid.filter fun a => !H.contains a) List.filter_sublist (fun a h hn => List.mem_filter.mpr ⟨h, by simpa using hn⟩) k (fun a h hH => absurd hH (by simpa using (List.mem_filter.mp h).2)) q).1⟩

theorem Turn.step' {src' : Src} {v : V} {cv : Value} (T : Turn w b FR κ O s src I H F1 O1 κ1 s1) (R0 : RelW w κ F O s.heap) (k : ∀ b o, b ∉ H → s1.heap.get? b = some o → s2.heap.get? b = some o) (hx : ∀ a ∈ H, ∃ o, s2.heap.get? a = some o) (q : SameRest s1 s2)
    (sr : Ext s1.heap κ1 s2.heap κ1 → SrcR w s2.heap κ1 src' I H ∧ RV s2.heap κ1 v cv) : Turn w b FR κ O s src' I H F1 O1 κ1 s2 ∧ RV s2.heap κ1 v cv :=
  let ⟨g, x⟩ := T.go.raw T.new T.hid R0 (hid' := κ1.hid) (List.Sublist.refl _) (fun a h _ => h) k (fun a _ h => hx a h) q
  ⟨⟨g, (sr x).1, T.new, T.hid⟩, (sr x).2⟩

theorem letGo_other {tgt : PySem.Expr} {cv : Value} {Q : Unit → Shared → Prop} (it : ∃ o, s.heap.get? I = some o ∧ ItO o) (h : Q () s) : wpAny (MW w) A (letOwnedTupleGo tgt (.ref I) cv) Q E s := by
  obtain ⟨o, ho, n, hn, hno⟩ := it
  unfold letOwnedTupleGo
  split
  all_goals first
    | exact wpAny_pure h
    | (cases cv with
       | ref a =>
         refine wpAny_bind (wpAny_load ho ?_)
         rw [hn]
         cases hd : o.data <;> first
           | exact wpAny_pure h
           | (show wpAny _ _ (if (ownedNames.contains n && _) = true then _ else _) _ _ _
              rw [hno, Bool.false_and, if_neg Bool.false_ne_true]
              exact wpAny_pure h)
       | _ => exact wpAny_pure h)
theorem It_of {h : Heap} {o : Obj} {n : String} (ho : h.get? I = some o) (hc : o.cls = .type n) (h2 : ownedNames.contains n = false) : ∃ o, h.get? I = some o ∧ ItO o := ⟨o, ho, n, hc, h2⟩
theorem listIter_it {h : Heap} {a : Addr} {k : Nat} (it : h.IsListIter I a k) : ∃ o, h.get? I = some o ∧ ItO o := let ⟨_, ho, hc, _⟩ := it; It_of ho hc (by decide)
theorem one_off {a b : Addr} (h : b ≠ a) : b ∉ [a] := fun q => h (List.mem_singleton.mp q)
theorem off_one {a b : Addr} (h : b ∉ [a]) : b ≠ a := fun q => h (q ▸ List.mem_cons_self ..)
theorem Turn.step {tgt : PySem.Expr} {q : Option (V × Src) → Prop} {P : Option Value → Shared → Prop} (T : Turn w b FR κ O s src I H F1 O1 κ1 s1) (R0 : RelW w κ F O s.heap) (hh : A.handled = none) (ht : TgtOk I H tgt) (hn : Lf (nextOf O1 src) q)
    (kn : ∀ {κ2 s2}, q none → κ2.ob = κ1.ob → GoF (HW w) b FR κ O s κ2 F1 O1 s2 → P none s2)
    (ks : ∀ {v src' cv s2}, q (some (v, src')) → wpAny (MW w) A (letOwnedTupleGo tgt (.ref I) cv) (fun _ s3 => Turn w b FR κ O s src' I H F1 O1 κ1 s3 ∧ RV s3.heap κ1 v cv) E s2 → P (some cv) s2) : wpAny (MW w) A (pyNext (.ref I)) P E s1 := by
  obtain ⟨x, h1, hq⟩ := hn.out
  have hT := T
  obtain ⟨_, S, _, hid⟩ := T
  cases S with
  | @walk l I fp n k Pv St W cls st len fps vals =>
    cases l with
    | nil => cases h1; exact (W A hh).done s1 _ _ (len ▸ st) fun h' tk hk => let ⟨_, e0, g⟩ := hT.drop (s2 := { s1 with heap := h', toks := tk }) R0 hk ⟨rfl, rfl, rfl⟩; kn hq e0 g
    | cons v l =>
      cases h1
      refine (W A hh).item k s1 _ _ (len ▸ Nat.lt_add_of_pos_right (Nat.succ_pos _)) st fun cv h' tk hp st' hk => ks hq (letGo_other (cls _ _ st') (hT.step' R0 hk (fun a h => let ⟨o, ho, _⟩ := cls _ _ st'; ⟨o, List.mem_singleton.mp h ▸ ho⟩) ⟨rfl, rfl, rfl⟩ fun x => ⟨?_, RV_mono x (vals 0 v cv rfl hp)⟩))
      exact .walk W cls st' (len.trans (Nat.add_right_comm k l.length 1)) (fun b hb => (fps b hb).imp id fun ⟨h1, ob, hob⟩ => ⟨h1, ob, x.keep b ob hob h1⟩) fun j v' cv' hj hp' => RV_mono x (vals (j + 1) v' cv' hj (Nat.add_right_comm k 1 j ▸ hp'))
  | @live I a n k it at_ =>
    obtain ⟨l, hl, e⟩ := map_some h1
    obtain ⟨a', vals, e', hi, hpl, rs⟩ := hT.go.rel.list hl ⟨a, rfl, at_⟩
    cases e'
    cases hk : l[k]? with
    | none =>
      rw [hk] at e; cases e
      exact wpAny_pyNext_list_end hh it hpl.isList (Array.getElem?_eq_none (RVs_size rs ▸ List.getElem?_eq_none_iff.mp hk)) fun h' he => let ⟨_, e0, g⟩ := hT.drop (s2 := { s1 with heap := h' }) R0 (fun b o hb e => he b o (off_one hb) e) ⟨rfl, rfl, rfl⟩; kn hq e0 g
    | some v =>
      rw [hk] at e; cases e
      obtain ⟨cv, hcv, rv⟩ := RVs_get rs hk
      refine wpAny_pyNext_list_item it hpl.isList (x := cv) (Array.getElem?_toList ▸ hcv) fun h' hit' hs' => ks hq (letGo_other (listIter_it hit') (hT.step' R0 (fun b o hb e => hs'.extBut b o (off_one hb) e) (fun a h => let ⟨o, ho, _⟩ := hit'; ⟨o, List.mem_singleton.mp h ▸ ho⟩) ⟨rfl, rfl, rfl⟩ fun x => ⟨.live hit' at_, RV_mono x rv⟩))
  | @enum e it l i items vs old hei he hit hl o3 vals =>
    have htu := ht ⟨_, rfl⟩
    cases tgt with
    | Tuple es kk p =>
      cases vs with
      | nil =>
        cases h1
        refine wpAny_pyNext_enum_end hh he hit hl.isList (Array.getElem?_eq_none ?_) fun h' hx => let ⟨_, e0, g⟩ := hT.drop (s2 := { s1 with heap := h' }) R0 (fun b o hb e => hx b o (fun q => hb (q ▸ List.mem_cons_of_mem _ (List.mem_cons_self ..))) e) ⟨rfl, rfl, rfl⟩; kn hq e0 g
        exact List.drop_eq_nil_iff.mp vals
      | cons v vs =>
        cases h1
        obtain ⟨cv, r, er, rv, rvs⟩ := vals
        have hx : items[i]? = some cv := by
          have := List.getElem?_drop (xs := items.toList) (i := i) (j := 0)
          rw [er, Nat.add_zero] at this
          rw [← Array.getElem?_toList]; exact this.symm
        have hr : items.toList.drop (i + 1) = r := by rw [← List.drop_drop, er]; rfl
        have hnew : s1.heap.get? s1.heap.objs.size = none := new_none (Nat.le_refl _)
        have hTe : s1.heap.objs.size ≠ I := fun q => nomatch (q ▸ hnew).symm.trans he
        have hle : l ≠ I := fun q => o3 (q ▸ Pl.mt_hid (hid _ (List.mem_cons_self ..)))
        have hli : l ≠ it := fun q => o3 (q ▸ Pl.mt_hid (hid _ (List.mem_cons_of_mem _ (List.mem_cons_self ..))))
        refine wpAny_pyNext_enum_item he hit hl.isList hx hei fun h' ho hit' hT' hsz hk => ks hq (wpAny_letOwnedTupleGo_enum ho fun h'' he'' hs'' => ?_)
        have hb' : ∀ {b o}, b ≠ I → h'.get? b = some o → h''.get? b = some o := fun hbe x => (hs''.2 _ hbe).trans x
        obtain ⟨nl, hnl⟩ := hl
        obtain ⟨oi, hoi, ri⟩ := hit'
        refine hT.step' R0 (fun b o hb x => hb' (fun q => hb (q ▸ List.mem_cons_self ..)) (hk b o (fun q => hb (q ▸ List.mem_cons_self ..)) (fun q => hb (q ▸ List.mem_cons_of_mem _ (List.mem_cons_self ..))) x)) (fun a h => ?_) ⟨rfl, rfl, rfl⟩ fun x => ⟨.enum hei he'' ⟨oi, hb' (Ne.symm hei) hoi, ri⟩ ⟨nl, hb' hle (hk l _ hle hli hnl)⟩ o3 (hr ▸ RVs_mono x rvs), ?_⟩
        · rcases List.mem_cons.mp h with h | h
          · exact ⟨_, h ▸ he''⟩
          · exact ⟨oi, List.mem_singleton.mp h ▸ hb' (Ne.symm hei) hoi⟩
        · exact ⟨_, _, rfl, ⟨0, hb' hTe hT'⟩, hT.go.rel.size_off, RVs_cons ⟨_, rfl⟩ (RVs_cons (RV_mono x rv) RVs_nil)⟩
    | _ => exact ff_ne htu
end

section
variable {w : World} {A : Around} {n b : Nat} {κ κ1 : Pl} {F F1 : List Fr} {O O1 : Objs} {s s1 s2 : Shared} {env : Env} {J : WI} {E : Value → Shared → Prop}
variable {src : Src} {I : Addr} {H : List Addr}
theorem Go.hide {new : List Addr} {h' : Heap} (R : RelW w κ F O s.heap) (k : ∀ b o, s.heap.get? b = some o → h'.get? b = some o) (hn : ∀ a ∈ new, s.heap.get? a = none ∧ ∃ o, h'.get? a = some o) (nd : new.Nodup) : GoW w b κ O s ⟨κ.fr, κ.ob, new ++ κ.hid⟩ F O { s with heap := h' } :=
  let ⟨R', x⟩ := R.addH k hn nd
  ⟨R', x, rfl, ⟨rfl, rfl, rfl⟩, Mono.refl _ _, fun a h => ⟨List.mem_append_right _ h, fun o e => k a o e⟩⟩
theorem made {o : Obj} (R : RelW w κ F O s.heap) (f : o.isFreed = false)
    (h : ∀ κ', Ext s.heap κ (s.heap.push o) κ' → (s.heap.push o).get? s.heap.objs.size = some o → (∀ b, b ∈ κ'.mt → b = s.heap.objs.size ∨ b ∈ κ.mt) → SrcR w (s.heap.push o) κ' src s.heap.objs.size [s.heap.objs.size]) :
    ∃ κ', Turn w b κ.fr κ O s src s.heap.objs.size [s.heap.objs.size] F O κ' (pushS s o) := by
  have nn := new_none (h := s.heap) (Nat.le_refl _)
  have g : GoW w b κ O s ⟨κ.fr, κ.ob, [s.heap.objs.size] ++ κ.hid⟩ F O (pushS s o) := Go.hide R (push_keeps _ o) (fun a ha => (List.mem_singleton.mp ha) ▸ ⟨nn, _, Heap.get?_push_size _ f⟩) (List.nodup_cons.mpr ⟨List.not_mem_nil, List.nodup_nil⟩)
  refine ⟨_, g, h _ g.ext (Heap.get?_push_size _ f) fun b hb => ?_, fun a ha => (List.mem_singleton.mp ha) ▸ nn, fun a ha => List.mem_append_left _ ha⟩
  rcases List.mem_append.mp hb with z | z
  · exact .inr (List.mem_append_left _ z)
  · rcases List.mem_append.mp z with z | z
    · exact (List.mem_cons.mp z).imp id Pl.mt_hid
    · exact .inr (List.mem_append_right _ (List.mem_append_right _ z))
theorem mem_two {κ' : Pl} {h : Heap} {a b c : Addr} {o : Obj} (hb : b ∈ [a, c]) (h1 : c ∉ κ'.mt) (h2 : h.get? c = some o) : b = a ∨ b ∉ κ'.mt ∧ ∃ o, h.get? b = some o := by
  rcases List.mem_cons.mp hb with e | e
  · exact .inl e
  · cases List.mem_singleton.mp e; exact .inr ⟨h1, _, h2⟩
theorem got {κ' : Pl} {h : Heap} {l : List V} {r : List Value} {j : Nat} {v : V} {cv : Value} (rs : RVs h κ' l r) (hj : l[j]? = some v) (hp : r[0 + j]? = some cv) : RV h κ' v cv := by
  obtain ⟨c, hc, rc⟩ := RVs_get rs hj
  rw [Nat.zero_add] at hp
  exact Option.some.inj (hc.symm.trans hp) ▸ rc
theorem range_nn (x y z : Int) : ((Builtin.Range.rangeSize x y z).toNat : Int) = Builtin.Range.rangeSize x y z := by
  unfold Builtin.Range.rangeSize
  apply Int.toNat_of_nonneg
  split
  · split
    · have : 0 ≤ (y - x - 1) / z := Int.ediv_nonneg (by omega) (by omega)
      omega
    · exact Int.le_refl _
  · split
    · by_cases hz : z = 0
      · subst hz; simp
      · have : 0 ≤ (x - y - 1) / (-z) := Int.ediv_nonneg (by omega) (by omega)
        omega
    · exact Int.le_refl _
theorem src_sound {v : V} {cv : Value} {q : Src → Prop} {P : Value → Shared → Prop} (h : Lf (srcOf O v) q) (R : RelW w κ F O s.heap) (r : RV s.heap κ v cv) (k : ∀ {src I κ' s'}, q src → Turn w b κ.fr κ O s src I [I] F O κ' s' → P (.ref I) s') : wpAny (MW w) A (pyIter cv) P E s := by
  obtain ⟨src, h, hq⟩ := h.out
  have k' : ∀ {o : Obj}, (∃ κ', Turn w b κ.fr κ O s src s.heap.objs.size [s.heap.objs.size] F O κ' (pushS s o)) → P (.ref s.heap.objs.size) (pushS s o) := fun ⟨_, T⟩ => k hq T
  have nn := new_none (h := s.heap) (Nat.le_refl _)
  have off : ∀ {κ' : Pl} {a : Addr} {o : Obj}, (∀ b, b ∈ κ'.mt → b = s.heap.objs.size ∨ b ∈ κ.mt) → s.heap.get? a = some o → a ∉ κ.mt → a ∉ κ'.mt := fun f ho ha z => (f _ z).elim (fun e => nomatch (e ▸ nn).symm.trans ho) ha
  cases v with
  | lst l =>
    cases h
    obtain ⟨a, vals, rfl, hl, ha, rs⟩ := r
    obtain ⟨nl, hnl⟩ := id hl
    refine wpAny_pyIter_list hl.isList (k' (made R rfl fun κ' x e hn => ?_))
    exact .walk (n := vals.size) (k := 0) (fun A hA => Walks.list hA _ a (fun q => nomatch (q ▸ nn).symm.trans hnl) vals) (fun i h' st => listIter_it st.1) ⟨⟨_, e, rfl, rfl⟩, hl.isList.at fun o q => x.keep a o q ha⟩ ((RVs_size rs).symm.trans (Nat.zero_add _).symm)
      (fun b hb => mem_two hb (off hn hnl ha) (x.keep _ _ hnl ha)) fun j v cv hj hp => got (RVs_mono x rs) hj (Array.getElem?_toList.trans hp)
  | tup l =>
    cases h
    obtain ⟨a, vals, rfl, hl, ha, rs⟩ := r
    obtain ⟨nl, hnl⟩ := id hl
    refine wpAny_pyIter_tuple hl.isTuple (k' (made R rfl fun κ' x e hn => ?_))
    exact .walk (n := vals.size) (k := 0) (fun A hA => Walks.tuple hA _ a (fun q => nomatch (q ▸ nn).symm.trans hnl) vals) (fun i h' st => let ⟨_, ho, hc, _⟩ := st.1; It_of ho hc (by decide)) ⟨⟨_, e, rfl, rfl⟩, hl.isTuple.at fun o q => x.keep a o q ha⟩ ((RVs_size rs).symm.trans (Nat.zero_add _).symm)
      (fun b hb => mem_two hb (off hn hnl ha) (x.keep _ _ hnl ha)) fun j v cv hj hp => got (RVs_mono x rs) hj (Array.getElem?_toList.trans hp)
  | str l =>
    cases h
    obtain ⟨t, rfl⟩ := r
    have vals : ∀ {h' κ'} j v cv, (l.map fun c => V.str [c])[j]? = some v → SignAt (S l) (0 + j) cv → RV h' κ' v cv := by
      rintro h' κ' j v cv hj ⟨c, u, hc, rfl⟩
      rw [Nat.zero_add] at hc
      rw [List.getElem?_map, show l[j]? = some c from Array.getElem?_toList.trans hc] at hj
      cases hj
      exact ⟨u, rfl⟩
    have len : (S l).cps.size = 0 + (l.map fun c => V.str [c]).length := by rw [Nat.zero_add, List.length_map]; rfl
    have fp : ∀ {κ' : Pl} {h' : Heap}, ∀ b ∈ [s.heap.objs.size], b = s.heap.objs.size ∨ b ∉ κ'.mt ∧ ∃ o, h'.get? b = some o := fun b hb => .inl (List.mem_singleton.mp hb)
    cases ha : (S l).cps.all (· < 128)
    · refine wpAny_pyIter_wide ha (k' (made R rfl fun κ' x e hn => ?_))
      exact .walk (k := 0) (fun A hA => Walks.strWide hA _ (S l) t) (fun i h' st => let ⟨_, ho, hc, _⟩ := st; It_of ho hc (by decide)) ⟨_, e, rfl, rfl⟩ len fp vals
    · refine wpAny_pyIter_ascii ha (k' (made R rfl fun κ' x e hn => ?_))
      exact .walk (k := 0) (fun A hA => Walks.strAscii hA _ (S l) t) (fun i h' st => let ⟨_, ho, hc, _⟩ := st; It_of ho hc (by decide)) ⟨_, e, rfl, rfl⟩ len fp vals
  | rng x y z =>
    obtain ⟨hc, h⟩ := ite_some h
    cases h
    obtain ⟨a, t1, t2, t3, rfl, ha, ho⟩ := r
    refine wpAny_pyIter_range ho (rngOk_small (and_bool hc).1) (k' (made R rfl fun κ' xx e hn => ?_))
    refine .walk (n := (Builtin.Range.rangeSize x y z).toNat) (k := 0) (fun A hA => Walks.range hA _ x z _) (fun i h' st => It_of st rfl (by decide)) ?_ (by rw [Nat.zero_add, List.length_map, rangeL, List.length_map, List.length_range]) (fun b hb => .inl (List.mem_singleton.mp hb)) fun j v cv hj hp => ?_
    · show _ = _
      rw [e]
      simp
      rw [← Int.ofNat_toNat, range_nn]
    · obtain ⟨t, rfl⟩ := hp
      rw [List.getElem?_map] at hj
      obtain ⟨i, hi, rfl⟩ := Option.map_eq_some_iff.mp hj
      rw [rangeL, List.getElem?_map] at hi
      obtain ⟨k, hk, rfl⟩ := Option.map_eq_some_iff.mp hi
      obtain ⟨h1, h2⟩ := List.getElem?_eq_some_iff.mp hk
      rw [List.getElem_range] at h2
      exact ⟨t, by rw [Nat.zero_add, h2]⟩
  | ref m =>
    obtain ⟨l, h1, h⟩ := map_some h
    cases h
    obtain ⟨a, vals, rfl, hi, hl, rs⟩ := R.list h1 r
    exact wpAny_pyIter_list hl.isList (k' (made R rfl fun κ' x e hn => .live ⟨_, e, rfl, rfl⟩ (pre_get x.pre hi)))
  | _ => exact none_ne h
theorem starEach_plain {pos : Pos} (es : List PySem.Expr) (h : starFree es = true) : (backTo pos (starEach es env)).any (·.1) = false := by
  induction es with
  | nil => rfl
  | cons e es ih =>
    obtain ⟨h1, h2⟩ := starFree_cons (env := env) h
    rw [h2]
    exact ih h1
theorem starEach_shape {pos : Pos} (es : List PySem.Expr) (h : starFree es = true) : backTo pos (starEach es env) = [] ∨ ∃ x rest, backTo pos (starEach es env) = (false, x) :: rest := by
  cases es with
  | nil => exact .inl rfl
  | cons e es => rw [(starFree_cons (env := env) h).2]; exact .inr ⟨_, _, rfl⟩

theorem args_of {f : Value} {pos : Pos} {es : List PySem.Expr} {Q : Args → Shared → Prop} (hs : starFree es = true) (h : wpAny (MW w) A (spliced (backTo pos (starEach es env))) (fun vs s' => Q ⟨vs, []⟩ s') E s) :
    wpAny (MW w) A (evalArgs f true (backTo pos (starEach es env)) []) Q E s := by
  rcases starEach_shape (env := env) (pos := pos) es hs with e | ⟨x, rest, e⟩
  · rw [e] at h ⊢
    unfold evalArgs
    show wpAny _ A (spliced [] >>= _) Q E s
    exact wpAny_bind (wpAny_mono h (fun vs s' h' => wpAny_holding (wpAny_bind (wpAny_pure (wpAny_bind (wpAny_pure (wpAny_pure h')))))) fun _ _ x => x)
  · rw [e] at h ⊢; exact Calls.evalArgs_plain h
theorem noSet_pure {e : PySem.Expr} (h : noSet e = true) : ∀ x, foldedSetIterable e env x = pure x := by
  intro x; cases e <;> first | rfl | exact ff_ne h
theorem isEnum_is {e : PySem.Expr} {p : Str × PySem.Expr} (h : isEnum e = some p) : ∃ q r, e = .Call (.Name p.1 q) [p.2] [] r ∧ p.1 = ("enumerate" : Str) := by
  cases e with
  | Call f args ks r =>
    cases f with
    | Name x q =>
      obtain ⟨hx, h⟩ := ite_some h
      cases args with
      | nil => exact none_ne h
      | cons a as =>
        cases as with
        | nil =>
          obtain ⟨hk, h⟩ := ite_some h
          cases h
          cases List.isEmpty_iff.mp hk
          exact ⟨q, r, rfl, beq_iff_eq.mp hx⟩
        | cons => exact none_ne h
    | _ => exact none_ne h
  | _ => exact none_ne h
theorem isEnumT_is {h : Heap} {f : V} {cv : Value} (hf : isEnumT f = true) (r : RV h κ f cv) : cv = .type "enumerate" := by
  cases f with
  | cst d =>
    cases d with
    | type t => exact r.trans (congrArg Value.type (beq_iff_eq.mp hf))
    | _ => exact ff_ne hf
  | _ => exact ff_ne hf
theorem enum_sound {l : List V} {a : Addr} {P : Value → Shared → Prop} (R : RelW w κ F O s.heap) (r : RV s.heap κ (.lst l) (.ref a)) (k : ∀ {I H κ' s'}, Turn w b κ.fr κ O s (.items (l.zipIdx.map fun y => .tup [.int y.2, y.1])) I H F O κ' s' → P (.ref I) s') :
    wpAny (MW w) A (call (.type "enumerate") [.ref a] []) (fun x s1 => wpAny (MW w) A (pyIter x) P E s1) E s := by
  obtain ⟨_, vals, e, hl, ha, rs⟩ := r
  cases e
  obtain ⟨nn, hnl⟩ := id hl
  refine call_enumerate_1 hnl fun h' he hit hsz hk => wpAny_pyIter_enum he ?_
  have n1 := new_none (h := s.heap) (Nat.le_refl _)
  have n2 := new_none (h := s.heap) (Nat.le_succ s.heap.objs.size)
  obtain ⟨oi, hoi, ri⟩ := id hit
  have g : GoW w b κ O s ⟨κ.fr, κ.ob, [s.heap.objs.size + 1, s.heap.objs.size] ++ κ.hid⟩ F O { s with heap := h' } := Go.hide R hk (fun a ha => by
    rcases List.mem_cons.mp ha with rfl | ha
    · exact ⟨n2, _, he⟩
    · exact (List.mem_singleton.mp ha) ▸ ⟨n1, _, hoi⟩) (List.nodup_cons.mpr ⟨fun q => Nat.succ_ne_self _ (List.mem_singleton.mp q), List.nodup_cons.mpr ⟨List.not_mem_nil, List.nodup_nil⟩⟩)
  refine k (κ' := ⟨κ.fr, κ.ob, [s.heap.objs.size + 1, s.heap.objs.size] ++ κ.hid⟩) (H := [s.heap.objs.size + 1, s.heap.objs.size]) ⟨g, .enum (i := 0) (Nat.succ_ne_self _) he hit ⟨nn, hk _ _ hnl⟩ (g.ext.off hnl ha) (RVs_mono g.ext rs), fun a ha => ?_, fun a ha => List.mem_append_left _ ha⟩
  rcases List.mem_cons.mp ha with rfl | ha
  · exact n2
  · exact (List.mem_singleton.mp ha) ▸ n1

theorem wSrc_sound (B : Base w) (S : Snd w n J) {tgt e : PySem.Expr} {q : Src → Objs → Prop} {P : Value → Shared → Prop} (h : wSrc GG J tgt e F b q O) (t : St w A n b κ F O s env) (k : ∀ {src I H κ' O' s'}, q src O' → Turn w b κ.fr κ O s src I H F O' κ' s' → TgtOk I H tgt → P (.ref I) s') :
    (∀ x, foldedSetIterable e env x = pure x) ∧ wpAny (MW w) A (eval e env) (fun x s1 => wpAny (MW w) A (pyIter x) P E s1) E s := by
  unfold wSrc at h
  cases he : isEnum e with
  | none =>
    rw [he] at h
    exact ⟨noSet_pure h.out.1, End.seq (S.l h.out.2 t) fun q g r => src_sound q g.rel r fun q T => k q (T.after g) fun ⟨i, e⟩ => nomatch e⟩
  | some p =>
    rw [he] at h
    obtain ⟨hc, h3⟩ := h.out
    obtain ⟨hst, htu⟩ := and_bool hc
    obtain ⟨p1, p2, rfl, hx⟩ := isEnum_is he
    refine ⟨fun _ => rfl, ?_⟩
    obtain ⟨f, hg, h5⟩ := h3.out
    obtain ⟨hf, h4⟩ := h5.out
    refine wpAny_Call_ofName (End.seq (name_sound (b := b) (Q := fun v O1 => v = f ∧ O1 = O) B t (Gd.of (hx ▸ rfl) (Lf.of hg ⟨rfl, rfl⟩))) fun {v κ1 O1 cv s1} q0 g r => ?_)
    obtain ⟨rfl, rfl⟩ := q0
    cases isEnumT_is hf r
    refine PySem.callWith_type (starEach_plain [p.2] hst) (args_of hst (wpAny_items_cons (End.seq (S.l h4 (t.next g)) fun {v2 κ2 O2 cv s2} q2 g2 rv => wpAny_items_nil ?_) (starFree_cons hst).2))
    obtain ⟨src, h6, hq⟩ := q2.out
    cases v2 with
    | lst l =>
      obtain ⟨_, h6⟩ := ite_some h6
      cases h6
      obtain ⟨a, vals, rfl, rest⟩ := id rv
      exact enum_sound (b := b) g2.rel rv fun T => k hq (T.after (g.trans g2)) fun _ => htu
    | _ => exact none_ne h6

theorem forW_sound (S : Snd w n J) (t : St w A n b κ F O s env) {tgt : PySem.Expr} {body orelse : List Stmt} {k : Nat} {Q : Fl → List Fr → Objs → Prop} (h : forW J tgt body orelse b Q k src F1 O1) (T : Turn w b κ.fr κ O s src I H F1 O1 κ1 s1) (ht : TgtOk I H tgt) :
    codeAny (MW w) A (.forLoop tgt (.ref I) body orelse env) (fun r s' => match r with | .ok g => EndS w b κ O s Q g s' | .error _ => False) s1 := by
  refine codeAny_forLoop_any (fun k s1 => ∃ src F1 O1 κ1, forW J tgt body orelse b Q k src F1 O1 ∧ Turn w b κ.fr κ O s src I H F1 O1 κ1 s1) (fun k s1 h => ?_) k ⟨src, F1, O1, κ1, h, T⟩
  obtain ⟨src, F1, O1, κ1, h, T⟩ := h
  cases k with
  | zero => exact False.elim h
  | succ k =>
    refine T.step t.rel t.ok.hd ht h (fun q _ g => EndS.on g (exs_sound S q (t.next g))) fun q hs => wpAny_mono hs (fun _ s3 T3 => ?_) fun _ _ e => e
    obtain ⟨T3, rv⟩ := T3
    obtain ⟨F2, h3, q⟩ := q.out
    refine setTgt_sound (t.next T3.go) h3 rv fun s4 g4 => EndS.seq (exs_sound S q ((t.next T3.go).next g4)) fun {f F5 κ5 O5 cf s5} q g5 r => ?_
    have T := (T3.on g4).on g5
    cases f with
    | brk => cases r; exact .mk q T.go rfl
    | ret v => obtain ⟨cv, rfl, rv⟩ := r; exact .mk q T.go ⟨cv, rfl, rv⟩
    | _ => cases r; exact ⟨k, Nat.lt_succ_self k, _, _, _, _, q, T⟩
theorem for_sound (B : Base w) (S : Snd w n J) {tgt it : PySem.Expr} {body orelse : List Stmt} {pos : Pos} {Q : Fl → List Fr → Objs → Prop} (h : wSrc GG J tgt it F b (fun src O1 => FOR J tgt body orelse b Q src F O1) O) (t : St w A n b κ F O s env) : wpAny (MW w) A (exec (.For tgt it body orelse pos) env) (EndS w b κ O s Q) noE s := by
  obtain ⟨h1, h2⟩ := wSrc_sound (E := noE) (P := fun x s1 => codeAny (MW w) A (.forLoop tgt x body orelse env) (fun r s' => match r with | .ok g => EndS w b κ O s Q g s' | .error _ => False) s1) B S h t fun q T ht => forW_sound S t q.is T ht
  refine wpAny_For (wpAny_mono h2 (fun x s1 h1 => wpAny_mono h1 (fun itv s2 h2 => codeAny_mono h2 fun r s' hr => ?_) fun _ _ e => e) fun _ _ e => e) h1
  cases r with
  | ok g => exact hr
  | error e => exact hr.elim
end


theorem wpAny_forIn_rel {M : Model} {A : Around} {E : Value → Shared → Prop} {s : Shared} {α β : Type} {f : α → β → Sem (ForInStep β)} (P : List α → β → Prop)
    (step : ∀ x l b, P (x :: l) b → wpAny M A (f x b) (fun r s' => s' = s ∧ ∃ b', r = .yield b' ∧ P l b') E s) :
    ∀ (l : List α) (b : β) {Q : β → Shared → Prop}, P l b → (∀ b', P [] b' → Q b' s) → wpAny M A (forIn l b f) Q E s
  | [], b, Q, hP, hQ => by rw [List.forIn_nil]; exact wpAny_pure (hQ b hP)
  | x :: l, b, Q, hP, hQ => by
    rw [List.forIn_cons]
    refine wpAny_bind (wpAny_mono (step x l b hP) (fun r s' h => ?_) fun _ _ e => e)
    obtain ⟨rfl, b', rfl, hP'⟩ := h
    exact wpAny_forIn_rel P step l b' hP' hQ

section
variable {h : Heap} {κ : Pl}
theorem KsR_app : ∀ {l l' : List (Str × V)} {r r' : List (Str × Value)}, KsR h κ l r → KsR h κ l' r' → KsR h κ (l ++ l') (r ++ r')
  | [], _, _, _, rfl, e' => e'
  | _ :: _, _, _, _, ⟨cv, r', rfl, a, b⟩, e' => ⟨cv, _, rfl, a, KsR_app b e'⟩
theorem KsR_lookup : ∀ {l : List (Str × V)} {r : List (Str × Value)} (x : Str), KsR h κ l r → OptR h κ (l.lookup x) (r.lookup x)
  | [], _, x, e => by cases e; trivial
  | (y, v) :: l, _, x, ⟨cv, r', rfl, a, b⟩ => by
    rw [List.lookup_cons, List.lookup_cons]
    cases x == y
    · exact KsR_lookup x b
    · exact a
theorem OptR_none {v : Option V} {cv : Option Value} (r : OptR h κ v cv) : v.isNone = cv.isNone := by
  cases v <;> cases cv <;> first | rfl | exact absurd r (by intro q; exact q)
theorem KsR_zip : ∀ (ns : List Str) {l : List V} {r : List Value}, RVs h κ l r → KsR h κ (ns.zip l) (ns.zip r)
  | [], _, _, _ => by simp; exact rfl
  | n :: ns, [], _, e => by cases e; simp; exact rfl
  | n :: ns, v :: l, _, ⟨cv, r, rfl, a, b⟩ => ⟨cv, _, rfl, a, KsR_zip ns b⟩
theorem KsR_filterMap {l : List (Str × V)} {r : List (Str × Value)} (k : KsR h κ l r) : ∀ (ns : List Str), KsR h κ (ns.filterMap fun n => (l.lookup n).map (n, ·)) (ns.filterMap fun n => (r.lookup n).map (n, ·))
  | [] => rfl
  | n :: ns => by
    have := KsR_lookup n k
    rw [List.filterMap_cons, List.filterMap_cons]
    cases h1 : l.lookup n with
    | none =>
      cases h2 : r.lookup n with
      | none => exact KsR_filterMap k ns
      | some cv => rw [h1, h2] at this; exact absurd this (by intro q; exact q)
    | some v =>
      cases h2 : r.lookup n with
      | none => rw [h1, h2] at this; exact absurd this (by intro q; exact q)
      | some cv => rw [h1, h2] at this; exact ⟨cv, _, rfl, this, KsR_filterMap k ns⟩
end

theorem wI {M : Model} {A : Around} {E : Value → Shared → Prop} {s : Shared} {α : Type} {c : Prop} [Decidable c] {x y : Sem α} {Q : α → Shared → Prop} (h : c) (k : wpAny M A x Q E s) : wpAny M A (if c then x else y) Q E s := by rw [if_pos h]; exact k
theorem wE {M : Model} {A : Around} {E : Value → Shared → Prop} {s : Shared} {α : Type} {c : Prop} [Decidable c] {x y : Sem α} {Q : α → Shared → Prop} (h : ¬ c) (k : wpAny M A y Q E s) : wpAny M A (if c then x else y) Q E s := by rw [if_neg h]; exact k
theorem KsR_nil {h : Heap} {κ : Pl} {l : List (Str × V)} (r : KsR h κ l []) : l = [] := match l, r with
  | [], _ => rfl
  | _ :: _, ⟨_, _, e, _⟩ => nomatch e
theorem KsR_one {h : Heap} {κ : Pl} {x : Str} {v : V} {cv : Value} (r : RV h κ v cv) : KsR h κ [(x, v)] [(x, cv)] := ⟨cv, [], rfl, r, rfl⟩
inductive KsC (h : Heap) (κ : Pl) (x : Str) (cv : Value) (r : List (Str × Value)) : List (Str × V) → Prop where
  | mk {v : V} {l : List (Str × V)} (a : RV h κ v cv) (b : KsR h κ l r) : KsC h κ x cv r ((x, v) :: l)
theorem KsR_cons {h : Heap} {κ : Pl} {x : Str} {cv : Value} {r : List (Str × Value)} : ∀ {l : List (Str × V)}, KsR h κ l ((x, cv) :: r) → KsC h κ x cv r l
  | [], e => nomatch e
  | (_, _) :: _, ⟨_, _, e, a, b⟩ => by cases e; exact .mk a b
theorem items_dfl {M : Model} {A : Around} {E : Value → Shared → Prop} {s : Shared} {κ : Pl} {dv : Value} {dfl : List V} (hd : dfl = [] ∧ dv = .none ∨ ∃ t cvals, dv = .ref t ∧ IsTup s.heap t cvals ∧ RVs s.heap κ dfl cvals.toList) {Q : Option (Array Value) → Shared → Prop}
    (hq : ∀ od : Option (Array Value), RVs s.heap κ dfl (od.getD #[]).toList → Q od s) : wpAny M A (seqItems? dv) Q E s := by
  rcases hd with ⟨rfl, rfl⟩ | ⟨t, cvals, rfl, ⟨o, ho, _, nn, hdt⟩, hr⟩
  · exact wpAny_bind (wpAny_pure (wpAny_pure (hq none rfl)))
  · exact wpAny_seqItems ho hdt (hq (some cvals) hr)
theorem any_none {β : Type} {l : List (Str × β)} {x : Str} (h : (l.lookup x).isNone = true) : ¬ (l.lookup x).isSome = true := by
  cases hq : l.lookup x with
  | none => exact fun e => nomatch e
  | some => rw [hq] at h; cases h
theorem addKw_cons {al : List Str} {sl : List (Str × V)} {x : Str} {v : V} {r : List (Str × V)} {o : List (Str × V)} (h : addKw al sl ((x, v) :: r) = some o) : (al.contains x = true ∧ (sl.lookup x).isNone = true) ∧ addKw al (sl ++ [(x, v)]) r = some o := by
  unfold addKw at h
  obtain ⟨hc, h⟩ := ite_some h
  exact ⟨and_bool hc, h⟩
theorem addKwd_cons {kwd sl : List (Str × V)} {x : Str} {r : List Str} {o : List (Str × V)} (h : addKwd kwd sl (x :: r) = some o) : ((sl.lookup x).isNone = true ∧ ∃ v, kwd.lookup x = some v ∧ addKwd kwd (sl ++ [(x, v)]) r = some o) ∨ ((sl.lookup x).isNone = false ∧ addKwd kwd sl r = some o) := by
  unfold addKwd at h
  cases hq : (sl.lookup x).isNone with
  | true => rw [hq] at h; obtain ⟨v, h1, h2⟩ := bind_some h; exact .inl ⟨rfl, v, h1, h2⟩
  | false => rw [hq] at h; exact .inr ⟨rfl, h⟩
section
variable {M : Model} {A : Around} {E : Value → Shared → Prop} {s : Shared} {κ : Pl}
theorem forPP {α β γ δ : Type} {f : α × β → γ × δ → Sem (ForInStep (γ × δ))} (P : List (α × β) → γ × δ → Prop) (step : ∀ x y l a b, P ((x, y) :: l) (a, b) → wpAny M A (f (x, y) (a, b)) (fun r s' => s' = s ∧ ∃ b', r = .yield b' ∧ P l b') E s) (l : List (α × β)) (b : γ × δ) {Q : γ × δ → Shared → Prop} (h : P l b) (k : ∀ a b, P [] (a, b) → Q (a, b) s) : wpAny M A (forIn l b f) Q E s :=
  wpAny_forIn_rel P (fun ⟨x, y⟩ l ⟨a, b⟩ h => step x y l a b h) l b h fun ⟨a, b⟩ h => k a b h
theorem forPL {α β γ : Type} {f : α × β → γ → Sem (ForInStep γ)} (P : List (α × β) → γ → Prop) (step : ∀ x y l a, P ((x, y) :: l) a → wpAny M A (f (x, y) a) (fun r s' => s' = s ∧ ∃ b', r = .yield b' ∧ P l b') E s) (l : List (α × β)) (b : γ) {Q : γ → Shared → Prop} (h : P l b) (k : ∀ a, P [] a → Q a s) : wpAny M A (forIn l b f) Q E s :=
  wpAny_forIn_rel P (fun ⟨x, y⟩ l a h => step x y l a h) l b h k
theorem forLP {α γ δ : Type} {f : α → γ × δ → Sem (ForInStep (γ × δ))} (P : List α → γ × δ → Prop) (step : ∀ x l a b, P (x :: l) (a, b) → wpAny M A (f x (a, b)) (fun r s' => s' = s ∧ ∃ b', r = .yield b' ∧ P l b') E s) (l : List α) (b : γ × δ) {Q : γ × δ → Shared → Prop} (h : P l b) (k : ∀ a b, P [] (a, b) → Q (a, b) s) : wpAny M A (forIn l b f) Q E s :=
  wpAny_forIn_rel P (fun x l ⟨a, b⟩ h => step x l a b h) l b h fun ⟨a, b⟩ h => k a b h

noncomputable def P1 (s : Shared) (κ : Pl) (al : List Str) (o : List (Str × V)) (l : List (Str × Value)) (b : List (Str × Value) × List (Str × Value)) : Prop := b.2 = [] ∧ ∃ sl kv, KsR s.heap κ sl b.1 ∧ KsR s.heap κ kv l ∧ addKw al sl kv = some o
noncomputable def P2 (s : Shared) (κ : Pl) (o : List (Str × V)) (l : List (Str × Value)) (b : List (Str × Value)) : Prop := ∃ sl dv, KsR s.heap κ sl b ∧ KsR s.heap κ dv l ∧ addD sl dv = o
noncomputable def P3 (s : Shared) (κ : Pl) (kwd : List (Str × V)) (o : List (Str × V)) (l : List Str) (b : List (Str × Value) × List Str) : Prop := b.2 = [] ∧ ∃ sl, KsR s.heap κ sl b.1 ∧ addKwd kwd sl l = some o
theorem P1.end {al : List Str} {o : List (Str × V)} {a b : List (Str × Value)} (h : P1 s κ al o [] (a, b)) : KsR s.heap κ o a := by
  obtain ⟨_, sl, kv, r1, r2, r3⟩ := h
  cases KsR_nil r2
  cases r3; exact r1
theorem P2.end {o : List (Str × V)} {a : List (Str × Value)} (h : P2 s κ o [] a) : KsR s.heap κ o a := by
  obtain ⟨sl, kv, r1, r2, r3⟩ := h
  cases KsR_nil r2
  cases r3; exact r1
theorem P3.end {kwd o : List (Str × V)} {a : List (Str × Value)} {b : List Str} (h : P3 s κ kwd o [] (a, b)) : b = [] ∧ KsR s.heap κ o a := by
  obtain ⟨e, sl, r1, r3⟩ := h
  cases r3; exact ⟨e, r1⟩
theorem P1.step {al : List Str} {o : List (Str × V)} {x : Str} {cv : Value} {l a b : List (Str × Value)} (h : P1 s κ al o ((x, cv) :: l) (a, b)) : al.contains x = true ∧ ¬ (a.lookup x).isSome = true ∧ P1 s κ al o l (a ++ [(x, cv)], b) := by
  obtain ⟨he, sl, kv, r1, r2, r3⟩ := h
  cases KsR_cons r2 with
  | mk rv r4 =>
    obtain ⟨⟨h1, h2⟩, h3⟩ := addKw_cons r3
    exact ⟨h1, any_none ((OptR_none (KsR_lookup x r1)).symm.trans h2), he, _, _, KsR_app r1 (KsR_one rv), r4, h3⟩
theorem P2.step {o : List (Str × V)} {x : Str} {cv : Value} {l a : List (Str × Value)} (h : P2 s κ o ((x, cv) :: l) a) : P2 s κ o l (if (a.lookup x).isNone then a ++ [(x, cv)] else a) := by
  obtain ⟨sl, kv, r1, r2, r3⟩ := h
  cases KsR_cons r2 with
  | @mk v l' rv r4 =>
    have r3 : (if (sl.lookup x).isNone then addD (sl ++ [(x, v)]) l' else addD sl l') = _ := r3
    rw [← OptR_none (KsR_lookup x r1)]
    cases hq : (sl.lookup x).isNone with
    | true => rw [hq] at r3; exact ⟨_, _, KsR_app r1 (KsR_one rv), r4, r3⟩
    | false => rw [hq] at r3; exact ⟨_, _, r1, r4, r3⟩
inductive P3N (s : Shared) (κ : Pl) (kwd : List (Str × V)) (kd : Value) (o : List (Str × V)) (x : Str) (l : List Str) (a : List (Str × Value)) (b : List Str) : Prop where
  | new {d : Addr} {m : Str → Option Value} {cv : Value} (h1 : (a.lookup x).isNone = true) (e : kd = .ref d) (hm : s.heap.Ns d m) (hv : m x = some cv) (n : P3 s κ kwd o l (a ++ [(x, cv)], b))
  | old (h1 : ¬ (a.lookup x).isNone = true) (n : P3 s κ kwd o l (a, b))
theorem P3.step {kwd o : List (Str × V)} {kd : Value} {x : Str} {l b : List Str} {a : List (Str × Value)} (h : P3 s κ kwd o (x :: l) (a, b)) (hk : kwd = [] ∧ kd = .none ∨ ∃ d m, kd = .ref d ∧ s.heap.Ns d m ∧ ∀ x, OptR s.heap κ (kwd.lookup x) (m x)) : P3N s κ kwd kd o x l a b := by
  obtain ⟨he, sl, r1, r3⟩ := h
  have hn := OptR_none (KsR_lookup x r1)
  rcases addKwd_cons r3 with ⟨h1, v, hv, h2⟩ | ⟨h1, h2⟩
  · rcases hk with ⟨rfl, _⟩ | ⟨d, m, e, hm, hr⟩
    · cases hv
    · obtain ⟨cv, hmx, this⟩ := OptR.some (hv ▸ hr x)
      exact .new (hn.symm.trans h1) e hm hmx ⟨he, _, KsR_app r1 (KsR_one this), h2⟩
  · exact .old (by rw [← hn, h1]; exact Bool.false_ne_true) ⟨he, _, r1, h2⟩
end
inductive BindI (ps : Arguments) (dfl : List V) (kwd : List (Str × V)) (a : List V) (ks : List (Str × V)) : List (Str × V) → Prop where
  | mk {slots fin : List (Str × V)} (po : ps.posonlyargs = []) (va : ps.vararg = none) (ka : ps.kwarg = none) (len : a.length ≤ (ps.args.map (·.arg)).length) (h6 : addKw (ps.args.map (·.arg) ++ ps.kwonlyargs.map (·.arg)) ((ps.args.map (·.arg)).zip a) ks = some slots)
    (hem : ((((ps.args.map (·.arg)).take ((ps.args.map (·.arg)).length - (dfl.drop (dfl.length - (ps.args.map (·.arg)).length)).length)).filter fun n => (slots.lookup n).isNone).isEmpty) = true)
    (h7 : addKwd kwd (addD slots (((ps.args.map (·.arg)).drop ((ps.args.map (·.arg)).length - (dfl.drop (dfl.length - (ps.args.map (·.arg)).length)).length)).zip (dfl.drop (dfl.length - (ps.args.map (·.arg)).length)))) (ps.kwonlyargs.map (·.arg)) = some fin) :
    BindI ps dfl kwd a ks ((ps.args.map (·.arg) ++ ps.kwonlyargs.map (·.arg)).filterMap fun n => (fin.lookup n).map (n, ·))
theorem bindV_inv {ps : Arguments} {dfl : List V} {kwd : List (Str × V)} {a : List V} {ks vars : List (Str × V)} (h : bindV ps dfl kwd a ks = some vars) : BindI ps dfl kwd a ks vars := by
  unfold bindV at h
  obtain ⟨hc, h⟩ := ite_some h
  obtain ⟨slots, h6, h⟩ := bind_some h
  obtain ⟨hem, h⟩ := ite_some h
  obtain ⟨fin, h7, h⟩ := map_some h
  subst h
  have hc := (and_bool hc).1
  have h3 := (and_bool hc).1
  have h2 := (and_bool h3).1
  exact .mk (List.isEmpty_iff.mp (and_bool h2).1) (Option.isNone_iff_eq_none.mp (and_bool h2).2) (Option.isNone_iff_eq_none.mp (and_bool h3).2) (of_decide_eq_true (and_bool hc).2) h6 hem h7
theorem miss_no {s : Shared} {κ : Pl} {N : List Str} {dfl : List V} {dv : List Value} {slots : List (Str × V)} {sl : List (Str × Value)} (hod : dfl.length = dv.length) (r : KsR s.heap κ slots sl) (hem : (((N.take (N.length - (dfl.drop (dfl.length - N.length)).length)).filter fun n => (slots.lookup n).isNone).isEmpty) = true) :
    ¬ (!((N.take (N.length - (dv.drop (dv.length - N.length)).length)).filter fun n => (sl.lookup n).isNone).isEmpty) = true := by
  have e : (N.take (N.length - (dv.drop (dv.length - N.length)).length)).filter (fun n => (sl.lookup n).isNone) = (N.take (N.length - (dfl.drop (dfl.length - N.length)).length)).filter (fun n => (slots.lookup n).isNone) := by
    rw [List.length_drop, List.length_drop, ← hod]
    exact List.filter_congr fun n _ => (OptR_none (KsR_lookup n r)).symm
  rw [e, hem]; decide
theorem zip_dfl {s : Shared} {κ : Pl} {N : List Str} {dfl : List V} {dv : List Value} (hod : dfl.length = dv.length) (rd : RVs s.heap κ dfl dv) : KsR s.heap κ ((N.drop (N.length - (dfl.drop (dfl.length - N.length)).length)).zip (dfl.drop (dfl.length - N.length))) ((N.drop (N.length - (dv.drop (dv.length - N.length)).length)).zip (dv.drop (dv.length - N.length))) := by
  rw [List.length_drop, List.length_drop, ← hod]
  exact KsR_zip _ (RVs_drop _ rd)
theorem binds_core {M : Model} {A : Around} {E : Value → Shared → Prop} {s : Shared} {κ : Pl} {nm qn : Str} {bd : FuncBody} {sc : Scope} {gl : Addr} {cl : List (Str × Addr)} {df kd dc pm : Value} {an : Option Addr} {co ct : Value} {bu : Addr} {ar ko : List Arg} {kdf : List (Option PySem.Expr)} {dfs : List PySem.Expr}
    {dfl : List V} {kwd : List (Str × V)} {a : List V} {ks slots fin : List (Str × V)} {ca : List Value} {cks : List (Str × Value)} (len : a.length ≤ (ar.map (·.arg)).length) (h6 : addKw (ar.map (·.arg) ++ ko.map (·.arg)) ((ar.map (·.arg)).zip a) ks = some slots)
    (hem : ((((ar.map (·.arg)).take ((ar.map (·.arg)).length - (dfl.drop (dfl.length - (ar.map (·.arg)).length)).length)).filter fun n => (slots.lookup n).isNone).isEmpty) = true)
    (h7 : addKwd kwd (addD slots (((ar.map (·.arg)).drop ((ar.map (·.arg)).length - (dfl.drop (dfl.length - (ar.map (·.arg)).length)).length)).zip (dfl.drop (dfl.length - (ar.map (·.arg)).length)))) (ko.map (·.arg)) = some fin)
    (Ra : RVs s.heap κ a ca) (Rk : KsR s.heap κ ks cks) (hd : dfl = [] ∧ df = .none ∨ ∃ t cvals, df = .ref t ∧ IsTup s.heap t cvals ∧ RVs s.heap κ dfl cvals.toList)
    (hk : kwd = [] ∧ kd = .none ∨ ∃ d m, kd = .ref d ∧ s.heap.Ns d m ∧ ∀ x, OptR s.heap κ (kwd.lookup x) (m x)) {Q : List (Str × Value) → Shared → Prop} (hQ : ∀ binds, KsR s.heap κ ((ar.map (·.arg) ++ ko.map (·.arg)).filterMap fun n => (fin.lookup n).map (n, ·)) binds → Q binds s) :
    wpAny M A (bindArgs ⟨nm, qn, ⟨[], ar, none, ko, kdf, none, dfs⟩, bd, sc, gl, cl, df, kd, dc, pm, an, co, ct, bu⟩ ⟨ca, cks⟩) Q E s := by
  have hlen := RVs_length Ra
  refine wpAny_bind (forPP (P1 s κ (ar.map (·.arg) ++ ko.map (·.arg)) slots) (fun x cv l a b h => ?_) cks _ ⟨rfl, _, ks, KsR_zip _ Ra, Rk, h6⟩ fun sl ex hP => ?_)
  · have h1 : ((ar.map (·.arg)).contains x || (ko.map (·.arg)).contains x) = true := by rw [← List.contains_append]; exact h.step.1
    exact wI h1 (wE h.step.2.1 (wpAny_pure ⟨rfl, _, rfl, h.step.2.2⟩))
  refine wpAny_bind (items_dfl hd fun od rd => ?_)
  have hod := RVs_length rd
  refine wE (fun e => absurd (of_decide_eq_true (and_bool e).1) (Nat.not_lt.mpr (hlen ▸ len))) (wE (miss_no hod hP.end hem) (wpAny_bind (forPL (P2 s κ _) (fun x cv l b h => ?_) _ _ ⟨slots, _, hP.end, zip_dfl hod rd, rfl⟩ fun sl2 hP2 => wpAny_bind (forLP (P3 s κ kwd fin) (fun x l b c h => ?_) _ _ ⟨rfl, _, hP2.end, h7⟩ fun sl5 ms hP3 => ?_))))
  · have h2 := h.step
    by_cases hq : (b.lookup x).isNone = true
    · rw [if_pos hq] at h2
      exact wI hq (wpAny_pure ⟨rfl, _, rfl, h2⟩)
    · rw [if_neg hq] at h2
      exact wE hq (wpAny_pure ⟨rfl, _, rfl, h2⟩)
  · cases h.step hk with
    | new h1 e hm hv n =>
      subst e
      exact wI h1 (wpAny_bind (wpAny_nsGet hm (hv ▸ wpAny_pure ⟨rfl, _, rfl, n⟩)))
    | old h1 n => exact wE h1 (wpAny_pure ⟨rfl, _, rfl, n⟩)
  · exact wE (hP3.end.1 ▸ Bool.false_ne_true) (wpAny_pure (hQ _ (KsR_filterMap hP3.end.2 _)))
theorem binds_sound {M : Model} {A : Around} {E : Value → Shared → Prop} {s : Shared} {κ : Pl} {fd : FuncData} {dfl : List V} {kwd : List (Str × V)} {a : List V} {ks : List (Str × V)} {ca : List Value} {cks : List (Str × Value)} {vars : List (Str × V)}
    (h : bindV fd.params dfl kwd a ks = some vars) (Ra : RVs s.heap κ a ca) (Rk : KsR s.heap κ ks cks)
    (hd : dfl = [] ∧ fd.defaults = .none ∨ ∃ t cvals, fd.defaults = .ref t ∧ IsTup s.heap t cvals ∧ RVs s.heap κ dfl cvals.toList)
    (hk : kwd = [] ∧ fd.kwdefaults = .none ∨ ∃ d m, fd.kwdefaults = .ref d ∧ s.heap.Ns d m ∧ ∀ x, OptR s.heap κ (kwd.lookup x) (m x)) {Q : List (Str × Value) → Shared → Prop} (hQ : ∀ binds, KsR s.heap κ vars binds → Q binds s) :
    wpAny M A (bindArgs fd ⟨ca, cks⟩) Q E s := by
  cases fd with
  | mk nm qn ps bd sc gl cl df kd dc pm an co ct bu =>
    cases ps with
    | mk po ar va ko kdf ka dfs =>
      cases bindV_inv h with
      | mk e1 e2 e3 len h6 hem h7 =>
        cases e1
        cases e2
        cases e3
        exact binds_core len h6 hem h7 Ra Rk hd hk hQ

theorem cellsFrom_app : ∀ (names : Names) (n : Nat) (a c : List (Str × Addr)), cellsFrom n names (a ++ c) = cellsFrom n names a ++ c
  | [], _, _, _ => rfl
  | (x, k) :: r, n, a, c => by
    unfold cellsFrom
    split
    · exact cellsFrom_app r (n + 1) ((x, n) :: a) c
    · exact cellsFrom_app r n a c
theorem lookup_append' {α : Type} (c : List (Str × α)) (x : Str) : ∀ (a : List (Str × α)), (a ++ c).lookup x = (a.lookup x).or (c.lookup x)
  | [] => rfl
  | (k, v) :: r => by
    rw [List.cons_append, List.lookup_cons, List.lookup_cons]
    cases x == k
    · exact lookup_append' c x r
    · rfl
theorem cellsFrom_mem {x : Str} (names : Names) : ∀ {n : Nat} {a : List (Str × Addr)}, (x, NameKind.cell) ∈ names ∨ (∃ c, a.lookup x = some c) → ∃ c, (cellsFrom n names a).lookup x = some c := by
  induction names with
  | nil => exact fun h => h.elim (fun h => nomatch h) id
  | cons y r ih =>
    intro n a h
    unfold cellsFrom
    split
    · rename_i hk
      refine ih (h.elim (fun h => (List.mem_cons.mp h).elim (fun q => .inr ⟨n, q ▸ List.lookup_cons_self⟩) .inl) fun ⟨c, hc⟩ => .inr ?_)
      rw [List.lookup_cons]
      split
      · exact ⟨_, rfl⟩
      · exact ⟨c, hc⟩
    · rename_i hk
      exact ih (h.imp_left fun h => (List.mem_cons.mp h).elim (fun q => absurd (congrArg Prod.snd q.symm) (fun e => hk (beq_iff_eq.mpr e))) id)
theorem cellsFrom_names {x : Str} {c : Addr} (names : Names) : ∀ {n : Nat} {a : List (Str × Addr)}, (x, c) ∈ cellsFrom n names a → (x, NameKind.cell) ∈ names ∨ (x, c) ∈ a := by
  induction names with
  | nil => exact .inr
  | cons y r ih =>
    intro n a h
    unfold cellsFrom at h
    split at h
    · rename_i hk
      have hk : y.2 = .cell := beq_iff_eq.mp hk
      exact (ih h).elim (fun q => .inl (List.mem_cons_of_mem _ q)) fun q => (List.mem_cons.mp q).imp (fun e => by cases e; obtain ⟨y1, y2⟩ := y; cases hk; exact List.mem_cons_self ..) id
    · exact (ih h).imp_left fun q => List.mem_cons_of_mem _ q
noncomputable abbrev newFP (h : Heap) (names : Names) (lam : Bool) : FP := ⟨names, h.objs.size, cellsFrom (h.objs.size + 1) names [], lam⟩
section
variable {w : World} {A : Around} {n b : Nat} {κ κ1 : Pl} {F F1 : List Fr} {O O1 : Objs} {s s1 s2 : Shared} {env : Env} {J : WI} {E : Value → Shared → Prop}
noncomputable abbrev layHeap (h : Heap) (cl : Value) (names : Names) : Heap := pushCells (h.push { cls := cl, data := .dict #[] }) names
theorem lay_keeps (h : Heap) (cl : Value) (names : Names) : ∀ b o, h.get? b = some o → (layHeap h cl names).get? b = some o := fun b o e => pushCells_keeps _ _ b o (Heap.get?_push_of_some _ e)
theorem Rel.lay {h0 h : Heap} (R : Rel h0 κ F O h) (names : Names) (cl : Value) (lam : Bool) {κ' : Pl} {F2 : List Fr} {P2 : List FP} (ob : κ'.ob = κ.ob) (fr : κ'.fr = newFP h names lam :: P2) (mt : κ'.mt = (newFP h names lam).addrs ++ κ.mt) (len : P2.length = F2.length)
    (old : ∀ (i : Nat) f q, F2[i]? = some f → P2[i]? = some q → FrameR h κ f q) : Rel h0 κ' (⟨names, [], lam⟩ :: F2) O (layHeap h cl names) ∧ Ext h κ (layHeap h cl names) κ' := by
  have ok := cellsFrom_ok names (h.push { cls := cl, data := .dict #[] }) (h.objs.size + 1) [] ⟨fun _ _ hm => (nomatch hm), List.Pairwise.nil⟩ (by rw [Heap.size_push]; exact Nat.le_refl _)
  rw [Heap.size_push] at ok
  have kk := lay_keeps h cl names
  have hns := (Heap.Ns.new h cl).keeps (pushCells_keeps names _)
  refine R.more (List.Perm.of_eq mt) (ob ▸ List.prefix_rfl) kk (fun a ha => ?_) (List.nodup_cons.mpr ⟨fun hm => ?_, List.pairwise_map.mpr ok.apart⟩) (ob ▸ R.len) (by rw [fr, List.length_cons, List.length_cons, len]) (fun x i o c e e' => R.objs_mono kk x e (ob ▸ e')) fun x i f p e e' => ?_
  · rcases List.mem_cons.mp ha with rfl | ha
    · exact ⟨new_none (Nat.le_refl _), let ⟨o, _, _, ho, _⟩ := hns; ⟨o, ho⟩⟩
    · obtain ⟨⟨x, c⟩, hm, rfl⟩ := List.mem_map.mp ha
      obtain ⟨⟨o, ho, _⟩, hlo⟩ := ok.empty x c hm
      exact ⟨new_none (Nat.le_of_succ_le hlo), o, ho⟩
  · obtain ⟨⟨x, c⟩, hm, e⟩ := List.mem_map.mp hm
    exact absurd ((show c = h.objs.size from e) ▸ (ok.empty x c hm).2) (Nat.not_succ_le_self _)
  · rw [fr] at e'
    cases i with
    | zero =>
      cases e; cases e'
      exact ⟨rfl, rfl, ⟨_, hns, fun y hy => trivial⟩, fun y hy => let ⟨c, hc⟩ := cellsFrom_mem names (n := h.objs.size + 1) (a := []) (.inl (mem_of_lookup hy)); ⟨c, none, hc, (ok.empty y c (mem_of_lookup hc)).1, trivial⟩⟩
    | succ i => exact FrameR_mono x (fun b _ ob q => kk b ob q) (old i f p e e')

theorem Rel.relook {h0 h : Heap} {f f' : Fr} {r : List Fr} (R : Rel h0 κ (f :: r) O h) (e1 : f'.names = f.names) (e2 : f'.lam = f.lam) (l : ∀ x, f.get x = f'.get x) : Rel h0 κ (f' :: r) O h :=
  { R with frs := fun i g p e e' => match i, e, e' with
    | 0, rfl, e' => let q := R.frs 0 f p rfl e'; ⟨e1.trans q.nm, e2.trans q.lm, let ⟨m, hm, hl⟩ := q.loc; ⟨m, hm, fun x hx => l x ▸ hl x (e1 ▸ hx)⟩, fun x hx => let ⟨c, cv, h1, h2, h3⟩ := q.cell x (e1 ▸ hx); ⟨c, cv, h1, h2, l x ▸ h3⟩⟩
    | i + 1, e, e' => R.frs (i + 1) g p e e' }

theorem envT_new {h : Heap} {names : Names} {lam : Bool} {cl : List (Str × Addr)} {P2 : List FP} {env' : Env} (hL : env'.locals = h.objs.size) (hc : env'.cells = cellsFrom (h.objs.size + 1) names cl)
    (kinds : ∀ x k, names.lookup x = some k → (k ≠ .free → env'.kindOf x = some k) ∧ (k = .free → env'.kindOf x = some .cell ∨ env'.kindOf x = some .free))
    (frees : ∀ x, names.lookup x = some .free → (x, NameKind.cell) ∉ names ∧ ∃ c, cl.lookup x = some c ∧ cellAt P2 x = some c) : EnvT (newFP h names lam) P2 env' := by
  have hc' : env'.cells = cellsFrom (h.objs.size + 1) names [] ++ cl := hc.trans (cellsFrom_app names _ [] cl)
  refine ⟨hL, fun x hx => (kinds x _ hx).1 nofun, fun x hx => ⟨(kinds x _ hx).1 nofun, ?_⟩, fun x hx => ⟨(kinds x _ hx).2 rfl, ?_⟩, fun x hx => (kinds x _ hx).1 nofun⟩
  · obtain ⟨c, hq⟩ := cellsFrom_mem names (n := h.objs.size + 1) (a := []) (.inl (mem_of_lookup hx))
    exact ⟨c, hq, by rw [hc', lookup_append', hq]; rfl⟩
  · obtain ⟨hn, c, h1, h2⟩ := frees x hx
    refine ⟨c, ?_, h2⟩
    rw [hc', lookup_append']
    cases hq : (cellsFrom (h.objs.size + 1) names []).lookup x with
    | none => exact h1
    | some c' => exact (cellsFrom_names names (mem_of_lookup hq)).elim (fun q => absurd q hn) fun q => nomatch q
theorem wpAny_frame {scope : Scope} {globals : Addr} {cl : List (Str × Addr)} {binds : List (Str × Value)} {qual : Str} {func : Option Addr} {code : Value} {around : Option Env} {builtins : Addr} {Q : Env → Shared → Prop} {M : Model}
    (h : ∀ env', env' = newEnv scope s.heap.objs.size globals (cellsFrom (s.heap.objs.size + 1) scope.names cl) qual func code around builtins →
      wpAny M A (forIn binds PUnit.unit fun x (_ : PUnit) => do storeName env' x.1 x.2; pure (ForInStep.yield PUnit.unit)) (fun _ => Q env') E
        { s with heap := layHeap s.heap (.type (if around.isSome then "dict" else "frame")) scope.names }) :
    wpAny M A (newFunctionEnv scope globals cl binds qual func code around builtins) Q E s := by
  unfold newFunctionEnv
  refine wpAny_bind (wpAny_alloc ?_)
  refine wpAny_bind (wpAny_layCells _ (fun name kind cells => by cases hkc : kind == NameKind.cell <;> simp [hkc]) _ _ _ _ ?_)
  rw [show ({ s with heap := s.heap.push { cls := .type (if around.isSome then "dict" else "frame"), data := .dict #[] } } : Shared).heap.objs.size = s.heap.objs.size + 1 from Heap.size_push ..]
  have := h _ rfl
  cases around with
  | none => exact wpAny_bind (wpAny_mono this (fun _ _ q => wpAny_pure q) fun _ _ e => e)
  | some o => exact wpAny_bind (wpAny_mono this (fun _ _ q => wpAny_pure q) fun _ _ e => e)

theorem foldl_lookup (y : Str) : ∀ (vars : List (Str × V)) (acc : Vars), (vars.map (·.1)).Nodup → (vars.foldl (fun a x => setVar a x.1 x.2) acc).lookup y = ((vars.lookup y).map some).or (acc.lookup y)
  | [], acc, _ => rfl
  | (x, v) :: r, acc, nd => by
    obtain ⟨n1, n2⟩ := List.nodup_cons.mp nd
    rw [List.foldl_cons, foldl_lookup y r _ n2, List.lookup_cons, setVar_lookup]
    by_cases hyx : y = x
    · subst hyx
      rw [if_pos rfl, beq_self_eq_true]
      cases hq : r.lookup y with
      | none => rfl
      | some z => exact absurd (List.mem_map_of_mem (f := (·.1)) (mem_of_lookup hq)) n1
    · rw [if_neg hyx, beq_false_of_ne hyx]
theorem pad_get (names : Names) (y : Str) (lam : Bool) : ∀ vars : List (Str × V), Fr.get ⟨names, pad names vars, lam⟩ y = vars.lookup y := fun vars => by
  have h1 : (vars.map fun x => (x.1, some x.2)).lookup y = (vars.lookup y).map some := by
    induction vars with
    | nil => rfl
    | cons e r ih =>
      rw [List.map_cons, List.lookup_cons, List.lookup_cons, ih]
      cases y == e.1 <;> rfl
  have h2 : ∀ l : Names, gotv ((l.map fun x => (x.1, (none : Option V))).lookup y) = none := fun l => by
    induction l with
    | nil => rfl
    | cons e r ih =>
      rw [List.map_cons, List.lookup_cons]
      cases y == e.1
      · exact ih
      · rfl
  show gotv (List.lookup y (_ ++ _)) = _
  rw [List.lookup_append, h1]
  cases vars.lookup y with
  | none => exact h2 _
  | some v => rfl
theorem nodupB_filterMap {slots : List (Str × V)} : ∀ (ns : List Str), nodupB ns = true → ((ns.filterMap fun n => (slots.lookup n).map (n, ·)).map (·.1)).Nodup ∧ ∀ x ∈ (ns.filterMap fun n => (slots.lookup n).map (n, ·)).map (·.1), x ∈ ns
  | [], _ => ⟨List.nodup_nil, fun _ h => nomatch h⟩
  | n :: ns, h => by
    obtain ⟨h0, h⟩ := and_bool h
    obtain ⟨h1, h2⟩ := nodupB_filterMap ns h
    rw [List.filterMap_cons]
    cases hq : slots.lookup n with
    | none => exact ⟨h1, fun x hx => List.mem_cons_of_mem _ (h2 x hx)⟩
    | some v => exact ⟨List.nodup_cons.mpr ⟨fun hm => absurd (List.contains_iff_mem.mpr (h2 _ hm)) (by simpa using h0), h1⟩, fun x hx => (List.mem_cons.mp hx).elim (fun e => e ▸ List.mem_cons_self ..) fun hx => List.mem_cons_of_mem _ (h2 x hx)⟩
theorem bindV_nodup {ps : Arguments} {dfl : List V} {kwd : List (Str × V)} {a : List V} {ks vars : List (Str × V)} (h : bindV ps dfl kwd a ks = some vars) : (vars.map (·.1)).Nodup := by
  obtain ⟨hc, h⟩ := ite_some h
  obtain ⟨slots, h6, h⟩ := bind_some h
  obtain ⟨_, h⟩ := ite_some h
  obtain ⟨fin, h7, h⟩ := map_some h
  exact h ▸ (nodupB_filterMap _ (and_bool hc).2).1
theorem binds_store {A0 : Around} {names : Names} {lam : Bool} {r : List Fr} (vars : List (Str × V)) : ∀ {binds : List (Str × Value)} {acc : Vars} {s : Shared}, KsR s.heap κ vars binds → okVars names vars = true → St w A n b κ (⟨names, acc, lam⟩ :: r) O s env →
    wpAny (MW w) A0 (forIn binds PUnit.unit fun x (_ : PUnit) => do storeName env x.1 x.2; pure (ForInStep.yield PUnit.unit))
      (fun _ s2 => GoW w b κ O s κ (⟨names, vars.foldl (fun a x => setVar a x.1 x.2) acc, lam⟩ :: r) O s2) E s := by
  induction vars with
  | nil => intro binds acc s k _ t; cases k; rw [List.forIn_nil]; exact wpAny_pure (Go.refl t.rel)
  | cons e vars ih =>
    intro binds acc s k okv t
    obtain ⟨cv, r, rfl, rv, k⟩ := k
    rw [List.forIn_cons]
    obtain ⟨h1, h2⟩ := and_bool okv
    have hx : setTop (⟨names, acc, lam⟩ :: ‹List Fr›) e.1 e.2 = some (⟨names, setVar acc e.1 e.2, lam⟩ :: ‹List Fr›) := if_pos (by
      rcases Bool.or_eq_true_iff.mp h1 with h | h
      · rw [beq_iff_eq.mp h]; rfl
      · rw [beq_iff_eq.mp h]; rfl)
    exact wpAny_bind (wpAny_bind (setTop_sound t hx rv fun s1 g => wpAny_pure (wpAny_mono (ih (KsR_mono g.ext k) h2 (t.next g)) (fun _ s2 g2 => g.trans g2) fun _ _ e => e)))
theorem Ok.deeper (h : Ok A (n + 1)) : Ok (A.deeper env) n := ⟨by have := h.dep; show A.depth + 1 + n ≤ 690; omega, by have := h.uni; show A.units + 3 + 10 * n ≤ 9800; omega, h.hd⟩

noncomputable abbrev Pl.in (κ : Pl) (p : FP) : Pl := ⟨[p], κ.ob, κ.fr.flatMap FP.addrs ++ κ.hid⟩
theorem Pl.in_mt (κ : Pl) (p : FP) : (κ.in p).mt = p.addrs ++ κ.mt := by
  show (p.addrs ++ []) ++ ((_ ++ _) ++ _) = _
  rw [List.append_nil, Pl.mt, List.append_assoc]
theorem frame_sound {A0 : Around} {scope : Scope} {qual : Str} {func : Option Addr} {code : Value} {lam : Bool} {vars : List (Str × V)} {binds : List (Str × Value)} {Q : Env → Shared → Prop} (R : RelW w κ F O s.heap) (ok : ∀ env, Ok (A.deeper env) n) (ok0 : Ok A n) (hk : scope.kind = .function)
    (k : KsR s.heap κ vars binds) (okv : okVars scope.names vars = true) (hn : (vars.map (·.1)).Nodup) (nf : noFree scope.names = true)
    (hcode : lam = false → ∃ c p, code = .ref c ∧ CodeHd (HW w) c p ∧ p < (HW w).objs.size ∧ (HW w).get? p = none)
    (hQ : ∀ {env' s' p}, St w (A.deeper env') n O.length (κ.in p) [⟨scope.names, pad scope.names vars, lam⟩] O s' env' → Ext s.heap κ s'.heap (κ.in p) → SameRest s s' → (∀ a ∈ (κ.in p).hid, ∀ o, s.heap.get? a = some o → s'.heap.get? a = some o) → Q env' s') :
    wpAny (MW w) A0 (newFunctionEnv scope mainGlobals [] binds qual func code none builtinsNs) Q E s := by
  refine wpAny_frame fun env' he => ?_
  obtain ⟨R1, x1⟩ := R.lay scope.names (.type "frame") lam (κ' := κ.in (newFP s.heap scope.names lam)) (F2 := []) (P2 := []) rfl rfl (κ.in_mt _) rfl fun i f q e => nomatch e
  have kk := lay_keeps s.heap (.type "frame") scope.names
  have hkind : ∀ x, env'.kindOf x = scope.names.lookup x := fun x => by rw [he]; rfl
  have noFr : ∀ {x}, scope.names.lookup x ≠ some .free := fun hx => absurd nf (by simp only [noFree, Bool.not_eq_true', Bool.not_eq_false]; exact List.any_eq_true.mpr ⟨_, mem_of_lookup hx, rfl⟩)
  have hc : env'.code = code := by rw [he]; rfl
  have ER : EnvR w (κ.in (newFP s.heap scope.names lam)).fr env' := {
    kind := by rw [he]; exact hk
    glob := by rw [he]; rfl
    blt := by rw [he]; rfl
    code := fun q => hc ▸ hcode (by cases lam with | false => rfl | true => exact ff_ne q)
    top := ⟨_, _, rfl, envT_new (cl := []) (by rw [he]; rfl) (by rw [he]; rfl) (fun x k hx => ⟨fun _ => (hkind x).trans hx, fun e => absurd (e ▸ hx) noFr⟩) fun x hx => absurd hx noFr⟩ }
  refine wpAny_mono (binds_store (b := O.length) (acc := []) vars (KsR_mono x1 k) okv ⟨ok0, R1, ER, Nat.le_refl _⟩) (fun _ s2 g => ?_) fun _ _ e => e
  have R3 := g.rel.relook (f' := ⟨scope.names, pad scope.names vars, lam⟩) rfl rfl fun x => by
    rw [pad_get]
    show gotv _ = _
    rw [foldl_lookup x vars [] hn]
    cases vars.lookup x <;> rfl
  exact hQ ⟨ok _, R3, ER, Nat.le_refl _⟩ (x1.trans g.ext) ⟨g.rest.1, g.rest.2.1, g.rest.2.2⟩ fun a ha o e => (g.hid a ha).2 o (kk a o e)
end

mutual
theorem RV_under {h : Heap} {κ : Pl} : ∀ {v : V} {cv : Value}, RV h κ v cv → v.under κ.ob.length = true
  | .none, _, _ => rfl
  | .bool _, _, _ => rfl
  | .int _, _, _ => rfl
  | .str _, _, _ => rfl
  | .tup l, _, ⟨_, _, _, _, _, m⟩ => RVs_under m
  | .lst l, _, ⟨_, _, _, _, _, m⟩ => RVs_under m
  | .ref n, _, ⟨_, _, e⟩ => decide_eq_true (List.getElem?_eq_some_iff.mp e).1
  | .rng _ _ _, _, _ => rfl
  | .lam _ _ _, _, _ => rfl
  | .cst _, _, _ => rfl
theorem RVs_under {h : Heap} {κ : Pl} : ∀ {l : List V} {r : List Value}, RVs h κ l r → belows κ.ob.length l = true
  | [], _, _ => rfl
  | _ :: _, _, ⟨_, _, _, a, b⟩ => Bool.and_eq_true_iff.mpr ⟨RV_under a, RVs_under b⟩
end
theorem ObjR_under {h : Heap} {κ : Pl} {o : AObj} {c : C} (r : ObjR h κ o c) : o.Under κ.ob.length := by
  cases c with
  | obj a => cases o with
    | list l => exact let ⟨_, _, hv⟩ := r; RVs_under hv
    | iter l => exact let ⟨_, _, _, _, _, _, hv⟩ := r; RVs_under hv
    | tab => trivial
  | tab a => cases o with
    | tab => trivial
    | _ => exact r.elim

structure Cut (κ κ2 : Pl) : Prop where
  pre : κ.ob <+: κ2.ob
  mt : ∀ a ∈ κ.mt, a ∈ κ2.mt
  off : ∀ (k : Nat) (a : Addr), κ.ob.length ≤ k → κ2.ob[k]? = some (.obj a) → a ∉ κ.mt
theorem pre_back {α : Type} {l l' : List α} (p : l <+: l') {i : Nat} {c : α} (h : i < l.length) (e : l'[i]? = some c) : l[i]? = some c := by
  obtain ⟨t, rfl⟩ := p
  rwa [List.getElem?_append_left h] at e
theorem Cut.of {κ κ2 : Pl} (nd : κ2.mt.Nodup) (pre : κ.ob <+: κ2.ob) (fh : ∀ a ∈ κ.fr.flatMap FP.addrs ++ κ.hid, a ∈ κ2.fr.flatMap FP.addrs ++ κ2.hid) : Cut κ κ2 where
  pre := pre
  mt a h := by
    obtain ⟨l, e⟩ := pre
    rw [Pl.mt, ← List.append_assoc] at h ⊢
    exact (List.mem_append.mp h).elim (fun h => List.mem_append_left _ (fh a h)) fun h => List.mem_append_right _ (by rw [← e, List.map_append]; exact List.mem_append_left _ h)
  off k a hk e h := by
    rw [Pl.mt, ← List.append_assoc] at h
    rw [Pl.mt, ← List.append_assoc] at nd
    have hm : a ∈ κ2.ob.map C.addr := List.mem_map.mpr ⟨_, List.mem_of_getElem? e, rfl⟩
    rcases List.mem_append.mp h with h | h
    · exact (List.nodup_append.mp nd).2.2 a (fh a h) a hm rfl
    · obtain ⟨c, hc, ea⟩ := List.mem_map.mp h
      obtain ⟨j, hj⟩ := List.mem_iff_getElem?.mp hc
      have hjl := (List.getElem?_eq_some_iff.mp hj).1
      refine absurd ((List.getElem?_inj (i := j) (j := k) ?_ (List.nodup_append.mp nd).2.1).mp ?_) (Nat.ne_of_lt (Nat.lt_of_lt_of_le hjl hk))
      · rw [List.length_map]; exact Nat.lt_of_lt_of_le hjl pre.length_le
      · rw [List.getElem?_map, List.getElem?_map, e, pre_get pre hj]; exact congrArg some ea
mutual
theorem pure_under {b : Nat} : ∀ {v : V}, v.pure = true → v.under b = true
  | .none, _ => rfl
  | .bool _, _ => rfl
  | .int _, _ => rfl
  | .str _, _ => rfl
  | .tup l, h => pures_belows (l := l) h
  | .lst l, h => pures_belows (l := l) h
  | .rng _ _ _, _ => rfl
  | .lam _ _ _, _ => rfl
  | .cst _, _ => rfl
theorem pures_belows {b : Nat} : ∀ {l : List V}, pures l = true → belows b l = true
  | [], _ => rfl
  | v :: l, h => Bool.and_eq_true_iff.mpr ⟨pure_under (and_bool h).1, pures_belows (and_bool h).2⟩
end
section
variable {h : Heap} {κ κ2 : Pl}
theorem CodeR_cut (C : Cut κ κ2) {cv : Value} (r : CodeR h κ2 cv) : CodeR h κ cv := let ⟨c, oc, vs, q, t, e, a, r⟩ := r; ⟨c, oc, vs, q, t, e, fun z => a (C.mt _ z), r⟩
mutual
theorem RV_cut (C : Cut κ κ2) : ∀ {v : V} {cv : Value}, v.under κ.ob.length = true → RV h κ2 v cv → RV h κ v cv
  | .none, _, _, e => e
  | .bool _, _, _, e => e
  | .int _, _, _, e => e
  | .str _, _, _, e => e
  | .tup l, _, u, ⟨a, vals, e, ho, ha, m⟩ => ⟨a, vals, e, ho, fun z => ha (C.mt _ z), RVs_cut C u m⟩
  | .lst l, _, u, ⟨a, vals, e, ho, ha, m⟩ => ⟨a, vals, e, ho, fun z => ha (C.mt _ z), RVs_cut C u m⟩
  | .ref n, _, u, ⟨a, e, hi⟩ => ⟨a, e, pre_back C.pre (of_decide_eq_true u) hi⟩
  | .rng _ _ _, _, u, ⟨a, t1, t2, t3, e, ha, r⟩ => ⟨a, t1, t2, t3, e, fun z => ha (C.mt _ z), r⟩
  | .lam _ _ _, _, u, ⟨a, o, fd, e, ha, ho, l⟩ => ⟨a, o, fd, e, fun z => ha (C.mt _ z), ho, { l with code := CodeR_cut C l.code }⟩
  | .cst _, _, _, e => e
theorem RVs_cut (C : Cut κ κ2) : ∀ {l : List V} {r : List Value}, belows κ.ob.length l = true → RVs h κ2 l r → RVs h κ l r
  | [], _, _, e => e
  | v :: l, _, u, ⟨cv, r, e, a, b⟩ => ⟨cv, r, e, RV_cut C (and_bool u).1 a, RVs_cut C (and_bool u).2 b⟩
end
theorem ObjR_cut (C : Cut κ κ2) {o : AObj} {c : Mine.C} (u : o.Under κ.ob.length) (r : ObjR h κ2 o c) : ObjR h κ o c := by
  cases c with
  | obj a => cases o with
    | list l => exact let ⟨vals, hl, hv⟩ := r; ⟨vals, hl, RVs_cut C u hv⟩
    | iter l => exact let ⟨b, k, vals, h1, h2, h3, hv⟩ := r; ⟨b, k, vals, h1, h2, fun z => h3 (C.mt _ z), RVs_cut C u hv⟩
    | tab => exact r.elim
  | tab a => cases o with
    | tab => exact let ⟨ps, h1, h2, h3⟩ := r; ⟨ps, h1, h2, fun p' cv e => CodeR_cut C (h3 p' cv e)⟩
    | _ => exact r.elim
theorem OptR_cut (C : Cut κ κ2) {κ0 : Pl} (e0 : κ0.ob = κ.ob) {h0 : Heap} {o : Option V} {cv cv0 : Option Value} (r0 : OptR h0 κ0 o cv0) (r : OptR h κ2 o cv) : OptR h κ o cv := by
  cases o with
  | none => cases cv with
    | none => trivial
    | some _ => exact r.elim
  | some v =>
    obtain ⟨_, _, u⟩ := OptR.some r0
    obtain ⟨cv, rfl, r⟩ := OptR.some r
    exact RV_cut C (e0 ▸ RV_under u) r
theorem FrameR_cut (C : Cut κ κ2) {κ0 : Pl} (e0 : κ0.ob = κ.ob) {h0 : Heap} {f : Fr} {p : FP} (r0 : FrameR h0 κ0 f p) (r : FrameR h κ2 f p) : FrameR h κ f p where
  nm := r.nm
  lm := r.lm
  loc := let ⟨_, _, h0⟩ := r0.loc; let ⟨m, hm, hl⟩ := r.loc; ⟨m, hm, fun x hx => OptR_cut C e0 (h0 x hx) (hl x hx)⟩
  cell x hx := let ⟨_, _, _, _, h0⟩ := r0.cell x hx; let ⟨c, cv, h1, h2, h3⟩ := r.cell x hx; ⟨c, cv, h1, h2, OptR_cut C e0 h0 h3⟩
theorem Rel.cutTo {h0 : Heap} {F F2 : List Fr} {O2 : Objs} (R2 : Rel h0 κ2 F2 O2 h) (C : Cut κ κ2) (nd : κ.mt.Nodup) (u : ∀ (i : Nat) o, i < κ.ob.length → O2[i]? = some o → o.Under κ.ob.length) (tab : ∀ p : Addr, p < h0.objs.size → h0.get? p = none → ∃ k : Nat, κ.ob[k]? = some (.tab p))
    (flen : κ.fr.length = F.length) (frs : ∀ (i : Nat) f p, F[i]? = some f → κ.fr[i]? = some p → FrameR h κ f p) : Rel h0 κ F (O2.take κ.ob.length) h where
  len := by rw [List.length_take, ← R2.len]; exact (Nat.min_eq_left C.pre.length_le).symm
  flen := flen
  base := R2.base
  off a ha := R2.off a (C.mt a ha)
  nd := nd
  ex a ha := R2.ex a (C.mt a ha)
  objs i o c e e' := by
    have hi := (List.getElem?_eq_some_iff.mp e').1
    rw [List.getElem?_take, if_pos hi] at e
    exact ObjR_cut C (u i o hi e) (R2.objs i o c e (pre_get C.pre e'))
  frs := frs
  tab := tab

theorem freeze_sound {h0 : Heap} {F2 : List Fr} {O2 : Objs} (R2 : Rel h0 κ2 F2 O2 h) (C : Cut κ κ2) (n : Nat) : ∀ {v v' : V} {cv : Value}, freeze O2 κ.ob.length n v = some v' → RV h κ2 v cv → RV h κ v' cv := by
  induction n with
  | zero => intro v v' cv e; exact none_ne e
  | succ n ih =>
    have ihs : ∀ {l l' : List V} {r : List Value}, l.mapM (freeze O2 κ.ob.length n) = some l' → RVs h κ2 l r → RVs h κ l' r := by
      intro l
      induction l with
      | nil => intro l' r e m; cases e; exact m
      | cons x l ihl =>
        intro l' r e m
        rw [List.mapM_cons] at e
        obtain ⟨y, e1, e⟩ := bind_some e
        obtain ⟨l'', e2, e⟩ := bind_some e
        cases e
        obtain ⟨c, r, rfl, a, b⟩ := m
        exact ⟨c, r, rfl, ih e1 a, ihl e2 b⟩
    intro v v' cv e r
    cases v with
    | ref k =>
      dsimp only [freeze] at e
      by_cases hk : k < κ.ob.length
      · rw [if_pos hk] at e; cases e
        exact RV_cut C (decide_eq_true hk) r
      · rw [if_neg hk] at e
        obtain ⟨l, h1, e⟩ := bind_some e
        obtain ⟨l', e1, e⟩ := map_some e
        cases e
        obtain ⟨a, vals, rfl, hi, hl, hv⟩ := R2.list h1 r
        exact ⟨a, vals, rfl, hl, C.off k a (Nat.le_of_not_lt hk) hi, ihs e1 hv⟩
    | tup l =>
      obtain ⟨l', e1, e⟩ := map_some e
      cases e
      exact let ⟨a, vals, e, ho, ha, m⟩ := r; ⟨a, vals, e, ho, fun z => ha (C.mt _ z), ihs e1 m⟩
    | lst l =>
      obtain ⟨l', e1, e⟩ := map_some e
      cases e
      exact let ⟨a, vals, e, ho, ha, m⟩ := r; ⟨a, vals, e, ho, fun z => ha (C.mt _ z), ihs e1 m⟩
    | _ => cases e; exact RV_cut C rfl r
end

section
variable {w : World} {A : Around} {n b : Nat} {κ κ2 : Pl} {F F2 : List Fr} {O O2 : Objs} {s s1 s2 : Shared} {env : Env} {J : WI} {E : Value → Shared → Prop} {p : FP}

theorem back (R : RelW w κ F O s.heap) (hb : b ≤ O.length) (x : Ext s.heap κ s1.heap (κ.in p)) (q : SameRest s s1) (kh : ∀ a ∈ (κ.in p).hid, ∀ o, s.heap.get? a = some o → s1.heap.get? a = some o) (g : GoW w O.length (κ.in p) O s1 κ2 F2 O2 s2) : GoW w b κ O s κ F (O2.take O.length) s2 ∧ Cut κ κ2 := by
  have hid : ∀ a ∈ (κ.in p).hid, a ∈ κ2.hid ∧ ∀ o, s.heap.get? a = some o → s2.heap.get? a = some o := fun a ha => ⟨(g.hid a ha).1, fun o e => (g.hid a ha).2 o (kh a ha o e)⟩
  have C : Cut κ κ2 := Cut.of g.rel.nd g.ext.pre fun a ha => List.mem_append_right _ (hid a ha).1
  have y := x.trans g.ext
  have z : Ext s.heap κ s2.heap κ := ⟨List.prefix_rfl, y.keep, fun b hb hn => absurd hb hn⟩
  have u : ∀ (i : Nat) o, i < κ.ob.length → O2[i]? = some o → o.Under κ.ob.length := fun i o hi e => by
    have hi' : i < O.length := R.len ▸ hi
    obtain ⟨c, _, r⟩ := R.get (List.getElem?_eq_getElem hi')
    obtain ⟨o', e', k⟩ := g.mono i _ hi' (List.getElem?_eq_getElem hi')
    cases e.symm.trans e'
    exact k _ (ObjR_under r)
  have R3 := g.rel.cutTo C R.nd u R.tab R.flen fun i f p e e' => FrameR_mono z (fun b hb o ho => (hid b (List.mem_append_left _ (List.mem_flatMap.mpr ⟨p, List.mem_of_getElem? e', hb⟩))).2 o ho) (R.frs i f p e e')
  rw [R.len] at R3
  refine ⟨⟨R3, z, rfl, ⟨g.rest.1.trans q.1, g.rest.2.1.trans q.2.1, g.rest.2.2.trans q.2.2⟩, fun i o hi e => ?_, fun a ha => ⟨ha, (hid a (List.mem_append_right _ ha)).2⟩⟩, C⟩
  have hi' := Nat.lt_of_lt_of_le hi hb
  obtain ⟨o', e', k⟩ := g.mono i o hi' e
  exact ⟨o', by rw [List.getElem?_take, if_pos hi']; exact e', k⟩
theorem back_val {v v' : V} {cv : Value} {Q : V → Objs → Prop} (R : RelW w κ F O s.heap) (hb : b ≤ O.length) (x : Ext s.heap κ s1.heap (κ.in p)) (q : SameRest s s1) (kh : ∀ a ∈ (κ.in p).hid, ∀ o, s.heap.get? a = some o → s1.heap.get? a = some o) (g : GoW w O.length (κ.in p) O s1 κ2 F2 O2 s2)
    (h : leave O.length v O2 = some v') (r : RV s2.heap κ2 v cv) (hq : Q v' (O2.take O.length)) : End w b κ F O s RV Q cv s2 :=
  let ⟨g', C⟩ := back R hb x q kh g
  .mk hq g' (freeze_sound g.rel C 4 (R.len ▸ h) r)
theorem topVs {h : Heap} : ∀ l : List Value, RVs h κ (l.map topV) l
  | [] => rfl
  | x :: l => ⟨x, l, rfl, topV_is _ _ _, topVs l⟩
theorem Ok.room (h : Ok A n) : A.depth < recursionLimit := Nat.lt_of_le_of_lt (Nat.le_trans (Nat.le_add_right _ _) h.dep) (by decide)
theorem callF_sound (B : Base w) (S : Snd w n J) {ad : Addr} {a : List V} {ks : List (Str × V)} {ca : List Value} {cks : List (Str × Value)} {Q : V → Objs → Prop} (h : Lf (GG.fns.lookup ad) fun fi => Lf (bindV fi.params fi.dfl fi.kwd a ks) fun vars => wFn J fi vars Q O) (ok : Ok A (n + 1)) (R : RelW w κ F O s.heap) (hb : b ≤ O.length)
    (Ra : RVs s.heap κ a ca) (Rk : KsR s.heap κ ks cks) : wpAny (MW w) A (call (.ref ad) ca cks) (End w b κ F O s RV Q) E s := by
  obtain ⟨fi, h1, h⟩ := h.out
  obtain ⟨vars, h2, h⟩ := h.out
  obtain ⟨hch, hx⟩ := h.out
  obtain ⟨okv, hnf⟩ := and_bool hch
  obtain ⟨o, fd, K⟩ := B.fns ad fi h1
  refine wpAny_call (codeAny_call_function ok.room (R.base _ _ K.get) K.data (K.scope.symm ▸ K.cor) (K.scope.symm ▸ K.gen) K.body (K.crec.keeps R.base) ?_)
  refine binds_sound (K.params.symm ▸ h2) Ra Rk ?_ ?_ fun binds kb => ?_
  · exact K.dfl.imp id fun ⟨t, vals, q1, ⟨ot, hot, r⟩, q3⟩ => ⟨t, vals, q1, ⟨ot, R.base _ _ hot, r⟩, q3 ▸ topVs _⟩
  · refine K.kwd.imp id fun ⟨d, m, q1, q2, q3⟩ => ⟨d, m, q1, q2.keeps R.base, fun x => ?_⟩
    rw [← q3]
    cases m x with
    | none => trivial
    | some cv => exact topV_is _ _ _
  rw [K.glob, K.blt, K.clos, K.scope]
  refine frame_sound (A := A) (n := n) R (fun env => ok.deeper) ok.dn K.kind kb okv (bindV_nodup h2) hnf (fun _ => K.code) fun {env' s1 p} t x q kh => ⟨B.nolimit.keeps t.rel.base, codeAny_func (EndS.seq (exs_sound S hx t) fun {f F2 κ2 O2 cf s2} hq g r => ?_)⟩
  cases f with
  | next => cases r; exact .mk hq (back R hb x q kh g).1 rfl
  | ret v => obtain ⟨cv, rfl, rv⟩ := r; obtain ⟨v', h3, hq⟩ := hq.out; exact back_val R hb x q kh g h3 rv hq
  | _ => exact hq.elim

theorem codeAny_callE {R : Result → Shared → Prop} {a : Addr} {args : Args} {o oc : Obj} {fd : FuncData} {body : PySem.Expr} {c : Addr} {vs : Array Value} {q : Str} {t : Tok} (hroom : A.depth < recursionLimit)
    (ho : s.heap.get? a = some o) (hd' : o.data = .func fd) (hco : fd.scope.isCoroutine = false) (hgen : fd.scope.isGenerator = false) (hbody : fd.body = .expr body)
    (hc : fd.code = .ref c) (hoc : s.heap.get? c = some oc) (hdc : oc.data = .fields vs) (hq : vs[1]? = some (.str q t))
    (h : wpAny (MW w) A.in1 (bindArgs fd args) (fun binds s₁ =>
      wpAny (MW w) A.in1 (newFunctionEnv fd.scope fd.globals fd.closure binds (q ++ ".<locals>.") (some a) fd.code none fd.builtins)
        (fun env s₂ => s₂.heap.NoLimit ∧ codeAny (MW w) A (.expr body env) R s₂) (fun e s' => R (.error e) s') s₁) (fun e s' => R (.error e) s') s) :
    codeAny (MW w) A (.call (.ref a) args) R s := by
  refine codeAny_of_tree ?_
  show wpAny _ A.in1 (callAny (.ref a) args) _ _ s
  simp only [callAny]
  refine wpAny_bind (wpAny_load ho ?_)
  simp only [hd', callFunction, hco, hgen, hbody, hc]
  rw [hc] at h
  refine wpAny_bind (m := field (.ref c) 1) (wpAny_field hoc hdc hq (wpAny_bind (wpAny_pure ?_)))
  exact wpAny_bind (wpAny_mono h (fun binds s₁ h₁ => wpAny_bind (wpAny_mono h₁ (fun env s₂ h₂ => wpAny_bind (wpAny_enterFrame h₂.1 hroom
    (wpAny_pure (And.intro rfl h₂.2)))) fun _ _ h' => h')) fun _ _ h' => h')
theorem okScope_is {sc : Scope} (h : okScope sc = true) : sc.kind = .function ∧ sc.isGenerator = false ∧ sc.isCoroutine = false := by
  obtain ⟨h, _⟩ := and_bool h
  obtain ⟨h, h3⟩ := and_bool h
  obtain ⟨h1, h2⟩ := and_bool h
  exact ⟨beq_iff_eq.mp h1, by simpa using h2, by simpa using h3⟩
theorem callL_sound (B : Base w) (S : Snd w n J) {as : Arguments} {bd : PySem.Expr} {sc : Scope} {a : List V} {cf : Value} {ca : List Value} {Q : V → Objs → Prop}
    (h : Lf (bindV as [] [] a []) fun vars => Gd (okVars sc.names vars && okScope sc && noFree sc.names) (J.e bd [⟨sc.names, pad sc.names vars, true⟩] O.length (fun v O1 => Lf (leave O.length v O1) fun r => Q r (O1.take O.length)) O)) (ok : Ok A (n + 1))
    (R : RelW w κ F O s.heap) (hb : b ≤ O.length) (rf : RV s.heap κ (.lam as bd sc) cf) (Ra : RVs s.heap κ a ca) : wpAny (MW w) A (call cf ca []) (End w b κ F O s RV Q) E s := by
  obtain ⟨vars, h2, h⟩ := h.out
  obtain ⟨hch, hx⟩ := h.out
  obtain ⟨hch, hnf⟩ := and_bool hch
  obtain ⟨okv, hsc⟩ := and_bool hch
  obtain ⟨s1, s2, s3⟩ := okScope_is hsc
  obtain ⟨ad, o, fd, rfl, ha, ho, K⟩ := rf
  obtain ⟨c, oc, vs, q, t, k1, k2, k3, k4, k5⟩ := K.code
  refine wpAny_call (codeAny_callE ok.room ho K.data (K.sc.symm ▸ s3) (K.sc.symm ▸ s2) K.bd k1 k3 k4 k5 ?_)
  refine binds_sound (K.params.symm ▸ h2) Ra (show KsR _ _ [] _ from rfl) (.inl ⟨rfl, K.dfl⟩) (.inl ⟨rfl, K.kwd⟩) fun binds kb => ?_
  rw [K.glob, K.blt, K.clos, K.sc]
  exact frame_sound (A := A) (n := n) (lam := true) R (fun env => ok.deeper) ok.dn s1 kb okv (bindV_nodup h2) hnf nofun fun {env' s1 p} t x q kh => ⟨B.nolimit.keeps t.rel.base, kla_codeExpr (End.seq (S.e hx t) fun {v κ2 O2 cv s2} hq g r => let ⟨v', h3, hq⟩ := hq.out; back_val R hb x q kh g h3 r hq)⟩
end

noncomputable def clFrom (env : Env) : Names → List (Str × Addr) → List (Str × Addr)
  | [], acc => acc
  | y :: r, acc => if y.2 == .free then clFrom env r ((y.1, (env.cells.lookup y.1).getD 0) :: acc) else clFrom env r acc
theorem clFrom_lookup {env : Env} {x : Str} (names : Names) : ∀ {acc : List (Str × Addr)}, (x, NameKind.free) ∈ names ∨ acc.lookup x = some ((env.cells.lookup x).getD 0) → (clFrom env names acc).lookup x = some ((env.cells.lookup x).getD 0) := by
  induction names with
  | nil => exact fun h => h.elim (fun h => nomatch h) id
  | cons y r ih =>
    intro acc h
    unfold clFrom
    split
    · rename_i hk
      refine ih (h.elim (fun h => (List.mem_cons.mp h).elim (fun q => .inr (by rw [← q, List.lookup_cons_self])) .inl) fun h => .inr ?_)
      rw [List.lookup_cons]
      split
      · rename_i hxy; rw [beq_iff_eq.mp hxy]
      · exact h
    · rename_i hk
      exact ih (h.imp_left fun h => (List.mem_cons.mp h).elim (fun q => absurd (congrArg Prod.snd q.symm) (fun e => hk (beq_iff_eq.mpr e))) id)
theorem clFrom_none {env : Env} (names : Names) (h : noFree names = true) : ∀ acc, clFrom env names acc = acc := by
  induction names with
  | nil => exact fun _ => rfl
  | cons y r ih =>
    intro acc
    simp only [noFree, List.any_cons, Bool.not_eq_true', Bool.or_eq_false_iff] at h
    rw [clFrom, h.1, if_neg Bool.false_ne_true]
    exact ih (by rw [noFree, h.2]; rfl) acc
theorem closureFor_eq {scope : Scope} {env : Env} (h : ∀ x ∈ scope.names, x.2 = .free → ∃ c, env.cells.lookup x.1 = some c) : closureFor scope env = pure (clFrom env scope.names []) := by
  unfold closureFor
  have : ∀ (names : Names) (acc : List (Str × Addr)), (∀ x ∈ names, x.2 = .free → ∃ c, env.cells.lookup x.1 = some c) →
      (forIn names acc fun x (cs : List (Str × Addr)) => (if x.2 == NameKind.free then do let a ← cellOf env x.1; pure (ForInStep.yield ((x.1, a) :: cs)) else pure (ForInStep.yield cs) : Sem _)) = pure (clFrom env names acc) := by
    intro names
    induction names with
    | nil => intro acc _; rfl
    | cons x r ih =>
      intro acc hx
      rw [List.forIn_cons]
      unfold clFrom
      split
      · rename_i hk
        obtain ⟨c, hc⟩ := hx x List.mem_cons_self (beq_iff_eq.mp hk)
        unfold cellOf
        rw [hc, pure_bind, pure_bind]
        exact ih _ fun y hy => hx y (List.mem_cons_of_mem _ hy)
      · rw [pure_bind]
        exact ih _ fun y hy => hx y (List.mem_cons_of_mem _ hy)
  dsimp only
  rw [bind_pure]
  exact this scope.names [] h
theorem lookup_mapIf (c : Str → NameKind → Bool) (d : NameKind) (x : Str) (names : Names) : (names.map fun y => if c y.1 y.2 = true then (y.1, d) else (y.1, y.2)).lookup x = (names.lookup x).map fun k => if c x k = true then d else k := by
  induction names with
  | nil => rfl
  | cons y r ih =>
    have e : (if c y.1 y.2 = true then (y.1, d) else (y.1, y.2)) = (y.1, if c y.1 y.2 = true then d else y.2) := by split <;> rfl
    rw [List.map_cons, e, List.lookup_cons, ih, List.lookup_cons (k := y.1)]
    by_cases hx : x = y.1
    · rw [← hx, beq_self_eq_true]; rfl
    · rw [beq_false_of_ne hx]
section
variable {w : World} {A : Around} {n b m : Nat} {κ κ1 κ2 : Pl} {F F1 F2 : List Fr} {O O1 O2 : Objs} {s s1 s2 : Shared} {env : Env} {J : WI} {E : Value → Shared → Prop} {p : FP} {FR : List FP} {src : Src} {I D : Addr} {H : List Addr}
theorem okScope_names {sc : Scope} (h : okScope sc = true) : ∀ x ∈ sc.names, x.2 = .free ∨ x.2 = .globalImplicit ∨ ((x.2 = .local ∨ x.2 = .cell) ∧ sc.names.lookup x.1 = some x.2) := fun x hx => by
  have := List.all_eq_true.mp (and_bool h).2 x hx
  rcases Bool.or_eq_true_iff.mp this with h | h
  · exact (Bool.or_eq_true_iff.mp h).imp beq_iff_eq.mp fun h => .inl (beq_iff_eq.mp h)
  · exact .inr (.inr ⟨(Bool.or_eq_true_iff.mp (and_bool h).1).imp beq_iff_eq.mp beq_iff_eq.mp, beq_iff_eq.mp (and_bool h).2⟩)

theorem free_cells (R : RelW w κ F O s.heap) (ER : EnvR w κ.fr env) {names : Names} (hf : freeOk F names = true) : ∀ x ∈ names, x.2 = .free → ∃ c, env.cells.lookup x.1 = some c ∧ cellAt κ.fr x.1 = some c := by
  intro x hx hk
  have hfa := List.all_eq_true.mp hf x hx
  rw [hk] at hfa
  have hfa : freeAt F x.1 = true := hfa
  obtain ⟨p, r, hp, T⟩ := ER.top
  cases F with
  | nil => exact ff_ne hfa
  | cons f rF =>
    have fr : FrameR s.heap κ f p := R.frs 0 f p rfl (hp ▸ rfl)
    dsimp only [freeAt] at hfa
    rw [fr.nm] at hfa
    rw [hp]
    cases hn : p.names.lookup x.1 with
    | none => rw [hn] at hfa; exact ff_ne hfa
    | some kd =>
      rw [hn] at hfa
      cases kd with
      | cell =>
        obtain ⟨_, c, h1, h2⟩ := T.cell _ hn
        exact ⟨c, h2, by unfold cellAt; rw [hn]; exact h1⟩
      | free =>
        obtain ⟨_, c, h1, h2⟩ := T.free _ hn
        exact ⟨c, h1, by unfold cellAt; rw [hn]; exact h2⟩
      | _ => exact ff_ne hfa
theorem comp_env {h : Heap} (ER : EnvR w FR env) {scope : Scope} (hs : okScope scope = true) (hf : ∀ x ∈ scope.names, x.2 = .free → ∃ c, env.cells.lookup x.1 = some c ∧ cellAt FR x.1 = some c) {cenv : Env} (e1 : cenv.scope = relabel scope env) (e2 : cenv.globals = env.globals) (e3 : cenv.builtins = env.builtins) (e4 : cenv.locals = h.objs.size)
    (e5 : cenv.cells = cellsFrom (h.objs.size + 1) scope.names (clFrom env scope.names [])) (e6 : cenv.code = env.code) : EnvR w (newFP h scope.names false :: FR) cenv := by
  have hkd : ∀ x, cenv.kindOf x = (scope.names.lookup x).map fun k => if (k == NameKind.free && env.scope.kind == .function && env.kindOf x == some .cell) then NameKind.cell else k := fun x => by
    unfold Env.kindOf; rw [e1]; exact lookup_mapIf (fun n k => k == NameKind.free && env.scope.kind == .function && env.kindOf n == some .cell) .cell x scope.names
  refine ⟨by rw [e1]; exact (okScope_is hs).1, e2.trans ER.glob, e3.trans ER.blt, fun q => e6 ▸ ER.code q, _, _, rfl, envT_new e4 e5 (fun x k hx => ?_) fun x hx => ⟨fun hm => ?_, ?_⟩⟩
  · rw [hkd, hx]
    refine ⟨fun hk => ?_, fun hk => ?_⟩
    · have : (k == NameKind.free) = false := beq_false_of_ne hk
      show some (if (k == NameKind.free && _ && _) = true then NameKind.cell else k) = some k
      rw [this]; rfl
    · subst hk
      show some (if (_ : Bool) = true then NameKind.cell else .free) = _ ∨ some (if (_ : Bool) = true then NameKind.cell else .free) = _
      split
      · exact .inl rfl
      · exact .inr rfl
  · rcases okScope_names hs _ hm with q | q | ⟨_, q⟩
    · cases q
    · cases q
    · exact nomatch hx.symm.trans q
  · obtain ⟨c, h1, h2⟩ := hf (x, .free) (mem_of_lookup hx) rfl
    exact ⟨c, by rw [clFrom_lookup scope.names (.inl (mem_of_lookup hx)), h1]; rfl, h2⟩
theorem Mono.low (hb : b ≤ m) (g : Mono m O O1) : Mono b O O1 := fun i o hi e => g i o (Nat.lt_of_lt_of_le hi hb) e
theorem GoF.low (hb : b ≤ m) (g : GoF (HW w) m FR κ O s κ1 F1 O1 s1) : GoF (HW w) b FR κ O s κ1 F1 O1 s1 := { g with mono := g.mono.low hb }
theorem append_sound {v : V} {cv : Value} {P : Value → Shared → Prop} (R : RelW w κ F O s.heap) (h : pushAt O m v = some O1) (hD : κ.ob[m]? = some (.obj D)) (r : RV s.heap κ v cv) (k : ∀ s', GoW w m κ O s κ F O1 s' → P .none s') : wpAny (MW w) A (call (.builtin "list.append") [.ref D, cv]) P E s := by
  obtain ⟨l, hl, h⟩ := bind_some h
  obtain ⟨hlen, h⟩ := ite_some h
  cases h
  obtain ⟨vals, hp, rs⟩ := R.at' (listAt_some hl) hD
  refine wpAny_list_append_plain (hsz := RVs_size rs ▸ Nat.le_trans (lenOk_le hlen) (by decide)) hp fun h' hp' hs' => ?_
  obtain ⟨R', x', hk⟩ := R.setO (o' := .list (l ++ [v])) (listAt_some hl) hD (fun b ob hn e => (hs'.2 b hn).trans e) (let ⟨n, hn⟩ := hp'; ⟨_, hn⟩) fun x => ⟨_, hp', by
    rw [Array.toList_push]; exact RVs_app (RVs_mono x rs) (RVs_cons (RV_mono x r) RVs_nil)⟩
  exact k { s with heap := h' } ⟨R', x', rfl, ⟨rfl, rfl, rfl⟩, Mono.set_high (Nat.le_refl _), hk⟩
theorem setTop_tail {f : Fr} {r : List Fr} {x : Str} {v : V} (h : setTop (f :: r) x v = some F1) : ∃ f', F1 = f' :: r := let ⟨_, h⟩ := ite_some h; ⟨_, (Option.some.inj h).symm⟩
theorem setTgt_tail {f : Fr} {r : List Fr} {tgt : PySem.Expr} {v : V} (h : setTgt (f :: r) tgt v = some F1) : ∃ f', F1 = f' :: r := by
  cases tgt with
  | Name x p => exact setTop_tail h
  | Tuple es _ p =>
    cases v with
    | tup l =>
      have : ∀ (es : List PySem.Expr) {l : List V} {f : Fr}, setAll (f :: r) es l = some F1 → ∃ f', F1 = f' :: r := by
        intro es
        induction es with
        | nil => intro l f h; cases l with | nil => cases h; exact ⟨_, rfl⟩ | cons => exact none_ne h
        | cons e es ih =>
          intro l f h
          obtain ⟨x, p, v, r', F2, rfl, rfl, h1, h2⟩ := setAll_cons h
          obtain ⟨f', rfl⟩ := setTop_tail h1
          exact ih h2
      exact this es h
    | _ => exact none_ne h
  | _ => exact none_ne h
theorem forIn_false : ∀ {ifs : List PySem.Expr}, (forIn ifs false fun c r => if r = true then do let ok ← isTrue c env (eval c env); pure (ForInStep.yield ok) else pure (ForInStep.yield r)) = (pure false : Sem Bool)
  | [] => rfl
  | c :: ifs => by
    rw [List.forIn_cons, if_neg Bool.false_ne_true, pure_bind]
    exact forIn_false
theorem tests_sound (S : Snd w n J) {Q : Bool → Objs → Prop} (ifs : List PySem.Expr) : ∀ {κ : Pl} {O : Objs} {s : Shared}, wIfs J ifs F b Q O → St w A n b κ F O s env →
    wpAny (MW w) A (forIn ifs true fun c r => if r = true then do let ok ← isTrue c env (eval c env); pure (ForInStep.yield ok) else pure (ForInStep.yield r)) (End w b κ F O s EqR Q) noE s := by
  induction ifs with
  | nil => intro κ O s h t; rw [List.forIn_nil]; exact wpAny_pure (End.here t.rel h rfl)
  | cons e es ih =>
    intro κ O s h t
    rw [List.forIn_cons, if_pos rfl]
    refine wpAny_bind (wpAny_bind (End.seq (S.t h t) fun {u _ _ _ _} q g r => wpAny_pure ?_))
    cases r
    cases u with
    | true => exact End.on g (ih q (t.next g))
    | false => dsimp only; rw [forIn_false]; exact wpAny_pure (.mk q g rfl)
end

section
variable {w : World} {A : Around} {n b m : Nat} {κ κ1 κ2 : Pl} {F F1 F2 : List Fr} {O O1 O2 OF : Objs} {s s1 s2 : Shared} {env : Env} {J : WI} {E : Value → Shared → Prop} {p : FP} {FR : List FP} {src : Src} {I D : Addr} {H : List Addr}

noncomputable def compEnd (w : World) (A : Around) (E : Value → Shared → Prop) (use : Option (Value → Sem Unit)) (Q : Value → Shared → Prop) (acc : Value) (C : Addr) (s' : Shared) : Prop :=
  match use with
  | none => ∃ m, s'.heap.Ns C m ∧ ∀ h' m', h'.Ns C m' → Heap.SameBut C s'.heap h' → Q acc { s' with heap := h' }
  | some u => wpAny (MW w) A (u acc) (fun _ s'' => ∃ m, s''.heap.Ns C m ∧ ∀ h' m', h'.Ns C m' → Heap.SameBut C s''.heap h' → Q .none { s'' with heap := h' }) E s'
theorem wpAny_comp {e : PySem.Expr} {scope : Scope} {pos : Pos} {newAcc first : Sem Value} {g : Comprehension} {gs : List Comprehension} {cl : List (Str × Addr)} {use : Option (Value → Sem Unit)}
    {Q : Value → Shared → Prop}
    (hcl : clausesOf e = g :: gs) (hs : ∀ x, foldedSetIterable g.iter env x = pure x) (hclos : closureFor scope env = pure cl)
    (hkind : scope.kind = .function) (hnames : ∀ x ∈ scope.names, x.2 = .local → scope.names.lookup x.1 = some .local)
    (h : wpAny (MW w) A first (fun x s₁ => wpAny (MW w) A (pyIter x) (fun it s₂ => wpAny (MW w) A newAcc (fun acc s₃ =>
      wpAny (MW w) A (newFunctionEnv scope env.globals cl [] env.qual none .none (some env)) (fun cenv s₄ =>
        codeAny (MW w) A (.compStart e 0 it acc { cenv with scope := relabel scope env }) (fun r s' => match r with | .ok _ => compEnd w A E use Q acc cenv.locals s' | .error _ => False) s₄) E s₃) E s₂) E s₁) E s) :
    wpAny (MW w) A (comprehension e scope env pos newAcc false first use) Q E s := by
  unfold comprehension
  rw [hclos, hcl]
  refine wpAny_bind (wpAny_mono h (fun x s₁ h₁ => wpAny_bind (wpAny_standAt (wpAny_bind (wpAny_of_eq (hs x) (wpAny_bind (wpAny_holding (wpAny_mono h₁ (fun it s₂ h₂ =>
    wpAny_standIf (wpAny_bind (wpAny_mono h₂ (fun acc s₃ h₃ => wpAny_bind (wpAny_pure (wpAny_bind (wpAny_mono h₃ (fun cenv s₄ h₄ => ?_) fun _ _ h' => h')))) fun _ _ h' => h')))
      fun _ _ h' => h'))))))) fun _ _ h' => h')
  dsimp only
  have hv : ∀ x ∈ (scope.names.filter fun x => (x.2 == .local || x.2 == .cell) && x.1 != (".0" : Str)).reverse, x.2 = .local →
      Env.kindOf { cenv with scope := relabel scope env } x.1 = some .local := fun x hx hl => lookup_relabel_local (hnames x (List.mem_filter.mp (List.mem_reverse.mp hx)).1 hl)
  have hv' : ∀ x ∈ (scope.names.filter fun x => (x.2 == .local || x.2 == .cell) && x.1 != (".0" : Str)).reverse.drop 1 ++ (scope.names.filter fun x => (x.2 == .local || x.2 == .cell) && x.1 != (".0" : Str)).reverse.take 1,
      x.2 = .local → Env.kindOf { cenv with scope := relabel scope env } x.1 = some .local := fun x hx hl => by
    rcases List.mem_append.mp hx with h1 | h1
    · exact hv x (List.mem_of_mem_drop h1) hl
    · exact hv x (List.mem_of_mem_take h1) hl
  refine wpAny_holding (wpAny_bind (wpAny_attempt (wpAny_holding (wpAny_run (codeAny_mono h₄ fun r s' hr => ?_)))))
  cases r with
  | ok f =>
    cases use with
    | none =>
      obtain ⟨m, hn, hr⟩ := hr
      exact wpAny_bind (wpAny_holding (wpAny_comp_letGo (cenv := { cenv with scope := relabel scope env }) hkind _ s' m hv hn fun h' m' hn' hs' => wpAny_pure (hr h' m' hn' hs')))
    | some u =>
      refine wpAny_bind (wpAny_rule (wpAny_bind (wpAny_holding (wpAny_mono hr (fun _ s'' hr' => ?_) fun _ _ h' => h'))))
      obtain ⟨m, hn, hr'⟩ := hr'
      exact wpAny_bind (wpAny_comp_letGo (cenv := { cenv with scope := relabel scope env }) hkind _ s'' m hv' hn fun h' m' hn' hs' => wpAny_pure (hr' h' m' hn' hs'))
  | error x => exact hr.elim
theorem compTurn_one {elt target iter : PySem.Expr} {ifs : List PySem.Expr} {scope : Scope} {pos : Pos} {it acc : Value} :
    compTurn (.ListComp elt [⟨target, iter, ifs, 0⟩] scope pos) 0 it acc env = (do
      standAt iter.pos
      match ← pyNext it with
      | none => pure (.done .next)
      | some v =>
        letOwnedTupleGo target it v
        assign target env v
        let mut ok := true
        for c in ifs do
          if ok then ok ← isTrue c env (eval c env)
        if ok then
          match ([⟨target, iter, ifs, 0⟩] : List Comprehension)[0 + 1]? with
          | some g' =>
            let x ← eval g'.iter env
            standAt g'.iter.pos
            let x ← if g'.is_async != 0 then foldedIterable g'.iter x else foldedSetIterable g'.iter env x
            let _ ← runOwn (.compStart (.ListComp elt [⟨target, iter, ifs, 0⟩] scope pos) (0 + 1) (← holding [x] (if g'.is_async != 0 then asyncIter x else pyIter x)) acc env) env
          | none => (do let _ ← call (.builtin "list.append") [acc, ← eval elt env])
        again (.compLoop (.ListComp elt [⟨target, iter, ifs, 0⟩] scope pos) 0 it acc env)) := by
  unfold compTurn
  rfl
theorem SrcR.self {h : Heap} {Q : Value → Shared → Prop} (x : SrcR w s.heap κ src I H) (hh : A.handled = none) (h : Q (.ref I) s) : wpAny (MW w) A (pyIter (.ref I)) Q E s := by
  cases x with
  | walk W cls st len fps vals => exact (W A hh).self _ _ _ _ st h
  | live it at_ => exact wpAny_pyIter_listiter it h
  | enum hei he hit hl o3 vals => exact wpAny_pyIter_enum he h
theorem compStart_any {elt : PySem.Expr} {g : Comprehension} {scope : Scope} {pos : Pos} {acc : Value} {R : Result → Shared → Prop} (hg : g.is_async = 0)
    (sr : SrcR w s.heap κ src I H) (hh : A.handled = none) (h : codeAny (MW w) A (.compLoop (.ListComp elt [g] scope pos) 0 (.ref I) acc env) R s) :
    codeAny (MW w) A (.compStart (.ListComp elt [g] scope pos) 0 (.ref I) acc env) R s := by
  refine codeAny_of_tree ?_
  show wpAny _ _ ((compStart (.ListComp elt [g] scope pos) 0 (.ref I) acc env).onRaise (fun x => do noteFrame x env; standAt theWindowsPlace)) _ _ s
  refine wpAny_notedAt ?_
  unfold compStart
  show wpAny _ _ (if (g.is_async != 0) = true then _ else _) _ _ s
  rw [hg, if_neg (by decide)]
  refine wpAny_bind (wpAny_askSetting (wpAny_ite ?_))
  split
  · first
      | exact wpAny_bind (wpAny_pure (wpAny_pure (And.intro rfl h)))
      | exact wpAny_pure (And.intro rfl h)
  · refine wpAny_bind (wpAny_rule ?_)
    show wpAny _ _ (do
      standAt g.iter.pos
      again (.compLoop (.ListComp elt [g] scope pos) 0 (← pyIter (.ref I)) acc env)) _ _ s
    exact wpAny_bind (wpAny_standAt (wpAny_bind (sr.self (h := s.heap) hh (wpAny_pure (And.intro rfl h)))))

inductive CI (w : World) (b : Nat) (FR : List FP) (κ : Pl) (O : Objs) (s : Shared) (I : Addr) (H : List Addr) (m : Nat) (obF : List C) (OF : Objs) (F' : List Fr) (P : Src → List Fr → Objs → Prop) : Shared → Prop
  | mk {src : Src} {f : Fr} {κ1 : Pl} {O1 : Objs} {s1 : Shared} (h : P src (f :: F') O1) (T : Turn w b FR κ O s src I H (f :: F') O1 κ1 s1) (mF : Mono m OF O1) (hm : m ≤ O1.length) (pF : obF <+: κ1.ob) : CI w b FR κ O s I H m obF OF F' P s1

inductive CE (w : World) (b : Nat) (FR : List FP) (κ : Pl) (O : Objs) (s : Shared) (m : Nat) (obF : List C) (OF : Objs) (F' : List Fr) (Q : Objs → Prop) : Shared → Prop
  | mk {f : Fr} {κ2 : Pl} {O2 : Objs} {s2 : Shared} (q : Q O2) (g : GoF (HW w) b FR κ O s κ2 (f :: F') O2 s2) (mF : Mono m OF O2) (pF : obF <+: κ2.ob) : CE w b FR κ O s m obF OF F' Q s2
theorem comp_loop (S : Snd w n J) (ok : Ok A n) (R0 : RelW w κ F O s.heap) (ER : EnvR w FR env) {elt tgt iter : PySem.Expr} {ifs : List PySem.Expr} {scope : Scope} {pos : Pos} {Q : Objs → Prop} {obF : List C} (hD : obF[m]? = some (.obj D)) (hb : b ≤ m) (ht : TgtOk I H tgt) {k : Nat} {F' : List Fr}
    (h : CI w b FR κ O s I H m obF OF F' (compW J tgt ifs elt m Q k) s1) :
    codeAny (MW w) A (.compLoop (.ListComp elt [⟨tgt, iter, ifs, 0⟩] scope pos) 0 (.ref I) (.ref D) env) (fun r s' => match r with | .ok f => CE w b FR κ O s m obF OF F' Q s' | .error _ => False) s1 := by
  refine codeAny_loop rfl (fun k => CI w b FR κ O s I H m obF OF F' (compW J tgt ifs elt m Q k)) (fun k s1 h => ?_) k h
  obtain ⟨h, T, mF, hm, pF⟩ := h
  cases k with
  | zero => exact False.elim h
  | succ k =>
    show wpAny _ A ((compTurn (.ListComp elt [⟨tgt, iter, ifs, 0⟩] scope pos) 0 (.ref I) (.ref D) env).onRaise (fun x => do noteFrame x env; theTreesLotGoes x)) _ _ _
    refine wpAny_noted ?_
    rw [compTurn_one]
    refine wpAny_bind (wpAny_standAt (wpAny_bind (T.step R0 ok.hd ht h (fun q e0 g => wpAny_pure (.mk q g mF (e0 ▸ pF))) fun q hs => wpAny_bind (wpAny_mono hs (fun _ s3 T3 => ?_) fun _ _ e => e))))
    obtain ⟨T3, rv⟩ := T3
    obtain ⟨F2, h3, q⟩ := q.out
    obtain ⟨f2, rfl⟩ := setTgt_tail h3
    have t3 : St w A n m _ _ _ s3 env := ⟨ok, T3.go.rel, T3.go.frs.symm ▸ ER, hm⟩
    refine wpAny_bind (setTgt_sound t3 h3 rv fun s4 g4 => wpAny_bind (End.seq (tests_sound S ifs q (t3.next g4)) fun {u κ5 O5 cb s5} q5 g5 r5 => ?_))
    cases r5
    have t5 := (t3.next g4).next g5
    have T5 := (T3.on (g4.low hb)).on (g5.low hb)
    have m5 := mF.trans (g4.trans g5).mono
    have p5 := pF.trans (g4.trans g5).ext.pre
    cases u with
    | false => exact wpAny_pure ⟨rfl, k, Nat.lt_succ_self k, .mk q5 T5 m5 t5.le p5⟩
    | true =>
      refine wpAny_bind (wpAny_bind (End.seq (S.e q5 t5) fun {v κ6 O6 ce s6} q6 g6 r6 => wpAny_bind ?_))
      obtain ⟨O7, h7, q7⟩ := q6.out
      have p6 := p5.trans g6.ext.pre
      refine append_sound g6.rel h7 (pre_get p6 hD) r6 fun s7 g7 => wpAny_pure (wpAny_pure ⟨rfl, k, Nat.lt_succ_self k, .mk q7 ((T5.on (g6.low hb)).on (g7.low hb)) (m5.trans (g6.trans g7).mono) ((t5.next g6).next g7).le (p6.trans g7.ext.pre)⟩)
theorem Rel.pop {h0 h : Heap} {f : Fr} {r : List FP} (R : Rel h0 κ (f :: F) O h) (e : κ.fr = p :: r) : Rel h0 ⟨r, κ.ob, p.addrs ++ κ.hid⟩ F O h ∧ Ext h κ h ⟨r, κ.ob, p.addrs ++ κ.hid⟩ ∧ (∀ a, a ∈ κ.mt → a ∈ (Pl.mt ⟨r, κ.ob, p.addrs ++ κ.hid⟩)) := by
  have pm : (r.flatMap FP.addrs ++ ((p.addrs ++ κ.hid) ++ κ.ob.map C.addr)).Perm κ.mt := by
    rw [Pl.mt, e, List.flatMap_cons, List.append_assoc p.addrs κ.hid, List.append_assoc p.addrs (r.flatMap _)]
    exact List.perm_append_comm_assoc _ _ _
  have x : Ext h κ h ⟨r, κ.ob, p.addrs ++ κ.hid⟩ := ⟨List.prefix_rfl, fun _ _ e _ => e, fun b hb hn => absurd (pm.mem_iff.mp hb) hn⟩
  have fl := R.flen
  rw [e] at fl
  exact ⟨{ R with
    flen := Nat.succ.inj fl
    off := fun a ha => R.off a (pm.mem_iff.mp ha)
    nd := pm.nodup_iff.mpr R.nd
    ex := fun a ha => R.ex a (pm.mem_iff.mp ha)
    objs := fun i o c e e' => ObjR_mono x (fun _ e => e) (R.objs i o c e e')
    frs := fun i f q e1 e2 => FrameR_mono x (fun _ _ _ e => e) (R.frs (i + 1) f q e1 (e ▸ e2)) }, x, fun a h => pm.mem_iff.mpr h⟩
set_option tactic.hygienic true in
theorem comp_rest (S : Snd w n J) (ok : Ok A n) (R0 : RelW w κ F O s.heap) {elt tgt iter : PySem.Expr} {ifs : List PySem.Expr} {scope : Scope} {pos : Pos} {Q : V → Objs → Prop} {cenv : Env} {κ2 : Pl} (T : Turn w b κ.fr κ O s src I H F O1 κ1 s1) (g2 : GoW w b κ1 O1 s1 κ2 F (O1 ++ [.list []]) s2)
    (hD : κ2.ob[O1.length]? = some (.obj D)) (hb : b ≤ O1.length) (ht : TgtOk I H tgt) (EC : EnvR w (newFP s2.heap scope.names false :: κ.fr) cenv) (q : compW J tgt ifs elt O1.length (lcEnd O1.length Q) 300 src (⟨scope.names, pad scope.names [], false⟩ :: F) (O1 ++ [.list []]))
    {P : Shared → Prop} (fin : ∀ {v κ' O' s'}, Q v O' → GoW w b κ O s κ' F O' s' → RV s'.heap κ' v (.ref D) → s2.heap.objs.size ∈ κ'.hid → s.heap.get? s2.heap.objs.size = none → (∃ m, s'.heap.Ns s2.heap.objs.size m) → P s') :
    codeAny (MW w) A (.compStart (.ListComp elt [⟨tgt, iter, ifs, 0⟩] scope pos) 0 (.ref I) (.ref D) cenv) (fun r s' => match r with | .ok _ => P s' | .error _ => False) { s2 with heap := layHeap s2.heap (.type "dict") scope.names } := by
  have T2 := T.on g2
  have kk := lay_keeps s2.heap (.type "dict") scope.names
  obtain ⟨R3, x3⟩ := T2.go.rel.lay scope.names (.type "dict") false (κ' := ⟨newFP s2.heap scope.names false :: κ2.fr, κ2.ob, κ2.hid⟩) (F2 := F) (P2 := κ2.fr) rfl rfl (List.append_assoc ..) T2.go.rel.flen fun i f q e e' => T2.go.rel.frs i f q e e'
  have T3 : Turn w b (newFP s2.heap scope.names false :: κ.fr) κ O s src I H (⟨scope.names, pad scope.names [], false⟩ :: F) (O1 ++ [.list []]) ⟨newFP s2.heap scope.names false :: κ2.fr, κ2.ob, κ2.hid⟩ { s2 with heap := layHeap s2.heap (.type "dict") scope.names } :=
    ⟨⟨R3.relook (f' := ⟨scope.names, pad scope.names [], false⟩) rfl rfl fun x => (pad_get _ x _ []).symm, T2.go.ext.trans x3, congrArg (_ :: ·) T2.go.frs, T2.go.rest, T2.go.mono, fun a h => ⟨(T2.go.hid a h).1, fun o e => kk a o ((T2.go.hid a h).2 o e)⟩⟩, T2.src.go x3 (fun a h => ⟨h, fun o e => kk a o e⟩) T2.hid, T2.new, T2.hid⟩
  refine compStart_any rfl T3.src ok.hd (codeAny_mono (comp_loop S ok R0 EC hD hb ht (.mk q T3 (Mono.refl _ _) (by rw [List.length_append]; exact Nat.le_add_right _ _) List.prefix_rfl)) fun r s' hr => ?_)
  cases r with
  | error e => exact hr.elim
  | ok f =>
    obtain ⟨q, g, mF, pF⟩ := hr
    rename_i fe κe Oe
    obtain ⟨l, hl, q⟩ := q.out
    obtain ⟨R4, x4, mt4⟩ := g.rel.pop g.frs
    have hDe := pre_get pF hD
    have nC : s.heap.get? s2.heap.objs.size = none := Go.old T2.go (new_none (Nat.le_refl _))
    obtain ⟨m, hm, _⟩ := (g.rel.frs 0 fe (newFP s2.heap scope.names false) rfl (by rw [g.frs]; rfl)).loc
    obtain ⟨a, vals, ea, _, hp, rs⟩ := g.rel.list hl ⟨D, rfl, hDe⟩
    cases ea
    cases hpu : pures l with
    | false =>
      rw [hpu] at q
      exact fin q ⟨R4, g.ext.trans x4, rfl, g.rest, g.mono, fun a h => ⟨List.mem_append_right _ (g.hid a h).1, (g.hid a h).2⟩⟩ ⟨_, rfl, hDe⟩ (List.mem_cons_self ..) nC ⟨m, hm⟩
    | true =>
      rw [hpu] at q
      have p1 := g2.ext.pre.trans pF
      have C5 : Cut ⟨κ.fr, κ1.ob, (newFP s2.heap scope.names false).addrs ++ κe.hid⟩ ⟨κ.fr, κe.ob, (newFP s2.heap scope.names false).addrs ++ κe.hid⟩ := Cut.of R4.nd p1 fun a h => h
      have len := T.go.rel.len
      have R5 := R4.cutTo C5 (R4.nd.sublist ((List.Sublist.refl _).append ((List.Sublist.refl _).append (p1.sublist.map _)))) (fun i o hi e => by
        have hi' : i < O1.length := len ▸ hi
        obtain ⟨c, _, r⟩ := T.go.rel.get (List.getElem?_eq_getElem hi')
        obtain ⟨o', e', k⟩ := mF i _ hi' (by rw [List.getElem?_append_left hi']; exact List.getElem?_eq_getElem hi')
        cases e.symm.trans e'
        have u := ObjR_under r
        exact k _ u) T.go.rel.tab R4.flen fun i f p e e' => FrameR_cut C5 (κ0 := κ1) rfl (T.go.rel.frs i f p e (T.go.frs.symm ▸ e')) (R4.frs i f p e e')
      rw [show (Pl.ob ⟨κ.fr, κ1.ob, (newFP s2.heap scope.names false).addrs ++ κe.hid⟩).length = O1.length from len] at R5
      refine fin q ⟨R5, ⟨T.go.ext.pre, g.ext.keep, fun b hb hn => (g.ext.trans x4).fresh b (C5.mt b hb) hn⟩, rfl, g.rest, fun i o hi e => ?_, fun a h => ⟨List.mem_append_right _ (g.hid a h).1, (g.hid a h).2⟩⟩ ⟨_, vals, rfl, hp, C5.off _ _ (Nat.le_of_eq len) hDe, RVs_cut C5 (pures_belows hpu) (RVs_mono x4 rs)⟩ (List.mem_cons_self ..) nC ⟨m, hm⟩
      obtain ⟨o', e', k⟩ := g.mono i o hi e
      exact ⟨o', by rw [List.getElem?_take, if_pos (Nat.lt_of_lt_of_le hi hb)]; exact e', k⟩

theorem lc_sound (B : Base w) (S : Snd w n J) {elt : PySem.Expr} {gs : List Comprehension} {scope : Scope} {pos : Pos} {Q : V → Objs → Prop} (h : wLc GG J elt gs scope F b Q O) (t : St w A n b κ F O s env) {use : Option (Value → Sem Unit)} {P : Value → Shared → Prop}
    (fin : ∀ {v acc C κ' O' s'}, Q v O' → GoW w b κ O s κ' F O' s' → RV s'.heap κ' v acc → C ∈ κ'.hid → s.heap.get? C = none → (∃ m, s'.heap.Ns C m) → compEnd w A E use P acc C s') :
    wpAny (MW w) A (comprehension (.ListComp elt gs scope pos) scope env (firstIterPos gs pos) (newList []) (firstAsync gs) (firstIter gs env) use) P E s := by
  cases gs with
  | nil => exact h.elim
  | cons g gs =>
    cases gs with
    | cons => exact h.elim
    | nil =>
      obtain ⟨tgt, iter, ifs, a⟩ := g
      obtain ⟨hc, h⟩ := h.out
      obtain ⟨hc, hfr⟩ := and_bool hc
      obtain ⟨ha, hsc⟩ := and_bool hc
      cases show a = 0 from beq_iff_eq.mp ha
      have hfc := free_cells t.rel t.env hfr
      obtain ⟨hfs, hw⟩ := wSrc_sound (E := E) (P := fun it s₂ => wpAny (MW w) A (newList []) (fun acc s₃ =>
        wpAny (MW w) A (newFunctionEnv scope env.globals (clFrom env scope.names []) [] env.qual none .none (some env)) (fun cenv s₄ =>
          codeAny (MW w) A (.compStart (.ListComp elt [⟨tgt, iter, ifs, 0⟩] scope pos) 0 it acc { cenv with scope := relabel scope env }) (fun r s' => match r with | .ok _ => compEnd w A E use P acc cenv.locals s' | .error _ => False) s₄) E s₃) E s₂) B S h t (fun {src I H κ1 O1 s1} q T ht => by
        refine wpAny_newList ?_ (by show 0 ≤ 16777216; omega)
        obtain ⟨q2, g2, r2⟩ := new_list (b := b) (Q := fun v O2 => v = .ref O1.length ∧ O2 = O1 ++ [.list []]) (vs := []) (cvs := []) T.go.rel ⟨rfl, rfl⟩ RVs_nil
        obtain ⟨rfl, rfl⟩ := q2
        obtain ⟨D, e, hD⟩ := r2
        cases e
        refine wpAny_frame fun cenv hcenv => ?_
        rw [List.forIn_nil]
        refine wpAny_pure ?_
        exact comp_rest (cenv := { cenv with scope := relabel scope env }) S t.ok t.rel T g2 hD (Nat.le_trans t.le (Go.le t.rel T.go)) ht (comp_env t.env hsc hfc rfl (by rw [hcenv]; rfl) (by rw [hcenv]; rfl) (by rw [hcenv]; rfl) (by rw [hcenv]; rfl) (by rw [hcenv]; rfl)) q.is fun q g r hC nC m => by
          rw [show cenv.locals = (pushS s1 { cls := .type "list", data := .seq ([] : List Value).toArray }).heap.objs.size by rw [hcenv]; rfl]
          exact fin q g r hC nC m)
      exact wpAny_comp (g := ⟨tgt, iter, ifs, 0⟩) (gs := []) rfl hfs (closureFor_eq fun x hx hk => let ⟨c, hc, _⟩ := hfc x hx hk; ⟨c, hc⟩) (okScope_is hsc).1 (fun x hx hl => by
        rcases okScope_names hsc x hx with q | q | ⟨_, q⟩
        · rw [hl] at q; cases q
        · rw [hl] at q; cases q
        · rw [hl] at q; exact q) hw
end

theorem codeAmong_app {pos : Pos} {a b : Int} {c cv : Value} (l : List Value) (h : TriplesOk l) (hn : codeAmong pos (l ++ [rawInt a, rawInt b, c]) = some cv) : codeAmong pos l = some cv ∨ cv = c := by
  fun_induction TriplesOk l with
  | case1 =>
    right
    simp only [List.nil_append, codeAmong, rawInt] at hn
    split at hn
    · cases hn; rfl
    · cases hn
  | case2 a' t b' u x rest ih =>
    simp only [List.cons_append, codeAmong] at hn ⊢
    split at hn
    · rename_i hc; rw [if_pos hc]; exact .inl hn
    · rename_i hc; rw [if_neg hc]; exact ih h hn
  | case3 l h1 h2 => exact h.elim
theorem noFree_no {names : Names} (h : noFree names = true) {x : Str × NameKind} (hx : x ∈ names) : x.2 ≠ .free := fun e => by
  have : (names.any fun x => x.2 == .free) = true := List.any_eq_true.mpr ⟨x, hx, beq_iff_eq.mpr e⟩
  rw [noFree, this] at h
  cases h
theorem set_same {O : Objs} {j : Nat} {o : AObj} (h : O[j]? = some o) : O.set j o = O := by
  apply List.ext_getElem?
  intro i
  by_cases hij : j = i
  · subst hij; rw [List.getElem?_set_self (List.getElem?_eq_some_iff.mp h).1, h]
  · rw [List.getElem?_set_ne hij]
section
variable {w : World} {A : Around} {n b m : Nat} {κ κ1 κ2 : Pl} {F F1 F2 : List Fr} {O O1 O2 OF : Objs} {s s1 s2 : Shared} {env : Env} {J : WI} {E : Value → Shared → Prop}
theorem lamFree_of (R : RelW w κ F O s.heap) (h : lamFree F = true) : lamFreeP κ.fr = true := List.all_eq_true.mpr fun p hp => by
  obtain ⟨i, hi⟩ := List.mem_iff_getElem?.mp hp
  have hl : i < F.length := R.flen ▸ (List.getElem?_eq_some_iff.mp hi).1
  have e := List.getElem?_eq_getElem hl
  rw [← (R.frs i _ p e hi).lm]
  exact List.all_eq_true.mp h _ (List.mem_of_getElem? e)
theorem Rel.tabAt {k : Nat} {p : Addr} (R : RelW w κ F O s.heap) (hk : κ.ob[k]? = some (.tab p)) : O[k]? = some .tab ∧ ObjR s.heap κ .tab (.tab p) := by
  have hlt : k < O.length := R.len ▸ (List.getElem?_eq_some_iff.mp hk).1
  have e := List.getElem?_eq_getElem hlt
  have r := R.objs k _ _ e hk
  cases ho : O[k] with
  | tab => rw [ho] at r e; exact ⟨e, r⟩
  | _ => rw [ho] at r; exact r.elim
theorem lam_made {κ' : Pl} {args : Arguments} {body : PySem.Expr} {scope : Scope} {h' : Heap} {tk : Tok} {cv ctv pm : Value} {q : Str} {nm : Str} {Q : V → Objs → Prop} (hq : Q (.lam args body scope) O) (g : GoW w b κ O s κ' F O { s with heap := h' }) (cr : CodeR h' κ' cv) :
    End w b κ F O s RV Q (.ref h'.objs.size) { s with heap := h'.push { cls := .type "function", data := .func (kla_fn nm q args body scope [] pm cv ctv) }, toks := tk } :=
  have g2 : GoW w b κ' O { s with heap := h' } κ' F O { s with heap := h'.push { cls := .type "function", data := .func (kla_fn nm q args body scope [] pm cv ctv) }, toks := tk } := Go.grow g.rel (push_keeps _ _) ⟨rfl, rfl, rfl⟩
  .mk hq (g.trans g2) ⟨_, _, _, rfl, g.rel.size_off, Heap.get?_push_size _ rfl, rfl, rfl, rfl, rfl, rfl, rfl, rfl, rfl, rfl, CodeR_mono g2.ext cr, rfl⟩
theorem lam_sound (B : Base w) {args : Arguments} {body : PySem.Expr} {scope : Scope} {pos : Pos} {Q : V → Objs → Prop} (h : Gd (okLam args scope && lamFree F) (Q (.lam args body scope) O)) (t : St w A n b κ F O s env) :
    wpAny (MW w) A (eval (.Lambda args body scope pos) env) (End w b κ F O s RV Q) noE s := by
  obtain ⟨hc, hq⟩ := h.out
  obtain ⟨hc, hlf⟩ := and_bool hc
  obtain ⟨c, p, hcd, hcd', hp, hpn⟩ := t.env.code (lamFree_of t.rel hlf)
  obtain ⟨k, hk⟩ := t.rel.tab p hp hpn
  obtain ⟨hσ, ps, hP, htr, hcs⟩ := t.rel.tabAt hk
  obtain ⟨hc, hnf⟩ := and_bool hc
  have hcl : closureFor scope env = pure [] := by rw [closureFor_eq fun x hx hk => absurd hk (noFree_no hnf hx), clFrom_none _ hnf]
  have hdef : defaultsOf args env = ([], []) := by
    obtain ⟨hc, _⟩ := and_bool hc
    obtain ⟨hc, _⟩ := and_bool hc
    obtain ⟨hc, _⟩ := and_bool hc
    obtain ⟨hc, _⟩ := and_bool hc
    obtain ⟨hc, _⟩ := and_bool hc
    obtain ⟨h1, h2⟩ := and_bool hc
    obtain ⟨a1, a2, a3, a4, a5, a6, a7⟩ := args
    cases List.isEmpty_iff.mp h1
    cases List.isEmpty_iff.mp h2
    rfl
  obtain ⟨mg, hmg, hbm⟩ := B.bmain
  have hgs := hmg.keeps t.rel.base
  obtain ⟨bm, ob, b1, b2, b3, b4, b5, b6⟩ := hbm p hpn
  have hbs : s.heap.BuiltinsAt mg p := ⟨bm, ob, b1, b2, b3, b4, t.rel.base _ _ b5, b6⟩
  have hgp : mainGlobals ≠ p := fun q => by
    obtain ⟨o, _, _, ho, _⟩ := hmg
    rw [q, hpn] at ho; cases ho
  refine kla_eval hdef ?_
  cases hca : codeAmong pos ps.toList with
  | some cv =>
    refine kla_makeFunctionHit (mg := mg) hcl t.env.glob hgs hcd (hcd'.keeps t.rel.base) hP htr hca hbs fun ctv h' tk hk' hsz => ?_
    have g : GoW w b κ O s κ F O { s with heap := h' } := Go.grow t.rel hk' ⟨rfl, rfl, rfl⟩
    exact lam_made hq g (CodeR_mono g.ext (hcs _ _ hca))
  | none =>
    refine kla_makeFunction (mg := mg) hcl t.env.glob hgs hcd (hcd'.keeps t.rel.base) hP htr hca hgp hbs fun c' ctv h' tk hx hge hlt hrec htb => ?_
    obtain ⟨c2, oc, vs, t', e2, hoc, hd, hv⟩ := hrec
    cases e2
    have crn : CodeR h' κ (.ref c') := ⟨c', oc, vs, _, t', rfl, fun z => let ⟨o, ho⟩ := t.rel.ex _ z; absurd (Heap.lt_size ho) (Nat.not_lt.mpr hge), hoc, hd, hv⟩
    obtain ⟨R', x', hh⟩ := t.rel.setO (o' := .tab) hσ hk (fun b ob hn e => hx b ob hn e) ⟨_, htb⟩ fun x => ⟨_, htb, by
        rw [Array.toList_append]; exact TriplesOk_snoc _ _ _ _ htr, fun pos' cv hcv => by
        rw [Array.toList_append] at hcv
        exact (codeAmong_app ps.toList htr hcv).elim (fun q => CodeR_mono x (hcs _ _ q)) fun e => e ▸ crn⟩
    rw [set_same hσ] at R'
    exact lam_made hq ⟨R', x', rfl, ⟨rfl, rfl, rfl⟩, Mono.refl _ _, hh⟩ crn
end


structure OpsM (w : World) : Prop where
  slot : ∀ {T name id}, methId name T = some id → PlainAttrs T.ty ∧ Slot T.ty name id ∧ typeOf (.builtin id) = pure (.type "method_descriptor")
  meth : ∀ {A s κ F O O1 b name x a r T id cx ca Q}, methV GG name x a b O = some r → selfTy GG O1 x = some T → methId name T = some id → Ok A 1 → RelW w κ F O s.heap → b ≤ O.length → RV s.heap κ x cx → RVs s.heap κ a ca → Q r.1 r.2 → wpAny (MW w) A (call (.builtin id) (cx :: ca) []) (End w b κ F O s RV Q) noE s
  tabO : ∀ ad, (GG.tabs.lookup ad).isSome = true → ∃ o, (HW w).get? ad = some o ∧ o.cls = .type "dict" ∧ o.dict = none
section
variable {w : World} {A : Around} {n b m : Nat} {κ κ1 κ2 : Pl} {F F1 F2 : List Fr} {O O1 O2 OF : Objs} {s s1 s2 : Shared} {env : Env} {J : WI} {E : Value → Shared → Prop}

theorem args_kw {f : Value} {pos : Pos} {es : List PySem.Expr} {ks : List Keyword} {Q : Args → Shared → Prop} (hs : starFree es = true) (hall : (backToKw pos (keywordEach ks env)).all (·.1.isSome) = true)
    (h : wpAny (MW w) A (spliced (backTo pos (starEach es env))) (fun vs s' => wpAny (MW w) A (evalAll ((backToKw pos (keywordEach ks env)).map (·.2))) (fun cs s'' => Q ⟨vs, ((backToKw pos (keywordEach ks env)).filterMap (·.1)).zip cs⟩ s'') E s') E s) :
    wpAny (MW w) A (evalArgs f true (backTo pos (starEach es env)) (backToKw pos (keywordEach ks env))) Q E s := by
  rcases starEach_shape (env := env) (pos := pos) es hs with e | ⟨x, rest, e⟩
  · rw [e] at h ⊢
    exact evalArgs_kw_nil hall fun Γ p hΓ => (h Γ p hΓ) Γ p hΓ
  · rw [e] at h ⊢; exact evalArgs_kw hall h
theorem callFn_sound (S : Snd w n J) {fv : V} {cf : Value} {a : Addr} {o : Obj} {fd : FuncData} {args : List PySem.Expr} {ks : List Keyword} {pos : Pos} {Q : V → Objs → Prop} (hs : starFree args = true) (hk : (ks.all fun k => k.arg.isSome) = true) (rf : RV s.heap κ fv cf) (hcf : cf = .ref a) (hd : o.data = .func fd)
    (hfd : ∀ {h' κ'}, Ext s.heap κ h' κ' → (∀ b o, (HW w).get? b = some o → h'.get? b = some o) → h'.get? a = some o) (h : wes J.e args F b (fun a O2 => wks J ks F b (fun k O3 => CALL J fv a k b Q O3) O2) O) (t : St w A n b κ F O s env) :
    wpAny (MW w) A (callWith pos cf [] (backTo pos (starEach args env)) (backToKw pos (keywordEach ks env))) (End w b κ F O s RV Q) noE s := by
  subst hcf
  refine callWith_function_kw (o := o) (fd := fd) (args_kw hs (wks_all ks hk) (End.seq (wes_sound S.e h hs t) fun q g r => End.seq (wks_sound S ks q (t.next g)) fun q2 g2 r2 => ?_))
  have g3 := g.trans g2
  exact ⟨⟨hfd g3.ext g3.rel.base, hd⟩, End.on g3 (S.c (q2.is) t.ok g2.rel (t.next g3).le (RV_mono g3.ext rf) (RVs_mono g2.ext r.1) r2)⟩
theorem callBi_sound (S : Snd w n J) {fv : V} {cf : Value} {args : List PySem.Expr} {pos : Pos} {Q : V → Objs → Prop} (hs : starFree args = true) (rf : RV s.heap κ fv cf) (hcf : (∃ id, cf = .builtin id) ∨ ∃ T, cf = .type T)
    (h : wes J.l args F b (fun a O2 => J.c fv a [] b Q O2) O) (t : St w A n b κ F O s env) : wpAny (MW w) A (callWith pos cf [] (backTo pos (starEach args env)) (backToKw pos (keywordEach [] env))) (End w b κ F O s RV Q) noE s := by
  have tail : wpAny (MW w) A (spliced (backTo pos (starEach args env))) (fun vs s' => wpAny (MW w) A (call cf vs []) (End w b κ F O s RV Q) noE s') noE s :=
    End.seq (wes_sound S.l h hs t) fun q g r => End.on g (S.c q t.ok g.rel (t.next g).le (RV_mono g.ext rf) r.1 rfl)
  rcases hcf with ⟨id, rfl⟩ | ⟨T, rfl⟩
  · exact Calls.callWith_builtin (starEach_plain _ hs) (args_of hs tail)
  · exact PySem.callWith_type (starEach_plain _ hs) (args_of hs tail)
theorem callE_sound (B : Base w) (S : Snd w n J) {x : Str} {p pos : Pos} {args : List PySem.Expr} {ks : List Keyword} {Q : V → Objs → Prop} (h : wCall GG J (.Name x p) args ks pos F b Q O) (t : St w A n b κ F O s env) :
    wpAny (MW w) A (eval (.Call (.Name x p) args ks pos) env) (End w b κ F O s RV Q) noE s := by
  obtain ⟨hc, h⟩ := h.out
  obtain ⟨hs, hk⟩ := and_bool hc
  refine wpAny_Call_ofName (End.seq (S.e h t) fun {fv κ1 O1 cf s1} q g r => End.on g ?_)
  obtain ⟨u, h1, q⟩ := q.out
  have t := t.next g
  cases fv with
  | lam as bd sc =>
    cases h1
    obtain ⟨a, o, fd, e, ha, ho, l⟩ := id r
    exact callFn_sound S hs hk r e l.data (fun x _ => x.keep _ _ ho ha) q t
  | cst d =>
    cases d with
    | builtin id => cases h1; obtain ⟨rfl, q⟩ := Gd.nil q; exact callBi_sound S hs r (.inl ⟨_, r⟩) q t
    | type id => cases h1; obtain ⟨rfl, q⟩ := Gd.nil q; exact callBi_sound S hs r (.inr ⟨_, r⟩) q t
    | ref ad =>
      obtain ⟨hf, h1⟩ := ite_some h1
      cases h1
      obtain ⟨fi, hfi⟩ := Option.isSome_iff_exists.mp hf
      obtain ⟨o, fd, K⟩ := B.fns ad fi hfi
      exact callFn_sound S hs hk r r K.data (fun _ k => k _ _ K.get) q t
    | _ => exact none_ne h1
  | _ => exact none_ne h1
theorem okBase_pure {o : PySem.Expr} {name : Str} {whole : Sem Value} (h : okBase o = true) : attributeBase o name env whole = whole := by
  cases o with
  | Call f args ks p =>
    cases f with
    | Name x q =>
      cases args with
      | nil =>
        cases ks with
        | nil => exact ff_ne h
        | cons => rfl
      | cons => rfl
    | _ => rfl
  | _ => rfl

theorem self_type (M : OpsM w) {v : V} {T : MT} {cx : Value} (h : selfTy GG O v = some T) (R : RelW w κ F O s.heap) (r : RV s.heap κ v cx) : s.TypeIs cx T.ty ∧ ∀ a, cx = .ref a → ∃ ob, s.heap.get? a = some ob ∧ ob.dict = none := by
  have lst : ∀ {a : Addr} {vals : Array Value}, s.heap.PlainList a vals → s.TypeIs (.ref a) "list" ∧ ∀ a', Value.ref a = .ref a' → ∃ ob, s.heap.get? a' = some ob ∧ ob.dict = none := fun ⟨_, ho⟩ => ⟨⟨_, ho, rfl⟩, fun a' e => by cases e; exact ⟨_, ho, rfl⟩⟩
  cases v with
  | str l => cases h; obtain ⟨t, rfl⟩ := r; exact ⟨typeIs_str _ _ _, fun _ e => nomatch e⟩
  | lst l => cases h; obtain ⟨a, vals, rfl, hl, _⟩ := r; exact lst hl
  | ref k =>
    obtain ⟨l, h1, h⟩ := map_some h
    cases h
    obtain ⟨a, vals, rfl, _, hl, _⟩ := R.list h1 r
    exact lst hl
  | cst d =>
    cases d with
    | ref ad =>
      obtain ⟨ht, h⟩ := ite_some h
      cases h; cases r
      obtain ⟨ob, hob, hcl, hdi⟩ := M.tabO ad ht
      have ho := R.base _ _ hob
      exact ⟨⟨ob, ho, hcl⟩, fun a' e => by cases e; exact ⟨ob, ho, hdi⟩⟩
    | _ => exact none_ne h
  | _ => exact none_ne h
theorem meth_sound (M : OpsM w) (S : Snd w n J) {o : PySem.Expr} {name : Str} {apos pos : Pos} {args : List PySem.Expr} {Q : V → Objs → Prop} (h : wMeth GG J o name apos args pos F b Q O) (t : St w A n b κ F O s env) (ok : Ok A 1) :
    wpAny (MW w) A (eval (.Call (.Attribute o name apos) args [] pos) env) (End w b κ F O s RV Q) noE s := by
  obtain ⟨hc, h⟩ := h.out
  obtain ⟨hc, hlen⟩ := and_bool hc
  obtain ⟨hc, hs⟩ := and_bool hc
  obtain ⟨hl, hb⟩ := and_bool hc
  have hfew : ((backTo pos (starEach args env)).all (fun x => !x.1) && (backToKw pos (keywordEach [] env)).all (fun x => x.1.isSome)
      && decide (args.length + ([] : List Keyword).length + (if ([] : List Keyword).isEmpty then 0 else 1) < 30)) = true := by
    have h1 : (backTo pos (starEach args env)).all (fun x => !x.1) = true := List.all_eq_true.mpr fun y hy => by
      have := List.any_eq_false.mp (starEach_plain (env := env) (pos := pos) args hs) y hy
      simpa using this
    rw [h1]
    exact decide_eq_true (Nat.lt_trans (of_decide_eq_true hlen) (by decide))
  refine wpAny_Call_method_lateS (okBase_pure hb) hfew hl (End.seq (S.e h t) fun {v κ1 O1 cx s1} q g r => ?_)
  obtain ⟨id, h1, q⟩ := q.out
  obtain ⟨T, hT, h1⟩ := bind_some h1
  obtain ⟨p1, p2, p3⟩ := M.slot h1
  obtain ⟨p4, p5⟩ := self_type M hT g.rel r
  have t1 := t.next g
  have fin : ∀ {cvs s2 κ2 O2 a}, Lf (methV GG name v a b O2) (fun r => Q r.1 r.2) → GoW w b κ1 O1 s1 κ2 F O2 s2 → RVs s2.heap κ2 a cvs → wpAny (MW w) A (call (.builtin id) (cx :: cvs) []) (End w b κ F O s RV Q) noE s2 := fun h g2 ra => let ⟨_, h2, q⟩ := h.out
    End.on (g.trans g2) (M.meth h2 hT h1 ok g2.rel (t1.next g2).le (RV_mono g2.ext r) ra q)
  refine ⟨T.ty, id, p1, p2, p3, p4, p5, Calls.callWith_builtin (starEach_plain _ hs) (args_of hs ?_)⟩
  cases hi : isStr v with
  | true => rw [hi] at q; exact End.seq (wes_sound S.l q hs t1) fun q g2 r2 => fin q g2 r2.1
  | false => rw [hi] at q; exact End.seq (wes_sound S.e q hs t1) fun q g2 r2 => fin q g2 r2.1
theorem Go.touchC {C : Addr} {h' : Heap} (R0 : RelW w κ F O s.heap) (g : GoW w b κ O s κ1 F1 O1 s1) (hC : C ∈ κ1.hid) (nC : s.heap.get? C = none) (hs : Heap.SameBut C s1.heap h') (hn : ∃ m, h'.Ns C m) : GoW w b κ O s κ1 F1 O1 { s1 with heap := h' } ∧ Ext s1.heap κ1 h' κ1 :=
  g.raw (hid' := κ1.hid) (s2 := { s1 with heap := h' }) (H := [C]) (fun a h => List.mem_singleton.mp h ▸ nC) (fun a h => List.mem_singleton.mp h ▸ hC) R0 (List.Sublist.refl _) (fun a h _ => h) (fun b o hb e => (hs.2 b (off_one hb)).trans e) (fun a _ h => let ⟨_, o, _, _, ho, _⟩ := hn; ⟨o, List.mem_singleton.mp h ▸ ho⟩) ⟨rfl, rfl, rfl⟩
theorem lcE_sound (B : Base w) (S : Snd w n J) {elt : PySem.Expr} {gs : List Comprehension} {scope : Scope} {pos : Pos} {Q : V → Objs → Prop} (h : wLc GG J elt gs scope F b Q O) (t : St w A n b κ F O s env) : wpAny (MW w) A (eval (.ListComp elt gs scope pos) env) (End w b κ F O s RV Q) noE s := by
  rw [arm_eval_ListComp]
  refine lc_sound B S h t fun q g r hC nC ⟨m, hm⟩ => ⟨m, hm, fun h' m' hm' hs' => ?_⟩
  obtain ⟨g', x⟩ := Go.touchC t.rel g hC nC hs' ⟨m', hm'⟩
  exact .mk q g' (RV_mono x r)
theorem stepE_sound (B : Base w) (Op : Ops w) (M : OpsM w) (S : Snd w n J) {e : PySem.Expr} {Q : V → Objs → Prop} (h : stepE GG J e F b Q O) (t : St w A (n + 1) b κ F O s env) : wpAny (MW w) A (eval e env) (End w b κ F O s RV Q) noE s := by
  have ok := t.ok.one
  have t := t.dn
  cases e with
  | Constant c k p =>
    cases c with
    | none => exact wpAny_Constant_none (End.here t.rel h rfl)
    | bool c => exact wpAny_Constant_bool (End.here t.rel h rfl)
    | int i => exact wpAny_Constant_int (End.tok t.rel h ⟨_, rfl⟩)
    | str x => exact wpAny_Constant_str (End.tok t.rel h ⟨_, by rw [S_toList]⟩)
    | _ => exact h.elim
  | Name x p => exact name_sound B t h
  | BoolOp op vs p => rw [arm_eval_BoolOp]; exact and_sound S vs h t
  | BinOp l op r p => exact wpAny_BinOp (End.seq (S.l h t) fun q g r => End.seq (S.l q (t.next g)) fun q2 g2 r2 => let ⟨_, h1, q⟩ := q2.out; End.on (g.trans g2) (Op.bin h1 ok g2.rel (RV_mono g2.ext r) r2 q))
  | UnaryOp op x p =>
    cases op with
    | Not => exact wpAny_UnaryOp (End.seq (S.e h t) fun q g r => not_value (let ⟨_, h1, q⟩ := q.out; End.seq (truth_sound (b := b) (Q := fun u' O' => Q (.bool (!u')) O') h1 g.rel r q) fun q2 g2 r2 => .mk q2 (g.trans g2) (congrArg (fun u => Value.bool (!u)) r2)))
    | USub =>
      refine wpAny_UnaryOp (End.seq (S.e h t) fun {v κ1 O1 cv s1} q g r => ?_)
      obtain ⟨u, h1, q⟩ := q.out
      cases v with
      | int i =>
        obtain ⟨_, h1⟩ := ite_some h1
        cases h1
        obtain ⟨t', rfl⟩ := r
        exact P.neg_int ((End.tok g.rel q ⟨_, rfl⟩).go g)
      | _ => exact none_ne h1
    | _ => exact h.elim
  | IfExp c x y p =>
    refine wpAny_IfExp (End.seq (S.t h t) fun {u _ _ _ _} q g r => ?_)
    cases r
    cases u with
    | true => exact End.on g (S.e q (t.next g))
    | false => exact End.on g (S.e q (t.next g))
  | Lambda args body scope pos => exact lam_sound B h t
  | List es p => exact list_sound S h t
  | Tuple es c p => exact tuple_sound S h t
  | ListComp elt gs scope p => exact lcE_sound B S h t
  | Compare l ops rs p =>
    cases ops with
    | nil => exact h.elim
    | cons op ops =>
      cases ops with
      | cons => exact h.elim
      | nil =>
        cases rs with
        | nil => exact h.elim
        | cons r rs =>
          cases rs with
          | cons => exact h.elim
          | nil => have h := Gd.out h; exact wpAny_Compare1 (End.seq (S.l h.2 t) fun q g r => End.seq (S.l q (t.next g)) fun q2 g2 r2 => let ⟨_, h1, q⟩ := q2.out; End.on (g.trans g2) (Op.cmp h1 ok g2.rel (RV_mono g2.ext r) r2 q)) (not_b h.1)
  | Call f args ks pos =>
    cases f with
    | Attribute o name apos => obtain ⟨rfl, h⟩ := Gd.nil h; exact meth_sound M S h t ok
    | Name x p => exact callE_sound B S h t
    | _ => exact h.elim
  | Subscript v i p =>
    cases i with
    | Slice lo hi st q => exact slc_sound Op S h t ok
    | _ => exact sub_sound Op S h t ok
  | _ => exact h.elim
theorem stepL_sound (B : Base w) (Op : Ops w) (M : OpsM w) (S : Snd w n J) {e : PySem.Expr} {Q : V → Objs → Prop} (h : stepL GG J e F b Q O) (t : St w A (n + 1) b κ F O s env) : wpAny (MW w) A (eval e env) (End w b κ F O s RV Q) noE s := by
  cases e with
  | List es p => exact frozen_sound S h t.dn
  | _ => exact stepE_sound B Op M S h t
end

structure OpsD (w : World) : Prop where
  del : ∀ {A s κ F O O1 b v k cl ck} {P : Unit → Shared → Prop}, delV O v k = some O1 → Ok A 1 → RelW w κ F O s.heap → RV s.heap κ v cl → RV s.heap κ k ck → (∀ s1, GoW w b κ O s κ F O1 s1 → P () s1) → wpAny (MW w) A (delItem cl ck) P noE s
section
variable {w : World} {A : Around} {n b m : Nat} {κ κ1 κ2 : Pl} {F F1 F2 : List Fr} {O O1 O2 OF : Objs} {s s1 s2 : Shared} {env : Env} {J : WI} {E : Value → Shared → Prop}
theorem noComp_swaps {e : PySem.Expr} (h : noComp e = true) (t : Option PySem.Expr) (line : Nat) : swapsWith e t line env = pure false := by
  cases e <;> first | rfl | exact ff_ne h
theorem assign_name_sound (S : Snd w n J) {x : Str} {p pos : Pos} {e : PySem.Expr} {Q : Fl → List Fr → Objs → Prop} (h : Gd (noComp e) (J.e e F b (fun v O1 => Lf (setTop F x v) fun F1 => Q .next F1 O1) O)) (t : St w A n b κ F O s env) : wpAny (MW w) A (exec (.Assign [.Name x p] e pos) env) (EndS w b κ O s Q) noE s :=
  wpAny_Assign_Name (End.seq (S.e h.out.2 t) fun q g r => let ⟨_, h1, q⟩ := q.out; setTop_sound (t.next g) h1 r fun s1 g2 => .mk q (g.trans g2) rfl) (noComp_swaps h.out.1 _ _)
theorem assign_lc_sound (B : Base w) (S : Snd w n J) {x : Str} {p pos q : Pos} {elt : PySem.Expr} {gs : List Comprehension} {scope : Scope} {Q : Fl → List Fr → Objs → Prop} (h : wLc GG J elt gs scope F b (fun v O1 => Lf (setTop F x v) fun F1 => Q .next F1 O1) O) (t : St w A n b κ F O s env) :
    wpAny (MW w) A (exec (.Assign [.Name x p] (.ListComp elt gs scope q) pos) env) (EndS w b κ O s Q) noE s := by
  have hsw : ∃ c : Bool, swapsWith (.ListComp elt gs scope q) (some (.Name x p)) pos.line env = pure c := ⟨_, rfl⟩
  obtain ⟨c, hc⟩ := hsw
  cases c with
  | false =>
    refine wpAny_Assign_Name ?_ hc
    rw [arm_eval_ListComp]
    refine lc_sound B S h t fun {v acc C κ' O' s'} q g r hC nC ⟨m, hm⟩ => ⟨m, hm, fun h' m' hm' hs' => ?_⟩
    obtain ⟨g', x⟩ := Go.touchC t.rel g hC nC hs' ⟨m', hm'⟩
    obtain ⟨_, h1, q⟩ := q.out
    exact setTop_sound (t.next g') h1 (RV_mono x r) fun s1 g2 => .mk q (g'.trans g2) rfl
  | true =>
    rw [exec_Assign_Name_used _ _ _ _ hc]
    refine wpAny_bind (wpAny_standAt (wpAny_bind ?_))
    show wpAny _ A (do let _ ← comprehension (.ListComp elt gs scope q) scope env (firstIterPos gs q) (newList []) (firstAsync gs) (firstIter gs env) (some (assign (.Name x p) env)); pure ()) _ noE s
    refine wpAny_bind (lc_sound B S h t fun {v acc C κ' O' s'} q g r hC nC ⟨m, hm⟩ => ?_)
    obtain ⟨_, h1, q⟩ := q.out
    refine wpAny_assign_Name (setTop_sound (t.next g) h1 r fun s1 g2 => ?_)
    obtain ⟨o, es, ep, ho, rest⟩ := hm
    have g3 := g.trans g2
    obtain ⟨hC', hk⟩ := g2.hid C hC
    refine ⟨m, ⟨o, es, ep, hk o ho, rest⟩, fun h' m' hm' hs' => ?_⟩
    obtain ⟨g', x⟩ := Go.touchC t.rel g3 hC' nC hs' ⟨m', hm'⟩
    exact wpAny_pure (wpAny_pure (.mk q g' rfl))

theorem setNames_sound {P : Unit → Shared → Prop} (ns : List Str) : ∀ {vs : List V} {cvs : List Value} {F F1 : List Fr} {s : Shared}, setNames F ns vs = some F1 → St w A n b κ F O s env → RVs s.heap κ vs cvs → (∀ s1, GoW w b κ O s κ F1 O s1 → P () s1) →
    wpAny (MW w) A (assignInOrder (ns.map fun n => bindName env n) cvs) P E s := by
  induction ns with
  | nil =>
    intro vs cvs F F1 s h t r k
    cases vs with
    | nil => cases h; cases r; exact wpAny_pure (k _ (Go.refl t.rel))
    | cons => exact none_ne h
  | cons x ns ih =>
    intro vs cvs F F1 s h t r k
    cases vs with
    | nil => exact none_ne h
    | cons v vs =>
      obtain ⟨cv, cvs, rfl, r1, r2⟩ := r
      obtain ⟨F2, h1, h⟩ := bind_some h
      show wpAny _ A (assignInOrder (bindName env x :: ns.map fun n => bindName env n) (cv :: cvs)) _ E s
      exact wpAny_assignInOrder_more (wpAny_bindName (setTop_sound t h1 r1 fun s1 g => ih h (t.next g) (RVs_mono g.ext r2) fun s2 g2 => k s2 (g.trans g2)))
theorem kindAt_is (t : St w A n b κ F O s env) {x : Str} (h : ownK (kindAt F x) = true) : env.kindOf x = kindAt F x := by
  obtain ⟨p, r, hp, T⟩ := t.env.top
  cases F with
  | nil => exact ff_ne h
  | cons f rF =>
    have fr : FrameR s.heap κ f p := t.rel.frs 0 f p rfl (hp ▸ rfl)
    dsimp only [kindAt] at h ⊢
    rw [fr.nm] at h ⊢
    cases hn : p.names.lookup x with
    | none => rw [hn] at h; exact ff_ne h
    | some kd =>
      rw [hn] at h
      cases kd with
      | «local» => exact T.loc x hn
      | cell => exact (T.cell x hn).1
      | _ => exact ff_ne h
theorem filterMap_same {α β : Type} {f g : α → Option β} : ∀ {l : List α}, (∀ x ∈ l, f x = g x) → l.filterMap f = l.filterMap g
  | [], _ => rfl
  | x :: l, h => by
    rw [List.filterMap_cons, List.filterMap_cons, h x List.mem_cons_self, filterMap_same fun y hy => h y (List.mem_cons_of_mem _ hy)]
theorem swapped_is (t : St w A n b κ F O s env) {ts : List PySem.Expr} {k : Nat} {p : Pos} {e : PySem.Expr} {sw : Option (List Str)} (ht : okTargets F ts = true) (h : swapB (kindAt F) ts e = some sw) :
    swappedStores [.Tuple ts k p] e env = pure sw := by
  have hk : env.blockKind = .function := by
    unfold Env.blockKind; rw [t.env.kind]; rfl
  have hfil : swapNames env.kindOf ((ts.head?.map (·.pos.line)).getD 0) ts = swapNames (kindAt F) ((ts.head?.map (·.pos.line)).getD 0) ts := filterMap_same fun e htm => by
    cases e with
    | Name id pos => dsimp only; rw [kindAt_is t (List.all_eq_true.mp ht _ htm)]
    | _ => rfl
  cases e with
  | Tuple vs k' p' =>
    unfold swapB at h
    unfold swappedStores
    dsimp only at h ⊢
    rw [hk, show (ScopeKind.function != ScopeKind.function) = false from rfl, Bool.or_false]
    show (if (!(ts.length == 2 || ts.length == 3) || vs.length != ts.length) = true then pure none else if starB vs = true then pure none
      else if ((swapNames env.kindOf ((ts.head?.map (·.pos.line)).getD 0) ts).length != ts.length || (swapNames env.kindOf ((ts.head?.map (·.pos.line)).getD 0) ts).eraseDups.length != (swapNames env.kindOf ((ts.head?.map (·.pos.line)).getD 0) ts).length) = true then pure none
      else if vs.all (foldedForSure 8) = true then pure none else if vs.all (constantsAlone 8) = true then (do unsupported "assign.tuple-of-constant-expressions:order-of-the-stores"; pure (some (swapNames env.kindOf ((ts.head?.map (·.pos.line)).getD 0) ts)))
      else pure (some (swapNames env.kindOf ((ts.head?.map (·.pos.line)).getD 0) ts)) : Sem (Option (List Str))) = pure sw
    rw [hfil]
    generalize swapNames (kindAt F) ((ts.head?.map (·.pos.line)).getD 0) ts = ns at h ⊢
    generalize (!(ts.length == 2 || ts.length == 3) || vs.length != ts.length) = c1 at h ⊢
    generalize (ns.length != ts.length || ns.eraseDups.length != ns.length) = c3 at h ⊢
    generalize starB vs = c2 at h ⊢
    generalize vs.all (foldedForSure 8) = c4 at h ⊢
    generalize vs.all (constantsAlone 8) = c5 at h ⊢
    cases c1 with
    | true => cases h; rfl
    | false => cases c2 with
      | true => cases h; rfl
      | false => cases c3 with
        | true => cases h; rfl
        | false => cases c4 with
          | true => cases h; rfl
          | false => cases c5 with
            | true => exact none_ne h
            | false => cases h; rfl
  | _ => cases h; rfl
theorem comp_noswap {e : PySem.Expr} {ts : List PySem.Expr} {k : Nat} {p : Pos} {line : Nat} : swapsWithSole [.Tuple ts k p] e line env = pure false := by
  cases e <;> rfl
theorem RVs_rev {h : Heap} {κ : Pl} {l : List V} : ∀ {r : List Value}, RVs h κ l r → RVs h κ l.reverse r.reverse := by
  induction l with
  | nil => intro r e; cases e; exact rfl
  | cons x l ih =>
    intro r e
    obtain ⟨c, r', rfl, e1, e2⟩ := e
    rw [List.reverse_cons, List.reverse_cons]
    exact RVs_app (ih e2) ⟨c, [], rfl, e1, rfl⟩
theorem assign_tuple_sound (S : Snd w n J) {es : List PySem.Expr} {k : Nat} {p pos : Pos} {e : PySem.Expr} {Q : Fl → List Fr → Objs → Prop} (h : Gd (noComp e) (J.e e F b (fun v O1 => Lf (wTgt es e F v) fun F1 => Q .next F1 O1) O)) (t : St w A n b κ F O s env) :
    wpAny (MW w) A (exec (.Assign [.Tuple es k p] e pos) env) (EndS w b κ O s Q) noE s := by
  rw [exec_Assign_arm]
  refine wpAny_bind (wpAny_standAt ?_)
  rw [comp_noswap]
  refine wpAny_bind (wpAny_pure ?_)
  rw [if_neg (by decide)]
  refine wpAny_bind (End.seq (S.e h.out.2 t) fun {v κ1 O1 cv s1} q g r => ?_)
  obtain ⟨F1, h1, q9⟩ := q.out
  obtain ⟨ht, h1⟩ := ite_some h1
  obtain ⟨sw, h2, h1⟩ := bind_some h1
  have t1 := t.next g
  rw [swapped_is t1 ht h2]
  refine wpAny_bind (wpAny_pure ?_)
  cases v with
  | tup vs =>
    cases sw with
    | none =>
      show wpAny _ A (do assignAll cv [assign (.Tuple es k p) env]; pure Flow.next) _ noE s1
      exact wpAny_bind (setTgt_sound (tgt := .Tuple es k p) (v := .tup vs) t1 h1 r fun s2 g2 => wpAny_pure (.mk q9 (g.trans g2) rfl))
    | some names =>
      obtain ⟨hlen, h1⟩ := ite_some h1
      obtain ⟨a, vals, rfl, htup, ha, rs⟩ := r
      have hn : names.length = vals.size := (beq_iff_eq.mp hlen).symm.trans (RVs_size rs)
      show wpAny _ A (do rule "assign.swapped-stores"; let items ← unpackItems (.ref a) names.length none; assignInOrder (names.reverse.map fun n => bindName env n) items.reverse; pure Flow.next) _ noE s1
      refine wpAny_bind (wpAny_rule (wpAny_bind ?_))
      rw [hn]
      refine wpAny_unpackItems_tuple t.ok.hd htup.isTuple fun h' he => ?_
      have g2 : GoW w b κ1 O1 s1 κ1 F O1 { s1 with heap := h' } := Go.grow g.rel (fun b o e => he b o (fun q => by rw [q, new_none (Nat.le_refl _)] at e; exact none_ne e) e) ⟨rfl, rfl, rfl⟩
      exact wpAny_bind (setNames_sound _ h1 (t1.next g2) (RVs_rev (RVs_mono g2.ext rs)) fun s2 g3 => wpAny_pure (.mk q9 (g.trans (g2.trans g3)) rfl))
  | _ => cases sw <;> exact none_ne h1
theorem aug_sound (B : Base w) (Op : Ops w) (S : Snd w n J) {x : Str} {op : Operator} {p pos : Pos} {e : PySem.Expr} {Q : Fl → List Fr → Objs → Prop}
    (h : Gd (okNm x) (Lf (getV GG F x) fun a => J.e e F b (fun c O1 => Lf (augV O1 op a c) fun v => Lf (setTop F x v) fun F1 => Q .next F1 O1) O)) (t : St w A n b κ F O s env) (ok : Ok A 1) :
    wpAny (MW w) A (exec (.AugAssign (.Name x p) op e pos) env) (EndS w b κ O s Q) noE s := by
  obtain ⟨hx, h⟩ := h.out
  obtain ⟨a, h1, h⟩ := h.out
  refine wpAny_AugAssign_Name (End.seq (load_sound (b := b) (Q := fun v O' => v = a ∧ O' = O) B t h1 (okNm_is hx).2 ⟨rfl, rfl⟩) fun {v κ1 O1 co s1} q g r => ?_)
  obtain ⟨rfl, rfl⟩ := q
  refine End.seq (S.e h (t.next g)) fun {c κ2 O2 cv s2} q2 g2 r2 => ?_
  obtain ⟨u, h2, q8⟩ := q2.out
  obtain ⟨F1, h3, q9⟩ := q8.out
  have g3 := g.trans g2
  cases v with
  | int i =>
    cases c with
    | int j =>
      refine End.seq (Op.inpl (b := b) (Q := fun v' O' => v' = u ∧ O' = O2) h2 ok g2.rel (RV_mono g2.ext r) r2 ⟨rfl, rfl⟩) fun {v' κ3 O3 cr s3} q3 g4 r4 => ?_
      obtain ⟨rfl, rfl⟩ := q3
      exact setTop_sound (t.next (g3.trans g4)) h3 r4 fun s4 g5 => .mk q9 ((g3.trans g4).trans g5) rfl
    | _ => exact none_ne h2
  | _ => exact none_ne h2
theorem del_sound (Op : OpsD w) (S : Snd w n J) {o i : PySem.Expr} {p pos : Pos} {Q : Fl → List Fr → Objs → Prop} (h : J.e o F b (fun v O1 => J.e i F b (fun k O2 => Lf (delV O2 v k) fun O3 => Q .next F O3) O1) O) (t : St w A n b κ F O s env) (ok : Ok A 1) :
    wpAny (MW w) A (exec (.Delete [.Subscript o i p] pos) env) (EndS w b κ O s Q) noE s := by
  refine wpAny_Delete (wpAny_deleteEach_cons ?_)
  show wpAny _ A (do
    let ov ← eval o env
    let iv ← holding [ov] (eval i env)
    standAt p
    holding [ov, iv] (delItem ov iv)
    release [ov, iv] []) _ noE s
  refine wpAny_bind (End.seq (S.e h t) fun q g r => wpAny_bind (wpAny_holding (End.seq (S.e q (t.next g)) fun q2 g2 r2 => wpAny_bind (wpAny_standAt (wpAny_bind (wpAny_holding ?_))))))
  obtain ⟨_, h1, q⟩ := q2.out
  exact Op.del (b := b) h1 ok g2.rel (RV_mono g2.ext r) r2 fun s3 g3 => wpAny_release (wpAny_deleteEach_nil (.mk q ((g.trans g2).trans g3) rfl))
theorem stepS_sound (B : Base w) (Op : Ops w) (OD : OpsD w) (S : Snd w n J) {st : Stmt} {Q : Fl → List Fr → Objs → Prop} (h : stepS GG J st F b Q O) (t : St w A (n + 1) b κ F O s env) : wpAny (MW w) A (exec st env) (EndS w b κ O s Q) noE s := by
  have ok := t.ok.one
  have t := t.dn
  cases st with
  | Expr e p =>
    have h := Gd.out h
    refine wpAny_Expr (End.seq (S.e h.2 t) fun {v κ1 O1 cv s1} q g r => ?_) (by unfold interactive; rw [t.env.kind]; rfl) (noComp_swaps h.1 _ _)
    obtain ⟨hp, q⟩ := q.out
    cases v with
    | none => cases r; exact .mk q g rfl
    | int i => obtain ⟨_, rfl⟩ := r; exact .mk q g rfl
    | bool u => cases r; exact .mk q g rfl
    | str l => obtain ⟨_, rfl⟩ := r; exact .mk q g rfl
    | _ => exact ff_ne hp
  | Pass p => exact wpAny_Pass (.mk h (Go.refl t.rel) rfl)
  | Break p => exact wpAny_Break (.mk h (Go.refl t.rel) rfl)
  | Return e p =>
    cases e with
    | none => exact h.elim
    | some e => exact wpAny_Return_some (End.seq (S.e h t) fun q g r => .mk q g ⟨_, rfl, r⟩)
  | Assign ts e p =>
    cases ts with
    | nil => exact h.elim
    | cons tg ts =>
      cases ts with
      | cons => exact h.elim
      | nil =>
        cases tg with
        | Name x p' =>
          cases e with
          | ListComp elt gs scope q => exact assign_lc_sound B S h t
          | _ => exact assign_name_sound S h t
        | Tuple es k p' => exact assign_tuple_sound S h t
        | _ => exact h.elim
  | AugAssign tg op e p =>
    cases tg with
    | Name x p' => exact aug_sound B Op S h t ok
    | _ => exact h.elim
  | Delete ts p =>
    cases ts with
    | nil => exact h.elim
    | cons tg ts =>
      cases ts with
      | cons => exact h.elim
      | nil =>
        cases tg with
        | Subscript o i p' => exact del_sound OD S h t ok
        | _ => exact h.elim
  | If c x y p =>
    refine wpAny_If (End.seq (S.t h t) fun {u _ _ _ _} q g r => ?_)
    cases r
    cases u with
    | true => exact EndS.on g (exs_sound S q (t.next g))
    | false => exact EndS.on g (exs_sound S q (t.next g))
  | While c body orelse p => obtain ⟨rfl, h2⟩ := Gd.nil h; exact while_sound S (h2.is) t
  | For tgt it body orelse p => exact for_sound B S h t
  | Assert c msg p => exact wpAny_Assert_holds (End.seq (S.t h t) fun q g r => by obtain ⟨rfl, q⟩ := q.out; exact ⟨r, .mk q g rfl⟩)
  | _ => exact h.elim
theorem stepC_sound (B : Base w) (Op : Ops w) (S : Snd w n J) {f : V} {a : List V} {ks : List (Str × V)} {cf : Value} {ca : List Value} {cks : List (Str × Value)} {Q : V → Objs → Prop}
    (h : stepC GG J f a ks b Q O) (ok : Ok A (n + 1)) (R : RelW w κ F O s.heap) (hb : b ≤ O.length) (rf : RV s.heap κ f cf) (Ra : RVs s.heap κ a ca) (Rk : KsR s.heap κ ks cks) :
      wpAny (MW w) A (call cf ca cks) (End w b κ F O s RV Q) noE s := by
  cases f with
  | lam as bd sc => obtain ⟨rfl, h⟩ := Gd.nil h; cases Rk; exact callL_sound B S h ok R hb rf Ra
  | cst c =>
    cases c with
    | ref ad => cases rf; exact callF_sound B S h ok R hb Ra Rk
    | builtin id => cases rf; obtain ⟨rfl, h2⟩ := Gd.nil h; obtain ⟨r, h1, q⟩ := h2.out; cases Rk; exact Op.bi h1 ok.one R hb Ra q
    | type id => cases rf; obtain ⟨rfl, h2⟩ := Gd.nil h; obtain ⟨r, h1, q⟩ := h2.out; cases Rk; exact Op.ty h1 ok.one R hb Ra q
    | _ => exact h.elim
  | _ => exact h.elim

theorem W_sound (B : Base w) (Op : Ops w) (M : OpsM w) (OD : OpsD w) : ∀ n, Snd w (n + 1) (W GG n)
  | 0 => ⟨fun h => h.elim, fun h => h.elim, fun h => h.elim, fun h => h.elim, fun h => h.elim⟩
  | n + 1 =>
    have ih := W_sound B Op M OD n
    ⟨fun h t => stepE_sound B Op M ih h t, fun h t => stepL_sound B Op M ih h t, fun h t => stepT_sound Op ih (fun h => stepE_sound B Op M ih h t) h t, fun h t => stepS_sound B Op OD ih h t, fun h ok R hb rf Ra Rk => stepC_sound B Op ih h ok R hb rf Ra Rk⟩
end

theorem intBits_le {k : Int} {n : Nat} (h : k.natAbs < 2 ^ n) : Builtin.Int.intBits k ≤ n := by
  unfold Builtin.Int.intBits
  by_cases hk : (k == 0) = true
  · rw [if_pos hk]; exact Nat.zero_le _
  · rw [if_neg hk]
    exact (Nat.log2_lt fun q => hk (beq_iff_eq.mpr (Int.natAbs_eq_zero.mp q))).mpr h
theorem intOk_bits {i : Int} (h : intOk i = true) : Builtin.Int.intBits i ≤ 4000 := intBits_le (of_decide_eq_true h)
theorem nat_xor_and (m n : Nat) : (m ^^^ n) + (m &&& n) = m ||| n := by
  have h := nat_or_add_and (m ^^^ n) (m &&& n)
  have e1 : (m ^^^ n) ||| (m &&& n) = m ||| n := Nat.eq_of_testBit_eq fun i => by
    rw [Nat.testBit_or, Nat.testBit_xor, Nat.testBit_and, Nat.testBit_or]
    cases m.testBit i <;> cases n.testBit i <;> rfl
  have e2 : (m ^^^ n) &&& (m &&& n) = 0 := Nat.eq_of_testBit_eq fun i => by
    rw [Nat.testBit_and, Nat.testBit_xor, Nat.testBit_and, Nat.zero_testBit]
    cases m.testBit i <;> cases n.testBit i <;> rfl
  rw [e1, e2, Nat.add_zero] at h
  exact h.symm
theorem bitOr_pp {x y : Int} (hx : 0 ≤ x) (hy : 0 ≤ y) : Builtin.bitOr x y = ((x.toNat ||| y.toNat : Nat) : Int) := by
  rw [bitOr_and, bitAnd_pp hx hy]
  have := nat_or_add_and x.toNat y.toNat
  omega
theorem bitXor_pp {x y : Int} (hx : 0 ≤ x) (hy : 0 ≤ y) : Builtin.bitXor x y = ((x.toNat ^^^ y.toNat : Nat) : Int) := by
  unfold Builtin.bitXor
  rw [bitOr_pp hx hy, bitAnd_pp hx hy]
  have := nat_xor_and x.toNat y.toNat
  omega
theorem noPylong {x y : Int} (h : Builtin.Int.intBits y ≤ 4000) : Builtin.divisionGoesByPylong x y = false := by
  unfold Builtin.Int.intBits at h
  unfold Builtin.divisionGoesByPylong
  have : ¬ ((if (y == 0) = true then 0 else y.natAbs.log2 / 30 + 1) > 300) := by
    split
    · omega
    · rename_i hy
      rw [if_neg hy] at h
      omega
  dsimp only
  rw [decide_eq_false this]; rfl

noncomputable def IntRule (w : World) (A : Around) (op : Operator) (x y z : Int) : Prop := ∀ {s : Shared} {t u : Tok} {Q : Value → Shared → Prop} {E}, (∀ t' k, Q (.int z t') { s with toks := k }) → wpAny (MW w) A (binaryOp op (.int x t) (.int y u)) Q E s ∧ wpAny (MW w) A (inplaceOp op (.int x t) (.int y u)) Q E s
section
variable {w : World} {A : Around} {b : Nat} {κ : Pl} {Fs : List Fr} {O : Objs} {s : Shared} {E : Value → Shared → Prop} {Q : V → Objs → Prop}
theorem dec_and {p q : Prop} [Decidable p] [Decidable q] (h : (decide p && decide q) = true) : p ∧ q := ⟨of_decide_eq_true (and_bool h).1, of_decide_eq_true (and_bool h).2⟩
theorem bin_int {op : Operator} {x y : Int} {v : V} (h : binV O op (.int x) (.int y) = some v) : ∃ z, v = .int z ∧ IntRule w A op x y z := by
  cases op with
  | Add => cases h; exact ⟨_, rfl, fun k => ⟨P.add_int (k _ _), P.iadd_int (k _ _)⟩⟩
  | Sub => cases h; exact ⟨_, rfl, fun k => ⟨P.sub_int (k _ _), P.isub_int (k _ _)⟩⟩
  | Mult =>
    obtain ⟨hc, h⟩ := ite_some h
    cases h
    obtain ⟨h1, h2⟩ := and_bool hc
    have hm : IntMulOk x y := by
      have e1 := intOk_bits h1
      have e2 := intOk_bits h2
      unfold IntMulOk Builtin.Int.intTooBig
      have : ¬ (((Builtin.Int.intBits x : Int) + Builtin.Int.intBits y) > PySem.bitsLine) := by
        have : PySem.bitsLine = 134217728 := rfl
        omega
      rw [decide_eq_false this, Bool.and_false]; exact Bool.false_ne_true
    exact ⟨_, rfl, fun k => ⟨P.mul_int (k _ _) hm, P.imul_int (k _ _) hm⟩⟩
  | Mod =>
    obtain ⟨hc, h⟩ := ite_some h
    cases h
    have hy : 0 < y := hc
    have hy' : y ≠ 0 := (Int.ne_of_lt hy).symm
    refine ⟨_, rfl, fun k => ?_⟩
    rw [← Int.fmod_eq_emod_of_nonneg x (Int.le_of_lt hy)] at k
    exact ⟨mod_int hy' (k _ _), imod_int hy' (k _ _)⟩
  | FloorDiv =>
    obtain ⟨hc, h⟩ := ite_some h
    cases h
    obtain ⟨h1, h2⟩ := and_bool hc
    have hy : 0 < y := of_decide_eq_true h1
    have hy' : y ≠ 0 := (Int.ne_of_lt hy).symm
    have hp := noPylong (x := x) (intOk_bits h2)
    refine ⟨_, rfl, fun k => ?_⟩
    rw [← Int.fdiv_eq_ediv_of_nonneg x (Int.le_of_lt hy)] at k
    exact ⟨floordiv_int hy' (k _ _) (.inl hp), ifloordiv_int hy' (k _ _) (.inl hp)⟩
  | Pow =>
    obtain ⟨hc, h⟩ := ite_some h
    cases h
    obtain ⟨hc, h2⟩ := and_bool hc
    obtain ⟨hx, h1⟩ := and_bool hc
    have h1 := of_decide_eq_true h1
    have h2 := of_decide_eq_true h2
    have hsz : (Builtin.Int.intBits x : Int) * y ≤ 2 ^ 27 := by
      have : Builtin.Int.intBits x ≤ 7 := by
        simp only [Bool.or_eq_true, beq_iff_eq] at hx
        rcases hx with (((rfl | rfl) | rfl) | rfl) | rfl <;> decide
      exact Int.le_trans (Int.mul_le_mul_of_nonneg_right (Int.ofNat_le.mpr this) h1) (Int.le_trans (Int.mul_le_mul_of_nonneg_left (Int.le_of_lt h2) (by decide)) (by decide))
    exact ⟨_, rfl, fun k => ⟨pow_int h1 hsz (k _ _), ipow_int h1 hsz (k _ _)⟩⟩
  | LShift =>
    obtain ⟨hc, h⟩ := ite_some h
    cases h
    obtain ⟨hc, h3⟩ := and_bool hc
    obtain ⟨hc, h2⟩ := and_bool hc
    have h1 := of_decide_eq_true (and_bool hc).2
    have h2 := of_decide_eq_true h2
    have hsz : (Builtin.Int.intBits x : Int) + y ≤ 2 ^ 27 := Int.le_trans (Int.add_le_add (Int.ofNat_le.mpr (intOk_bits h3)) (Int.le_of_lt h2)) (by decide)
    exact ⟨_, rfl, fun k => ⟨lshift_int h1 hsz (k _ _), ilshift_int h1 hsz (k _ _)⟩⟩
  | BitOr =>
    obtain ⟨hc, h⟩ := ite_some h
    cases h
    refine ⟨_, rfl, fun k => ?_⟩
    rw [← bitOr_pp (dec_and hc).1 (dec_and hc).2] at k
    exact ⟨or_int (k _ _), ior_int (k _ _)⟩
  | BitXor =>
    obtain ⟨hc, h⟩ := ite_some h
    cases h
    refine ⟨_, rfl, fun k => ?_⟩
    rw [← bitXor_pp (dec_and hc).1 (dec_and hc).2] at k
    exact ⟨xor_int (k _ _), ixor_int (k _ _)⟩
  | BitAnd =>
    obtain ⟨hc, h⟩ := ite_some h
    cases h
    refine ⟨_, rfl, fun k => ?_⟩
    rw [← bitAnd_pp (dec_and hc).1 (dec_and hc).2] at k
    exact ⟨and_int (k _ _), iand_int (k _ _)⟩
  | _ => exact none_ne h
theorem foldl_flat {α : Type} (x : Array α) (n : Nat) : ∀ (acc : Array α), ((List.replicate n x).foldl (· ++ ·) acc).toList = acc.toList ++ (List.replicate n x.toList).flatten := by
  induction n with
  | zero => exact fun acc => (List.append_nil _).symm
  | succ n ih => intro acc; rw [List.replicate_succ, List.foldl_cons, ih, List.replicate_succ, List.flatten_cons, Array.toList_append, List.append_assoc]
theorem str_ext {x : Str} {l : List Nat} (h : x.cps.toList = l) : x = S l := by cases x; subst h; rfl
theorem RVs_flat {h : Heap} {l : List V} {r : List Value} (rs : RVs h κ l r) (n : Nat) : RVs h κ (List.replicate n l).flatten (List.replicate n r).flatten := by
  induction n with
  | zero => exact rfl
  | succ n ih => rw [List.replicate_succ, List.replicate_succ, List.flatten_cons, List.flatten_cons]; exact RVs_app rs ih
theorem sum_line {a c : Nat} (h : lenOk (a + c) = true) : a + c ≤ sizeLine := Nat.le_trans (lenOk_le h) (by decide)
theorem toArr {v1 v2 : Array Value} : (v1.toList ++ v2.toList).toArray = v1 ++ v2 := Array.toList_inj.mp Array.toList_append.symm
theorem addList_sound {l r : List V} {a1 a2 : Addr} {v1 v2 : Array Value} (hl : lenOk (l.length + r.length) = true) (R : RelW w κ Fs O s.heap) (p1 : s.heap.PlainList a1 v1) (s1 : RVs s.heap κ l v1.toList) (p2 : s.heap.PlainList a2 v2) (s2 : RVs s.heap κ r v2.toList) (q : Q (.lst (l ++ r)) O) :
    wpAny (MW w) A (binaryOp .Add (.ref a1) (.ref a2)) (End w b κ Fs O s RV Q) E s := by
  obtain ⟨n1, p1⟩ := p1
  obtain ⟨n2, p2⟩ := p2
  rw [RVs_size s1, RVs_size s2] at hl
  have := new_lst (b := b) (s := s) R q (RVs_app s1 s2)
  rw [toArr] at this
  exact P.add_list p1 p2 this (sum_line hl)
theorem ne_empty {h : Heap} {l : List V} {vals : Array Value} (rs : RVs h κ l vals.toList) (h : (!l.isEmpty) = true) : ¬ vals.isEmpty = true := fun q => by
  rw [← RVs_empty rs, q] at h; exact ff_ne h
theorem add_sound {x y v : V} {cx cy : Value} (h : binV O .Add x y = some v) (R : RelW w κ Fs O s.heap) (rx : RV s.heap κ x cx) (ry : RV s.heap κ y cy) (q : Q v O) : wpAny (MW w) A (binaryOp .Add cx cy) (End w b κ Fs O s RV Q) E s := by
  cases x with
  | int x =>
    cases y with
    | int y =>
      obtain ⟨t, rfl⟩ := rx; obtain ⟨u, rfl⟩ := ry
      obtain ⟨z, rfl, k⟩ := bin_int (w := w) (A := A) h
      exact (k fun t' k => End.tok R q ⟨_, rfl⟩).1
    | _ => exact none_ne h
  | str x =>
    cases y with
    | str y =>
      obtain ⟨t, rfl⟩ := rx; obtain ⟨u, rfl⟩ := ry
      obtain ⟨hl, h⟩ := ite_some h
      cases h
      refine SB.add (fun t' k => End.tok R q ⟨t', ?_⟩) (by rw [S_length, S_length]; exact sum_line hl)
      exact congrArg (Value.str · t') (str_ext Array.toList_append)
    | _ => exact none_ne h
  | tup x =>
    cases y with
    | tup y =>
      obtain ⟨a1, v1, rfl, ⟨n1, t1⟩, o1, s1⟩ := rx
      obtain ⟨a2, v2, rfl, ⟨n2, t2⟩, o2, s2⟩ := ry
      obtain ⟨hc, h⟩ := ite_some h
      cases h
      obtain ⟨hc, hl⟩ := and_bool hc
      rw [RVs_size s1, RVs_size s2] at hl
      have := new_tup (b := b) (s := s) R q (RVs_app s1 s2)
      rw [toArr] at this
      exact P.add_tuple t1 t2 (ne_empty s1 (and_bool hc).1) (ne_empty s2 (and_bool hc).2) this (sum_line hl)
    | _ => exact none_ne h
  | lst l =>
    obtain ⟨r, h1, h⟩ := bind_some h
    obtain ⟨hl, h⟩ := ite_some h
    cases h
    obtain ⟨a1, v1, rfl, p1, o1, s1⟩ := rx
    obtain ⟨a2, v2, rfl, p2, s2⟩ := items_of R h1 ry
    exact addList_sound hl R p1 s1 p2 s2 q
  | ref m =>
    obtain ⟨l, h0, h⟩ := bind_some h
    obtain ⟨r, h1, h⟩ := bind_some h
    obtain ⟨hl, h⟩ := ite_some h
    cases h
    obtain ⟨a1, v1, rfl, _, p1, s1⟩ := R.list h0 rx
    obtain ⟨a2, v2, rfl, p2, s2⟩ := items_of R h1 ry
    exact addList_sound hl R p1 s1 p2 s2 q
  | _ => exact none_ne h
theorem mulList_sound {l : List V} {a : Addr} {vals : Array Value} {y : Int} {u : Tok} {v : V} (h : mulL l y = some v) (R : RelW w κ Fs O s.heap) (p : s.heap.PlainList a vals) (rs : RVs s.heap κ l vals.toList) (q : Q v O) : wpAny (MW w) A (binaryOp .Mult (.ref a) (.int y u)) (End w b κ Fs O s RV Q) E s := by
  obtain ⟨n, hp⟩ := p
  obtain ⟨hc, h⟩ := ite_some h
  cases h
  obtain ⟨hc, h2⟩ := and_bool hc
  obtain ⟨hn0, h1⟩ := dec_and hc
  rw [RVs_size rs] at h2
  have h2 := lenOk_le h2
  refine wpAny_binaryOp_repeat_ref (T := "list") (U := "int") (by decide) ⟨_, hp, rfl⟩ (fun s' => typeIs_int s' y u) noFill_list_mul F.fills_int_mul F.slot_int_rmul repeat_list F.slot_int_index.lookup
    (call_meets F.slot_int_rmul (typeIs_int s y u) F.entry_int_rmul (F.args_int_rmul_2 _ _) (int___rmul___int_list y u a vals n)
      ⟨hp, rfl, ⟨_, hp, rfl⟩, call_meets F.slot_list_mul ⟨_, hp, rfl⟩ F.entry_list_mul (F.args_list_mul_2 _ _)
        (AutoListH.list___mul___list_int_3 a vals n y u (by simp [Builtin.List.listFitsIndex]; omega) (by omega) (by simp [Builtin.List.listTooLong, sizeLine]; exact Nat.le_trans (by with_reducible assumption) (by decide))) ⟨hp, ?_⟩⟩)
  have := new_lst (b := b) (s := s) R q (RVs_flat rs y.toNat)
  have e : (List.replicate y.toNat vals.toList).flatten.toArray = List.foldl (fun x1 x2 => x1 ++ x2) #[] (List.replicate (if vals.isEmpty = true then 0 else y.toNat) vals) := by
    apply Array.toList_inj.mp
    rw [foldl_flat]
    split
    · rename_i q
      rw [Array.isEmpty_iff.mp q]
      simp
    · rfl
  rw [e] at this
  exact this
theorem mulStr_sound {x : List Nat} {y : Int} {t u : Tok} {v : V} (h : binV O .Mult (.str x) (.int y) = some v) (R : RelW w κ Fs O s.heap) (q : Q v O) : wpAny (MW w) A (binaryOp .Mult (.str (S x) t) (.int y u)) (End w b κ Fs O s RV Q) E s := by
  obtain ⟨hc, h⟩ := ite_some h
  cases h
  obtain ⟨hc, h2⟩ := and_bool hc
  obtain ⟨hn0, h1⟩ := dec_and hc
  have h2 := lenOk_le h2
  refine SB.mul ⟨?_, fun hn hx => ?_, fun hn hx => ?_⟩ fun t' k => End.tok R q ⟨t', ?_⟩
  · rw [decide_eq_false (by omega), decide_eq_false (by omega)]; rfl
  · rw [S_length]
    have : (x.length : Int) ≤ (2 ^ 63 - 1) / y := Int.le_ediv_of_mul_le (by omega) (by
      have e : (x.length : Int) * y = ((x.length * y.toNat : Nat) : Int) := by rw [Int.natCast_mul, Int.toNat_of_nonneg hn0]
      omega)
    omega
  · show decide _ = false
    rw [decide_eq_false_iff_not, S_length]
    show ¬ _ > 16777216
    omega
  · refine congrArg (Value.str · t') (str_ext ?_)
    unfold Txt.mul
    split
    · rw [show y = 0 by omega]; rfl
    · split
      · rename_i hq
        rcases Bool.or_eq_true_iff.mp hq with hq | hq
        · rw [beq_iff_eq.mp hq]
          show x = (List.replicate 1 x).flatten
          simp
        · have : x = [] := List.length_eq_zero_iff.mp ((S_length x).symm.trans (beq_iff_eq.mp hq))
          subst this
          simp [S]
      · exact foldl_flat (S x).cps y.toNat #[]
theorem bin_sound {op : Operator} {x y v : V} {cx cy : Value} (h : binV O op x y = some v) (R : RelW w κ Fs O s.heap) (rx : RV s.heap κ x cx) (ry : RV s.heap κ y cy) (q : Q v O) : wpAny (MW w) A (binaryOp op cx cy) (End w b κ Fs O s RV Q) E s := by
  have hints : ∀ f, int2 x y f = some v → wpAny (MW w) A (binaryOp op cx cy) (End w b κ Fs O s RV Q) E s := fun f hf => by
    cases x with
    | int x =>
      cases y with
      | int y =>
        obtain ⟨t, rfl⟩ := rx; obtain ⟨u, rfl⟩ := ry
        obtain ⟨z, rfl, k⟩ := bin_int (w := w) (A := A) h
        exact (k fun t' k => End.tok R q ⟨_, rfl⟩).1
      | _ => exact none_ne hf
    | _ => exact none_ne hf
  cases op with
  | Add => exact add_sound h R rx ry q
  | Mult =>
    cases y with
    | int y =>
      cases x with
      | int x =>
        obtain ⟨t, rfl⟩ := rx; obtain ⟨u, rfl⟩ := ry
        obtain ⟨z, rfl, k⟩ := bin_int (w := w) (A := A) h
        exact (k fun t' k => End.tok R q ⟨_, rfl⟩).1
      | str x => obtain ⟨t, rfl⟩ := rx; obtain ⟨u, rfl⟩ := ry; exact mulStr_sound h R q
      | lst l => obtain ⟨a, vals, rfl, p, _, rs⟩ := rx; obtain ⟨u, rfl⟩ := ry; exact mulList_sound h R p rs q
      | ref m => obtain ⟨l, h0, h⟩ := bind_some h; obtain ⟨a, vals, rfl, _, p, rs⟩ := R.list h0 rx; obtain ⟨u, rfl⟩ := ry; exact mulList_sound h R p rs q
      | _ => exact none_ne h
    | _ => exact none_ne h
  | Sub => exact hints _ h
  | FloorDiv => exact hints _ h
  | Mod => exact hints _ h
  | Pow => exact hints _ h
  | LShift => exact hints _ h
  | BitAnd => exact hints _ h
  | BitOr => exact hints _ h
  | BitXor => exact hints _ h
  | _ => exact none_ne h
theorem inpl_sound {op : Operator} {i j : Int} {v : V} {cx cy : Value} (h : binV O op (.int i) (.int j) = some v) (R : RelW w κ Fs O s.heap) (rx : RV s.heap κ (.int i) cx) (ry : RV s.heap κ (.int j) cy) (q : Q v O) : wpAny (MW w) A (inplaceOp op cx cy) (End w b κ Fs O s RV Q) E s := by
  obtain ⟨t, rfl⟩ := rx; obtain ⟨u, rfl⟩ := ry
  obtain ⟨z, rfl, k⟩ := bin_int (w := w) (A := A) h
  exact (k fun t' k => End.tok R q ⟨_, rfl⟩).2
end
set_option backward.match.sparseCases false

section
variable {w : World} {A : Around} {b : Nat} {κ : Pl} {Fs : List Fr} {O : Objs} {s : Shared} {E : Value → Shared → Prop} {Q : V → Objs → Prop}
theorem plain_same {h : Heap} {a : Addr} {x y : Array Value} (p : h.PlainList a x) (q : h.PlainList a y) : x = y := by
  obtain ⟨n, hn⟩ := p; obtain ⟨m, hm⟩ := q
  cases hn.symm.trans hm; rfl
theorem ptup_same {h : Heap} {a : Addr} {x y : Array Value} (p : PTup h a x) (q : PTup h a y) : x = y := by
  obtain ⟨n, hn⟩ := p; obtain ⟨m, hm⟩ := q
  cases hn.symm.trans hm; rfl
theorem pyEqs_cons {f : V → V → Option Bool} {a c : V} {l1 l2 : List V} {t : Bool} (e : pyEqs f (a :: l1) (c :: l2) = some t) : ∃ x y, f a c = some x ∧ pyEqs f l1 l2 = some y ∧ (x && y) = t :=
  let ⟨x, h1, e⟩ := bind_some e; let ⟨y, h2, e⟩ := map_some e; ⟨x, y, h1, h2, e⟩
theorem pyEqs_same {h : Heap} {f : V → V → Option Bool} (hf : ∀ {v1 v2 : V} {c : Value} {t : Bool}, f v1 v2 = some t → RV h κ v1 c → RV h κ v2 c → t = true) (l1 : List V) : ∀ {l2 : List V} {r : List Value} {t : Bool}, pyEqs f l1 l2 = some t → RVs h κ l1 r → RVs h κ l2 r → t = true := by
  induction l1 with
  | nil => intro l2 r t e _ _; cases l2 with | nil => cases e; rfl | cons => exact none_ne e
  | cons a l1 ih =>
    intro l2 r t e r1 r2
    cases l2 with
    | nil => exact none_ne e
    | cons c l2 =>
      obtain ⟨x, y, h1, h2, rfl⟩ := pyEqs_cons e
      obtain ⟨cv, r, rfl, r1, r3⟩ := r1
      obtain ⟨cv', r', e', r2, r4⟩ := r2
      cases e'
      rw [hf h1 r1 r2, ih h2 r3 r4]; rfl

noncomputable def vEq : Value → Value → Bool
  | .none, .none => true
  | .bool a, .bool b => a == b
  | .int a _, .int b _ => a == b
  | .str a _, .str b _ => a == b
  | _, _ => false
structure Eqs (A : Around) (s : Shared) (c1 c2 : Value) (t : Bool) : Prop where
  eq : SeqAt.EqAt A s c1 c2 t
  rc : SeqAt.RcAt A s c1 c2 t
  ne : SeqAt.RcNeAt A s c1 c2 (!t)
theorem leaf_sound {v x : V} {t : Bool} {cv cx : Value} (h : leafEq v x = some t) (r : RV s.heap κ v cv) (rx : RV s.heap κ x cx) : vEq cv cx = t ∧ (∀ A, Eqs A s cv cx t) ∧ (cv = cx → t = true) := by
  cases v with
  | none => cases x with
    | none => cases h; cases r; cases rx; exact ⟨rfl, fun A => ⟨SeqAt.EqAt.same _, SeqAt.RcAt.none_none, SeqAt.RcNeAt.none_none⟩, fun _ => rfl⟩
    | _ => exact none_ne h
  | bool a => cases x with
    | bool c => cases h; cases r; cases rx; exact ⟨rfl, fun A => ⟨SeqAt.EqAt.bool_bool _ _, SeqAt.RcAt.bool_bool _ _, SeqAt.RcNeAt.bool_bool _ _⟩, fun e => by cases e; exact beq_self_eq_true _⟩
    | _ => exact none_ne h
  | int a => cases x with
    | int c => cases h; obtain ⟨u, rfl⟩ := r; obtain ⟨u', rfl⟩ := rx; exact ⟨rfl, fun A => ⟨SeqAt.EqAt.int_int _ u _ u', SeqAt.RcAt.int_int _ u _ u', SeqAt.RcNeAt.int_int _ u _ u'⟩, fun e => by cases e; exact decide_eq_true rfl⟩
    | _ => exact none_ne h
  | str a => cases x with
    | str c =>
      cases h; obtain ⟨u, rfl⟩ := r; obtain ⟨u', rfl⟩ := rx
      have : decide (a = c) = (S a == S c) := by
        by_cases q : a = c
        · rw [q, decide_eq_true rfl, beq_self_eq_true]
        · rw [decide_eq_false q, beq_false_of_ne fun z => q (S_inj z)]
      rw [this]
      exact ⟨rfl, fun A => ⟨SeqAt.EqAt.str_str _ u _ u', SeqAt.RcAt.str_str _ u _ u', SeqAt.RcNeAt.str_str _ u _ u'⟩, fun e => beq_iff_eq.mpr (Value.str.inj e).1⟩
    | _ => exact none_ne h
  | _ => exact none_ne h

theorem pyEq_cases {n : Nat} {v1 v2 : V} {t : Bool} (e : pyEq O (n + 1) v1 v2 = some t) : leafEq v1 v2 = some t ∨ (∃ x y, v1 = .tup x ∧ v2 = .tup y ∧ pyEqs (pyEq O n) x y = some t) ∨
    ∃ x y, itemsOf O v1 = some x ∧ itemsOf O v2 = some y ∧ (x.length = y.length ∧ pyEqs (pyEq O n) x y = some t ∨ x.length ≠ y.length ∧ t = false) := by
  have ls : ∀ {l}, itemsOf O v1 = some l → eqL O (pyEq O n) l v2 = some t → ∃ x y, itemsOf O v1 = some x ∧ itemsOf O v2 = some y ∧ (x.length = y.length ∧ pyEqs (pyEq O n) x y = some t ∨ x.length ≠ y.length ∧ t = false) := fun {l} h1 e => by
    obtain ⟨r, h2, e⟩ := bind_some e
    refine ⟨l, r, h1, h2, ?_⟩
    by_cases hl : (l.length == r.length) = true
    · rw [if_pos hl] at e; exact .inl ⟨beq_iff_eq.mp hl, e⟩
    · rw [if_neg hl] at e; cases e; exact .inr ⟨fun q => hl (beq_iff_eq.mpr q), rfl⟩
  cases v1 with
  | tup x =>
    cases v2 with
    | tup y => obtain ⟨_, e⟩ := ite_some e; exact .inr (.inl ⟨x, y, rfl, rfl, e⟩)
    | _ => exact none_ne e
  | lst l => exact .inr (.inr (ls rfl e))
  | ref k => obtain ⟨l, h1, e⟩ := bind_some e; exact .inr (.inr (ls h1 e))
  | _ => exact .inl e
theorem pyEq_same (R : RelW w κ Fs O s.heap) (n : Nat) : ∀ {v1 v2 : V} {c : Value} {t : Bool}, pyEq O n v1 v2 = some t → RV s.heap κ v1 c → RV s.heap κ v2 c → t = true := by
  induction n with
  | zero => intro v1 v2 c t e; exact none_ne e
  | succ n ih =>
    intro v1 v2 c t e r1 r2
    rcases pyEq_cases e with e | ⟨x, y, rfl, rfl, e1⟩ | ⟨x, y, h1, h2, e⟩
    · exact (leaf_sound e r1 r2).2.2 rfl
    · obtain ⟨a, vals, rfl, ht, _, rs⟩ := r1
      obtain ⟨a', vals', e', ht', _, rs'⟩ := r2
      cases e'
      exact pyEqs_same ih _ e1 rs (ptup_same ht ht' ▸ rs')
    · obtain ⟨a, vals, rfl, hp, rs⟩ := items_of R h1 r1
      obtain ⟨a', vals', e', hp', rs'⟩ := items_of R h2 r2
      cases e'
      rcases e with ⟨hl, e⟩ | ⟨hl, _⟩
      · exact pyEqs_same ih _ e rs (plain_same hp hp' ▸ rs')
      · exact absurd ((RVs_size rs).trans ((plain_same hp hp' ▸ RVs_size rs').symm)) hl
theorem pyEqs_all {h : Heap} {f : V → V → Option Bool} {K : Value → Value → Bool → Prop} (hf : ∀ {v1 v2 : V} {c1 c2 : Value} {t : Bool}, f v1 v2 = some t → RV h κ v1 c1 → RV h κ v2 c2 → K c1 c2 t) (l1 : List V) :
    ∀ {l2 : List V} {r1 r2 : List Value} {t : Bool}, pyEqs f l1 l2 = some t → RVs h κ l1 r1 → RVs h κ l2 r2 → ∃ ts : List Bool, ts.length = r1.length ∧ r1.length = r2.length ∧ ts.all id = t ∧ ∀ (j : Nat) c1 c2, r1[j]? = some c1 → r2[j]? = some c2 → K c1 c2 (ts.getD j true) := by
  induction l1 with
  | nil => intro l2 r1 r2 t e q1 q2; cases l2 with
    | nil => cases e; cases q1; cases q2; exact ⟨[], rfl, rfl, rfl, fun j c1 c2 q => nomatch q⟩
    | cons => exact none_ne e
  | cons a l1 ih =>
    intro l2 r1 r2 t e q1 q2
    cases l2 with
    | nil => exact none_ne e
    | cons c l2 =>
      obtain ⟨x, y, h1, h2, rfl⟩ := pyEqs_cons e
      obtain ⟨cv, r, rfl, q1, q3⟩ := q1
      obtain ⟨cv', r', rfl, q2, q4⟩ := q2
      obtain ⟨ts, k1, k2, k3, k4⟩ := ih h2 q3 q4
      refine ⟨x :: ts, congrArg (· + 1) k1, congrArg (· + 1) k2, congrArg (x && ·) k3, fun j c1 c2 e1 e2 => ?_⟩
      cases j with
      | zero => cases e1; cases e2; exact hf h1 q1 q2
      | succ j => exact k4 j c1 c2 e1 e2
theorem range_all {ts : List Bool} {n : Nat} (h : ts.length = n) : (List.range n).all (fun j => ts.getD j true) = ts.all id := by
  subst h
  induction ts with
  | nil => rfl
  | cons x ts ih =>
    rw [List.length_cons, List.range_succ_eq_map, List.all_cons, List.all_map, List.all_cons, ← ih]; rfl
theorem pyEq_sound (R : RelW w κ Fs O s.heap) (n : Nat) : ∀ {A : Around} {v1 v2 : V} {c1 c2 : Value} {t : Bool}, pyEq O n v1 v2 = some t → A.units + n < 9900 → RV s.heap κ v1 c1 → RV s.heap κ v2 c2 → Eqs A s c1 c2 t := by
  induction n with
  | zero => intro A v1 v2 c1 c2 t e; exact none_ne e
  | succ n ih =>
    intro A v1 v2 c1 c2 t e hu r1 r2
    have hcl : A.units < cLine := Nat.lt_of_le_of_lt (Nat.le_add_right _ _) hu
    have hin : A.in1.units + n < 9900 := by show A.units + 1 + n < 9900; omega
    have same := fun c => pyEq_same R (n + 1) (c := c) e
    -- items, one by one
    have els : ∀ {x y : List V} {vals vals' : Array Value}, pyEqs (pyEq O n) x y = some t → RVs s.heap κ x vals.toList → RVs s.heap κ y vals'.toList → vals.size = vals'.size ∧ ∃ f : Nat → Bool, (List.range vals.size).all f = t ∧ ∀ j (h1 : j < vals.size) (h2 : j < vals'.size), SeqAt.EqAt A.in1 s vals[j] vals'[j] (f j) := fun e rs rs' => by
      obtain ⟨ts, k1, k2, k3, k4⟩ := pyEqs_all (K := fun c1 c2 t => SeqAt.EqAt A.in1 s c1 c2 t) (fun e q1 q2 => (ih e hin q1 q2).eq) _ e rs rs'
      exact ⟨k2, fun j => ts.getD j true, (range_all k1).trans k3, fun j h1 h2 => k4 j _ _ (by rw [Array.getElem?_toList]; exact Array.getElem?_eq_getElem h1) (by rw [Array.getElem?_toList]; exact Array.getElem?_eq_getElem h2)⟩
    have refs : ∀ {a a' : Addr}, c1 = .ref a → c2 = .ref a' → SeqAt.RcAt A s c1 c2 t → SeqAt.RcNeAt A s c1 c2 (!t) → Eqs A s c1 c2 t := fun {a a'} e1 e2 rc ne => by
      refine ⟨?_, rc, ne⟩
      by_cases haa : a = a'
      · cases haa; cases e1; cases e2
        rw [same _ r1 r2]; exact SeqAt.EqAt.same _
      · cases e1; cases e2; exact SeqAt.EqAt.of_refs haa rc
    rcases pyEq_cases e with e | ⟨x, y, rfl, rfl, e1⟩ | ⟨x, y, h1, h2, e⟩
    · exact (leaf_sound e r1 r2).2.1 A
    · obtain ⟨a, vals, rfl, ht, _, rs⟩ := id r1
      obtain ⟨a', vals', rfl, ht', _, rs'⟩ := id r2
      obtain ⟨hs, f, hall, he⟩ := els e1 rs rs'
      have hall : ((List.range (min vals.size vals'.size)).all f && vals.size == vals'.size) = t := by rw [← hs, Nat.min_self, hall, beq_self_eq_true, Bool.and_true]
      exact refs rfl rfl (hall ▸ SeqAt.RcAt.tuples ht.isTuple ht'.isTuple hcl he) (hall ▸ SeqAt.RcNeAt.tuples ht.isTuple ht'.isTuple hcl he)
    · obtain ⟨a, vals, rfl, hp, rs⟩ := items_of R h1 r1
      obtain ⟨a', vals', rfl, hp', rs'⟩ := items_of R h2 r2
      rcases e with ⟨hl, e⟩ | ⟨hl, rfl⟩
      · obtain ⟨hs, f, hall, he⟩ := els e rs rs'
        exact refs rfl rfl (hall ▸ SeqAt.RcAt.lists hp.isList hp'.isList hs hcl he) (hall ▸ SeqAt.RcNeAt.lists hp.isList hp'.isList hs hcl he)
      · have hs : (vals.size != vals'.size) = true := bne_iff_ne.mpr fun q => hl ((RVs_size rs).trans (q.trans (RVs_size rs').symm))
        exact refs rfl rfl (SeqAt.RcAt.lists_lengths hp.isList hp'.isList hs hcl) (SeqAt.RcNeAt.lists_lengths hp.isList hp'.isList hs hcl)

theorem any_sound {x : V} {cx : Value} (rx : RV s.heap κ x cx) (l : List V) : ∀ {r : List Value} {t : Bool}, anyEq l x = some t → RVs s.heap κ l r → (r.any fun y => vEq y cx) = t ∧ ∀ y ∈ r, SeqAt.EqAt A s y cx (vEq y cx) := by
  induction l with
  | nil => intro r t h e; cases h; cases e; exact ⟨rfl, fun _ h => nomatch h⟩
  | cons v l ih =>
    intro r t h e
    obtain ⟨cv, r, rfl, r1, r2⟩ := e
    obtain ⟨a, h1, h⟩ := bind_some h
    obtain ⟨c, h2, h⟩ := map_some h
    cases h
    obtain ⟨e1, e2, _⟩ := leaf_sound h1 r1 rx
    obtain ⟨k1, k2⟩ := ih h2 r2
    refine ⟨by rw [List.any_cons, e1, k1], fun y hy => (List.mem_cons.mp hy).elim (fun e => ?_) (k2 y)⟩
    rw [e, e1]; exact (e2 A).eq
noncomputable def SetsOk (w : World) : Prop := ∀ a l, GG.sets.lookup a = some l → ∃ n, (HW w).SetOf (intKind PG w) a (fun i => l.contains i) n
theorem in_sound (T : SetsOk w) {x c : V} {t : Bool} {cx cc : Value} (h : inV GG O x c = some t) (R : RelW w κ Fs O s.heap) (rx : RV s.heap κ x cx) (rc : RV s.heap κ c cc) {Q1 Q2 : V → Objs → Prop} :
    (Q1 (.bool t) O → wpAny (MW w) A (compareOp .In cx cc) (End w b κ Fs O s RV Q1) E s) ∧ (Q2 (.bool (!t)) O → wpAny (MW w) A (compareOp .NotIn cx cc) (End w b κ Fs O s RV Q2) E s) := by
  have arr : ∀ {l : List V} {vals : Array Value}, anyEq l x = some t → RVs s.heap κ l vals.toList → vals.any (fun y => vEq y cx) = t ∧ ∀ y, y ∈ vals → SeqAt.EqAt A.in1 s y cx (vEq y cx) := fun h rs =>
    let ⟨k1, k2⟩ := any_sound (A := A.in1) rx _ h rs
    ⟨by rw [← k1, ← Array.any_toList], fun y hy => k2 y (Array.mem_toList_iff.mpr hy)⟩
  have lists : ∀ {l : List V} {a : Addr} {vals : Array Value}, anyEq l x = some t → s.heap.PlainList a vals → RVs s.heap κ l vals.toList →
      (Q1 (.bool t) O → wpAny (MW w) A (compareOp .In cx (.ref a)) (End w b κ Fs O s RV Q1) E s) ∧ (Q2 (.bool (!t)) O → wpAny (MW w) A (compareOp .NotIn cx (.ref a)) (End w b κ Fs O s RV Q2) E s) := fun h hp rs =>
    let ⟨e, he⟩ := arr h rs
    ⟨fun q => SeqAt.in_listAt _ hp.isList he (End.here R q (congrArg Value.bool e)), fun q => SeqAt.notIn_listAt _ hp.isList he (End.here R q (congrArg (fun t => Value.bool (!t)) e))⟩
  cases c with
  | str l =>
    cases x with
    | str y =>
      cases h
      obtain ⟨u, rfl⟩ := rx
      obtain ⟨u', rfl⟩ := rc
      exact ⟨fun q => P.in_str (End.here R q (by rw [S_length]; rfl)), fun q => P.notIn_str (End.here R q (by rw [S_length]; rfl))⟩
    | _ => exact none_ne h
  | lst l => obtain ⟨a, vals, rfl, hp, _, rs⟩ := rc; exact lists h hp rs
  | tup l =>
    obtain ⟨a, vals, rfl, hp, _, rs⟩ := rc
    obtain ⟨e, he⟩ := arr h rs
    exact ⟨fun q => SeqAt.in_tupleAt _ hp.isTuple he (End.here R q (congrArg Value.bool e)), fun q => SeqAt.notIn_tupleAt _ hp.isTuple he (End.here R q (congrArg (fun t => Value.bool (!t)) e))⟩
  | ref m => obtain ⟨l, h1, h⟩ := bind_some h; obtain ⟨a, vals, rfl, _, hp, rs⟩ := R.list h1 rc; exact lists h hp rs
  | cst d =>
    cases d with
    | ref a =>
      cases rc
      obtain ⟨l, hl, h⟩ := bind_some h
      cases x with
      | int i =>
        obtain ⟨_, h⟩ := ite_some h
        cases h
        obtain ⟨u, rfl⟩ := rx
        obtain ⟨n, o, es, ep, t, ho, r⟩ := T a l hl
        have hS : s.heap.SetOf (intKind PG w) a (fun i => l.contains i) n := ⟨o, es, ep, t, R.base _ _ ho, r⟩
        exact ⟨fun q => wpAny_inSet_of (k := i) (decide_eq_true rfl) rfl hS (End.tok R q rfl), fun q => wpAny_notInSet_of (k := i) (decide_eq_true rfl) rfl hS (End.tok R q rfl)⟩
      | _ => exact none_ne h
    | _ => exact none_ne h
  | _ => exact none_ne h
theorem is_sound {x y : V} {t : Bool} {cx cy : Value} (h : isV x y = some t) (R : RelW w κ Fs O s.heap) (rx : RV s.heap κ x cx) (ry : RV s.heap κ y cy) {Q1 Q2 : V → Objs → Prop} :
    (Q1 (.bool t) O → wpAny (MW w) A (compareOp .Is cx cy) (End w b κ Fs O s RV Q1) E s) ∧ (Q2 (.bool (!t)) O → wpAny (MW w) A (compareOp .IsNot cx cy) (End w b κ Fs O s RV Q2) E s) := by
  have ne : cx ≠ .none → cy = .none → t = false → (Q1 (.bool t) O → wpAny (MW w) A (compareOp .Is cx cy) (End w b κ Fs O s RV Q1) E s) ∧ (Q2 (.bool (!t)) O → wpAny (MW w) A (compareOp .IsNot cx cy) (End w b κ Fs O s RV Q2) E s) := fun n e e' => by
    subst e e'
    exact ⟨fun q => is_none_ne n (End.here R q rfl), fun q => isnot_none_ne n (End.here R q rfl)⟩
  cases y with
  | none =>
    cases ry
    cases x with
    | none => cases h; cases rx; exact ⟨fun q => is_none_none (End.here R q rfl), fun q => isnot_none_none (End.here R q rfl)⟩
    | bool c => cases rx; exact ne nofun rfl (Option.some.inj h).symm
    | int i => obtain ⟨u, rfl⟩ := rx; exact ne nofun rfl (Option.some.inj h).symm
    | str l => obtain ⟨u, rfl⟩ := rx; exact ne nofun rfl (Option.some.inj h).symm
    | tup l => obtain ⟨a, vals, rfl, _⟩ := rx; exact ne nofun rfl (Option.some.inj h).symm
    | lst l => obtain ⟨a, vals, rfl, _⟩ := rx; exact ne nofun rfl (Option.some.inj h).symm
    | ref k => obtain ⟨a, rfl, _⟩ := rx; exact ne nofun rfl (Option.some.inj h).symm
    | lam _ _ _ => obtain ⟨a, o, fd, rfl, _⟩ := rx; exact ne nofun rfl (Option.some.inj h).symm
    | _ => exact none_ne h
  | bool d =>
    cases ry
    cases x with
    | bool c => cases h; cases rx; exact ⟨fun q => is_bool (End.here R q rfl), fun q => isnot_bool (End.here R q rfl)⟩
    | none => cases h; cases rx; exact ⟨fun q => wpAny_is_other rfl nofun (End.here R q rfl), fun q => wpAny_isNot_other rfl nofun (End.here R q rfl)⟩
    | _ => exact none_ne h
  | _ => exact none_ne h
theorem int2b_is {x y : V} {f : Int → Int → Bool} {t : Bool} (h : int2b x y f = some t) : ∃ i j, x = .int i ∧ y = .int j ∧ t = f i j := by
  cases x with
  | int i => cases y with
    | int j => cases h; exact ⟨i, j, rfl, rfl, rfl⟩
    | _ => exact none_ne h
  | _ => exact none_ne h
theorem cmp_sound (T : SetsOk w) {op : CmpOp} {x y : V} {t : Bool} {cx cy : Value} (h : cmpV GG O op x y = some t) (ok : Ok A 1) (R : RelW w κ Fs O s.heap) (rx : RV s.heap κ x cx) (ry : RV s.heap κ y cy) (q : Q (.bool t) O) : wpAny (MW w) A (compareOp op cx cy) (End w b κ Fs O s RV Q) E s := by
  have hu : A.units + 9 < 9900 := Nat.lt_of_le_of_lt (Nat.le_trans (Nat.add_le_add_left (by decide) _) ok.uni) (by decide)
  have hi : ∀ f, int2b x y f = some t → (∀ {i j u u'}, t = f i j → cx = .int i u → cy = .int j u' → wpAny (MW w) A (compareOp op cx cy) (End w b κ Fs O s RV Q) E s) → wpAny (MW w) A (compareOp op cx cy) (End w b κ Fs O s RV Q) E s := fun f h k => by
    obtain ⟨i, j, rfl, rfl, e⟩ := int2b_is h
    obtain ⟨u, ex⟩ := rx
    obtain ⟨u', ey⟩ := ry
    exact k e ex ey
  cases op with
  | Eq => exact (pyEq_sound R 9 h hu rx ry).rc PG w E _ (End.here R q rfl)
  | NotEq => obtain ⟨u, h1, rfl⟩ := map_some h; exact (pyEq_sound R 9 h1 hu rx ry).ne PG w E _ (End.here R q rfl)
  | Is => exact (is_sound (Q2 := Q) h R rx ry).1 q
  | IsNot => obtain ⟨u, h1, rfl⟩ := map_some h; exact (is_sound (Q1 := Q) h1 R rx ry).2 q
  | In => exact (in_sound T (Q2 := Q) h R rx ry).1 q
  | NotIn => obtain ⟨u, h1, rfl⟩ := map_some h; exact (in_sound T (Q1 := Q) h1 R rx ry).2 q
  | Lt => exact hi _ h fun e e1 e2 => e1 ▸ e2 ▸ P.lt_int (End.here R q (e ▸ rfl))
  | LtE => exact hi _ h fun e e1 e2 => e1 ▸ e2 ▸ P.le_int (End.here R q (e ▸ rfl))
  | Gt => exact hi _ h fun e e1 e2 => e1 ▸ e2 ▸ P.gt_int (End.here R q (e ▸ rfl))
  | GtE => exact hi _ h fun e e1 e2 => e1 ▸ e2 ▸ P.ge_int (End.here R q (e ▸ rfl))
end
set_option backward.match.sparseCases true

theorem kOk_lt {k : Int} (h : kOk k = true) : -(2 ^ 60) < k ∧ k < 2 ^ 60 := by
  have h := of_decide_eq_true h
  omega
theorem nat_idx {k : Int} {n j : Nat} (h : seqIndex? k n = some j) : (0 ≤ k ∧ k.toNat = j ∧ j < n) ∨ (k < 0 ∧ -(n : Int) ≤ k ∧ (k + n).toNat = j ∧ j < n) := by
  unfold seqIndex? at h
  by_cases hk : k < 0
  · simp only [hk, if_true] at h
    split at h
    · rename_i hc
      obtain ⟨h1, h2⟩ := dec_and hc
      have h := Option.some.inj h
      exact .inr ⟨hk, by omega, h, by omega⟩
    · exact none_ne h
  · simp only [hk, if_false] at h
    split at h
    · rename_i hc
      obtain ⟨h1, h2⟩ := dec_and hc
      have h := Option.some.inj h
      exact .inl ⟨by omega, h, by omega⟩
    · exact none_ne h
section
variable {w : World} {A : Around} {b : Nat} {κ : Pl} {Fs : List Fr} {O : Objs} {s : Shared} {E : Value → Shared → Prop} {Q : V → Objs → Prop}
theorem atV_is {l : List V} {k : Int} {v : V} (h : atV l k = some v) : (-(2 ^ 60) < k ∧ k < 2 ^ 60) ∧ ∃ j, seqIndex? k l.length = some j ∧ l[j]? = some v :=
  let ⟨hk, h⟩ := ite_some h; ⟨kOk_lt hk, bind_some h⟩
theorem list_idx {l : List V} {a : Addr} {vals : Array Value} {k : Int} {u : Tok} {v : V} (h : atV l k = some v) (R : RelW w κ Fs O s.heap) (hp : s.heap.PlainList a vals) (rs : RVs s.heap κ l vals.toList) (q : Q v O) : wpAny (MW w) A (getItem (.ref a) (.int k u)) (End w b κ Fs O s RV Q) E s := by
  obtain ⟨hb, j, h1, h2⟩ := atV_is h
  obtain ⟨cv, hc, rc⟩ := RVs_get rs h2
  rw [Array.getElem?_toList] at hc
  rw [RVs_size rs] at h1
  rcases nat_idx h1 with ⟨q1, q2, q3⟩ | ⟨q1, q2, q3, q4⟩
  · exact wpAny_getItem_list hp.isList q1 (by omega) (q2 ▸ hc) (End.here R q rc)
  · exact wpAny_getItem_list_neg hp.isList q1 (by omega) (by omega) (q3 ▸ hc) (End.here R q rc)
theorem idx_sound {x y v : V} {cx cy : Value} (h : indexV O x y = some v) (R : RelW w κ Fs O s.heap) (rx : RV s.heap κ x cx) (ry : RV s.heap κ y cy) (q : Q v O) : wpAny (MW w) A (getItem cx cy) (End w b κ Fs O s RV Q) E s := by
  cases y with
  | int k =>
    obtain ⟨u, rfl⟩ := ry
    cases x with
    | tup l =>
      obtain ⟨hb, j, h1, h2⟩ := atV_is h
      obtain ⟨a, vals, rfl, ⟨n, hp⟩, _, rs⟩ := rx
      obtain ⟨cv, hc, rc⟩ := RVs_get rs h2
      exact P.getItem_tuple hp (by omega) (by omega) (RVs_size rs ▸ h1) (Array.getElem?_toList ▸ hc) (End.here R q rc)
    | str l =>
      obtain ⟨hk, h⟩ := ite_some h
      obtain ⟨j, h1, h⟩ := bind_some h
      obtain ⟨c, hc, h⟩ := map_some h
      cases h
      have hb := kOk_lt hk
      obtain ⟨t, rfl⟩ := rx
      refine P.getItem_str (c := c) (by rw [decide_eq_false (by omega), decide_eq_false (by omega)]; rfl) ?_ (End.tok R q ⟨_, rfl⟩)
      rw [S_length, h1]
      exact Array.getElem?_toList.symm.trans hc
    | lst l => obtain ⟨a, vals, rfl, hp, _, rs⟩ := rx; exact list_idx h R hp rs q
    | ref m => obtain ⟨l, h1, h⟩ := bind_some h; obtain ⟨a, vals, rfl, _, hp, rs⟩ := R.list h1 rx; exact list_idx h R hp rs q
    | _ => exact none_ne h
  | _ => exact none_ne h
theorem RVs_picked {h : Heap} {l : List V} {r : List Value} (rs : RVs h κ l r) (is : List Nat) : RVs h κ (picked l is) (is.filterMap fun i => r[i]?) := by
  induction is with
  | nil => exact rfl
  | cons i is ih =>
    rw [picked, List.filterMap_cons, List.filterMap_cons]
    cases hl : l[i]? with
    | none => rw [List.getElem?_eq_none (RVs_length rs ▸ List.getElem?_eq_none_iff.mp hl)]; exact ih
    | some v =>
      obtain ⟨cv, hc, rc⟩ := RVs_get rs hl
      rw [hc]; exact ⟨cv, _, rfl, rc, ih⟩
theorem optInt_part {v : V} {o : Option Int} {cv : Value} (h : optInt v = some o) (r : RV s.heap κ v cv) : IsPart cv o ∧ ∃ p : Option (Int × Tok), cv = partValue p ∧ p.map (·.1) = o := by
  cases v with
  | none => cases h; cases r; exact ⟨.none, none, rfl, rfl⟩
  | int i => cases h; obtain ⟨t, rfl⟩ := r; exact ⟨.int _ _, some (_, t), rfl, rfl⟩
  | _ => exact none_ne h
theorem sliceIdx_some {lo hi st : Option Int} {n : Nat} {is : List Nat} (h : sliceIdx lo hi st n = some is) : st ≠ some 0 ∧ is = sliceRange (sliceBounds lo hi st n).1 (sliceBounds lo hi st n).2.1 (sliceBounds lo hi st n).2.2 ∧ is = Builtin.Str.strSliceIndices lo hi (st.getD 1) n := by
  by_cases hs : (st.getD 1 == 0) = true
  · rw [sliceIdx, if_pos hs] at h; exact none_ne h
  · rw [sliceIdx, if_neg hs] at h
    cases h
    exact ⟨fun q => hs (by rw [q]; rfl), rfl, rfl⟩
theorem strSlice_nat (lo hi : Option Int) (n : Nat) : ∃ a b : Nat, a ≤ n ∧ b ≤ n ∧ Builtin.Str.strSliceIndices lo hi 1 n = (List.range (b - a)).map (a + ·) := by
  have clip : ∀ v : Option Int, ∀ d : Nat, d ≤ n → ∃ a : Nat, a ≤ n ∧ clipV n 1 v d = (a : Int) := fun v d hd => by
    cases v with
    | none => exact ⟨d, hd, rfl⟩
    | some i =>
      show ∃ a : Nat, a ≤ n ∧ max 0 (min (if i < 0 then i + n else i) n) = (a : Int)
      exact ⟨_, by omega, (Int.toNat_of_nonneg (by omega)).symm⟩
  obtain ⟨a, ha, ea⟩ := clip lo 0 (Nat.zero_le _)
  obtain ⟨b, hb, eb⟩ := clip hi n (Nat.le_refl _)
  refine ⟨a, b, ha, hb, ?_⟩
  rw [← sliceRange_one a b, ← ea, ← eb]
  rfl
theorem pick_take (l : List Nat) (m : Nat) : ((List.range m).map (0 + ·)).filterMap (fun i => l[i]?) = l.take m := by
  induction m with
  | zero => rfl
  | succ m ih =>
    rw [List.range_succ, List.map_append, List.filterMap_append, ih, List.take_add_one, List.map_cons, List.map_nil, List.filterMap_cons, Nat.zero_add]
    cases l[m]? <;> rfl
theorem whole_pick {lo hi : Option Int} {l : List Nat} (h : (Builtin.Str.strSliceIndices lo hi 1 l.length).length = l.length) : picked l (Builtin.Str.strSliceIndices lo hi 1 l.length) = l := by
  obtain ⟨a, b, ha, hb, e⟩ := strSlice_nat lo hi l.length
  rw [e] at h ⊢
  rw [List.length_map, List.length_range] at h
  cases l with
  | nil => rw [show b - a = 0 from h]; rfl
  | cons x r =>
    rw [List.length_cons] at h hb
    rw [show a = 0 by omega, show b = r.length + 1 by omega]
    exact (pick_take _ _).trans (List.take_length (l := x :: r))
theorem list_slice {l : List V} {c a : Addr} {vals : Array Value} {lo hi st : Option Int} {v : V} {cl ch cs : Value} (hl : lenOk l.length = true) (h : ((sliceIdx lo hi st l.length).map fun is => V.lst (picked l is)) = some v) (R : RelW w κ Fs O s.heap) (hp : s.heap.PlainList c vals) (rs : RVs s.heap κ l vals.toList) (p1 : IsPart cl lo) (p2 : IsPart ch hi) (p3 : IsPart cs st)
    (ha : s.heap.get? a = some { cls := .type "slice", data := .fields #[cl, ch, cs] }) (q : Q v O) : wpAny (MW w) A (getItem (.ref c) (.ref a)) (End w b κ Fs O s RV Q) E s := by
  obtain ⟨is, h4, h⟩ := map_some h
  cases h
  rw [RVs_size rs] at h4 hl
  obtain ⟨k1, k2, _⟩ := sliceIdx_some h4
  refine wpAny_getItem_list_slice hp.isList ⟨_, ha, rfl, rfl⟩ p1 p2 p3 k1 ?_ (Nat.le_trans (lenOk_le hl) (by decide))
  have := new_lst (b := b) (s := s) R q (RVs_picked rs is)
  have e : (is.filterMap fun i => vals.toList[i]?).toArray = slicePick vals lo hi st := by
    rw [show (fun i => vals.toList[i]?) = (vals[·]?) from funext fun i => Array.getElem?_toList, k2]; rfl
  rw [e] at this
  exact this
theorem slice_sound {x lo hi st v : V} {cx cl ch cs : Value} {a : Addr} (h : sliceV O x lo hi st = some v) (R : RelW w κ Fs O s.heap) (rx : RV s.heap κ x cx) (rl : RV s.heap κ lo cl) (rh : RV s.heap κ hi ch) (rst : RV s.heap κ st cs)
    (ha : s.heap.get? a = some { cls := .type "slice", data := .fields #[cl, ch, cs] }) (q : Q v O) : wpAny (MW w) A (getItem cx (.ref a)) (End w b κ Fs O s RV Q) E s := by
  obtain ⟨lo', h1, h⟩ := bind_some h
  obtain ⟨hi', h2, h⟩ := bind_some h
  obtain ⟨st', h3, h⟩ := bind_some h
  obtain ⟨p1, q1, e1, f1⟩ := optInt_part h1 rl
  obtain ⟨p2, q2, e2, f2⟩ := optInt_part h2 rh
  obtain ⟨p3, q3, e3, f3⟩ := optInt_part h3 rst
  cases x with
  | str l =>
    obtain ⟨hc, h⟩ := ite_some h
    obtain ⟨is, h4, h⟩ := map_some h
    cases h
    obtain ⟨hc1, hst⟩ := and_bool hc
    cases Option.isNone_iff_eq_none.mp hst
    obtain ⟨t, rfl⟩ := rx
    obtain ⟨k1, k2, k3⟩ := sliceIdx_some h4
    cases q3 with
    | some p => cases f3
    | none =>
      refine wpAny_getItem_str_slice (l := q1) (u := q2) (st := none) ⟨_, ha, rfl, by rw [e1, e2, e3]⟩ rfl ?_
      unfold sliceMade
      have hpk : slicePicked (S l) q1 q2 none = is := by
        unfold slicePicked
        rw [f1, f2, S_length]; exact k3.symm
      rw [hpk, S_length]
      split
      · rename_i hw
        have hw := beq_iff_eq.mp (and_bool hw).2
        have e : picked l is = l := by
          rw [k3] at hw ⊢
          exact whole_pick hw
        exact End.here R q (e.symm ▸ ⟨t, rfl⟩)
      · refine ⟨?_, End.tok R q ⟨s.toks, congrArg (Value.str · _) (str_ext (congrArg (List.filterMap · is) (funext fun i => Array.getElem?_toList.symm)))⟩⟩
        obtain ⟨a', b', ha', hb', e⟩ := strSlice_nat lo' hi' l.length
        refine Nat.le_trans (List.length_filterMap_le _ is) (Nat.le_trans (m := l.length) ?_ (Nat.le_trans (lenOk_le hc1) (by decide)))
        rw [show is = _ from k3.trans e, List.length_map, List.length_range]
        exact Nat.le_trans (Nat.sub_le _ _) hb'
  | lst l => obtain ⟨hl, h⟩ := ite_some h; obtain ⟨c, vals, rfl, hp, _, rs⟩ := rx; exact list_slice hl h R hp rs p1 p2 p3 ha q
  | ref m => obtain ⟨l, h0, h⟩ := bind_some h; obtain ⟨hl, h⟩ := ite_some h; obtain ⟨c, vals, rfl, _, hp, rs⟩ := R.list h0 rx; exact list_slice hl h R hp rs p1 p2 p3 ha q
  | _ => exact none_ne h

theorem RVs_erase {h : Heap} (l : List V) : ∀ {r : List Value} (j : Nat), RVs h κ l r → RVs h κ (l.eraseIdx j) (r.eraseIdx j) := by
  induction l with
  | nil => intro r j e; cases e; exact rfl
  | cons v l ih =>
    intro r j e
    obtain ⟨cv, r, rfl, a, b⟩ := e
    cases j with
    | zero => exact b
    | succ j => exact ⟨cv, _, rfl, a, ih j b⟩
theorem belows_erase {b : Nat} (l : List V) : ∀ (j : Nat), belows b l = true → belows b (l.eraseIdx j) = true := by
  induction l with
  | nil => exact fun j h => rfl
  | cons v l ih =>
    intro j h
    cases j with
    | zero => exact (and_bool h).2
    | succ j => exact Bool.and_eq_true_iff.mpr ⟨(and_bool h).1, ih j (and_bool h).2⟩
theorem del_sound' {O1 : Objs} {v k : V} {cl ck : Value} {P : Unit → Shared → Prop} (h : delV O v k = some O1) (R : RelW w κ Fs O s.heap) (rl : RV s.heap κ v cl) (rk : RV s.heap κ k ck) (c : ∀ s1, GoW w b κ O s κ Fs O1 s1 → P () s1) : wpAny (MW w) A (delItem cl ck) P E s := by
  cases v with
  | ref m =>
    cases k with
    | int k =>
      obtain ⟨l, hl, h⟩ := bind_some h
      obtain ⟨hc, h⟩ := ite_some h
      obtain ⟨j, hj, h⟩ := map_some h
      cases h
      obtain ⟨hle, hk⟩ := and_bool hc
      obtain ⟨a, vals, rfl, hi, hp, rs⟩ := R.list hl rl
      obtain ⟨u, rfl⟩ := rk
      have hb := kOk_lt hk
      refine wpAny_delItem_plain hp (by simp [Builtin.List.listFitsIndex]; omega) (RVs_size rs ▸ hj) (fun h' hp' hs' => ?_) (RVs_size rs ▸ Nat.le_trans (lenOk_le hle) (by decide))
      obtain ⟨R', x', hh⟩ := R.setO (o' := .list (l.eraseIdx j)) (listAt_some hl) hi (fun b ob hn e => (hs'.2 b hn).trans e) (let ⟨n, hn⟩ := hp'; ⟨_, hn⟩) fun x => ⟨_, hp', by
        rw [Array.toList_eraseIdxIfInBounds]
        exact RVs_erase l j (RVs_mono x rs)⟩
      exact c _ ⟨R', x', rfl, ⟨rfl, rfl, rfl⟩, Mono.set_pure (listAt_some hl) fun m hu => belows_erase l j hu, hh⟩
    | _ => exact none_ne h
  | _ => exact none_ne h
end

theorem ofString_inj {a b : String} (h : (Str.ofString a == Str.ofString b) = true) : a = b := by
  have h := beq_iff_eq.mp h
  rw [Str.ofString_eq_toList, Str.ofString_eq_toList] at h
  have h2 : a.toList.map Char.toNat = b.toList.map Char.toNat := List.toArray_inj (congrArg Str.cps h)
  exact String.toList_inj.mp ((List.map_inj_right (fun x y (hxy : x.val.toNat = y.val.toNat) => Char.ext (UInt32.toNat_inj.mp hxy))).mp h2)
section
variable {w : World} {A : Around} {b : Nat} {κ : Pl} {Fs : List Fr} {O : Objs} {s : Shared} {E : Value → Shared → Prop} {Q : V → Objs → Prop}
theorem one_some {a : List V} {f : V → Option (V × Objs)} {r : V × Objs} {h : Heap} {ca : List Value} (e : one a f = some r) (ra : RVs h κ a ca) : ∃ v cv, f v = some r ∧ ca = [cv] ∧ RV h κ v cv ∧ a = [v] := by
  cases a with
  | nil => exact none_ne e
  | cons v l => cases l with
    | nil => obtain ⟨cv, r, rfl, r1, r2⟩ := ra; cases r2; exact ⟨v, cv, e, rfl, r1, rfl⟩
    | cons => exact none_ne e
theorem RVs_two {h : Heap} {v u : V} {ca : List Value} (r : RVs h κ [v, u] ca) : ∃ cv cu, ca = [cv, cu] ∧ RV h κ v cv ∧ RV h κ u cu := by
  obtain ⟨cv, r, rfl, a, cu, r', rfl, c, e⟩ := r
  cases e; exact ⟨cv, cu, rfl, a, c⟩
theorem asInt_some {v : V} {f : Int → Option (V × Objs)} {r : V × Objs} {h : Heap} {cv : Value} (e : asInt v f = some r) (rv : RV h κ v cv) : ∃ i t, f i = some r ∧ cv = .int i t := by
  cases v with
  | int i => obtain ⟨t, rfl⟩ := rv; exact ⟨i, t, e, rfl⟩
  | _ => exact none_ne e
theorem asStr_some {v : V} {f : List Nat → Option (V × Objs)} {r : V × Objs} {h : Heap} {cv : Value} (e : asStr v f = some r) (rv : RV h κ v cv) : ∃ l t, f l = some r ∧ cv = .str (S l) t := by
  cases v with
  | str l => obtain ⟨t, rfl⟩ := rv; exact ⟨l, t, e, rfl⟩
  | _ => exact none_ne e
theorem len_sound {v r : V} {cv : Value} (h : lenV O v = some r) (R : RelW w κ Fs O s.heap) (rv : RV s.heap κ v cv) (q : Q r O) : wpAny (MW w) A (call (.builtin "len") [cv] []) (End w b κ Fs O s RV Q) E s := by
  have lst : ∀ {l : List V} {a : Addr} {vals : Array Value}, (if lenOk l.length then some (V.int l.length) else none) = some r → s.heap.PlainList a vals → RVs s.heap κ l vals.toList → wpAny (MW w) A (call (.builtin "len") [.ref a] []) (End w b κ Fs O s RV Q) E s := fun h hp rs => by
    obtain ⟨hl, h⟩ := ite_some h
    rw [RVs_size rs] at h hl
    cases h
    exact Calls.call_len_list hp.isList (small63 (lenOk_le hl)) (End.tok R q ⟨_, rfl⟩)
  cases v with
  | str l =>
    obtain ⟨hl, h⟩ := ite_some h
    obtain ⟨t, rfl⟩ := rv
    rw [← S_length] at hl h
    cases h
    exact P.len_str (Int.not_le.mpr (small63 (lenOk_le hl))) (End.tok R q ⟨_, rfl⟩)
  | tup l =>
    obtain ⟨hl, h⟩ := ite_some h
    obtain ⟨a, vals, rfl, ht, _, rs⟩ := rv
    rw [RVs_size rs] at h hl
    cases h
    exact len_tuple ht.isTup (small63 (lenOk_le hl)) (End.tok R q ⟨_, rfl⟩)
  | lst l => obtain ⟨a, vals, rfl, hp, _, rs⟩ := rv; exact lst h hp rs
  | ref m => obtain ⟨l, h1, h⟩ := bind_some h; obtain ⟨a, vals, rfl, _, hp, rs⟩ := R.list h1 rv; exact lst h hp rs
  | _ => exact none_ne h
theorem rng_made {x y z : Int} {t1 t2 t3 u : Tok} (R : RelW w κ Fs O s.heap) (q : Q (.rng x y z) O) : End w b κ Fs O s RV Q (.ref s.heap.objs.size) { s with heap := s.heap.push { cls := .type "range", data := .fields #[.int x t1, .int y t2, .int z t3] }, toks := u } :=
  .mk q (Go.grow R (push_keeps _ _) ⟨rfl, rfl, rfl⟩) ⟨_, t1, t2, t3, rfl, R.size_off, Heap.get?_push_size _ rfl⟩
theorem chr_sound {i : Int} {t : Tok} {r : V × Objs} (h : (if 0 ≤ i && (i.toNat < 55000 || Nat.ble 60000 i.toNat && i.toNat < 1000000) then some (V.str [i.toNat], O) else none) = some r) (R : RelW w κ Fs O s.heap) (q : Q r.1 r.2) :
    wpAny (MW w) A (call (.builtin "chr") [.int i t] []) (End w b κ Fs O s RV Q) E s := by
  obtain ⟨hc, h⟩ := ite_some h
  cases h
  obtain ⟨h1, h2⟩ := and_bool hc
  have h1 := of_decide_eq_true h1
  have h2 := (Bool.or_eq_true_iff.mp h2).imp of_decide_eq_true fun h => And.intro (Nat.le_of_ble_eq_true (and_bool h).1) (of_decide_eq_true (and_bool h).2)
  refine P.chr_of_int ?_ (End.tok R q ⟨_, rfl⟩)
  rw [Bool.or_eq_false_iff, decide_eq_false_iff_not, decide_eq_false_iff_not]
  omega
theorem hex_sound {i : Int} {t : Tok} {r : V × Objs} (h : (if 0 ≤ i && i.toNat < 2 ^ 64 then some (V.str (48 :: 120 :: (Nat.toDigits 16 i.toNat).map Char.toNat), O) else none) = some r) (R : RelW w κ Fs O s.heap) (q : Q r.1 r.2) :
    wpAny (MW w) A (call (.builtin "hex") [.int i t] []) (End w b κ Fs O s RV Q) E s := by
  obtain ⟨hc, h⟩ := ite_some h
  cases h
  obtain ⟨h1, h2⟩ := dec_and hc
  have e : baseText "0x" 16 i = S (48 :: 120 :: (Nat.toDigits 16 i.toNat).map Char.toNat) := by
    rw [baseText_nonneg h1]
    apply str_ext
    have e1 : Str.ofString "" = ⟨#[]⟩ := by decide +kernel
    have e2 : Str.ofString "0x" = ⟨#[48, 120]⟩ := by decide +kernel
    rw [e1, e2, Str.ofString_eq_toList, show i.natAbs = i.toNat by omega]
    show ((#[] : Array Nat) ++ #[48, 120] ++ ((String.ofList (Nat.toDigits 16 i.toNat)).toList.map Char.toNat).toArray).toList = _
    simp
  have hl : (Nat.toDigits 16 i.toNat).length ≤ 16 := StrLaws.toDigits_len (Nat.le_add_left _ _) (Nat.lt_of_lt_of_le h2 (by decide))
  refine P.hex_of_int (e ▸ End.tok R q ⟨_, rfl⟩) ?_
  rw [e, S_length]
  show (List.map Char.toNat _).length + 1 + 1 ≤ 16777216
  rw [List.length_map]
  omega
theorem abs_sound {i : Int} {t : Tok} {r : V × Objs} (h : (if intOk i then some (V.int i.natAbs, O) else none) = some r) (R : RelW w κ Fs O s.heap) (q : Q r.1 r.2) : wpAny (MW w) A (call (.builtin "abs") [.int i t] []) (End w b κ Fs O s RV Q) E s := by
  obtain ⟨hc, h⟩ := ite_some h
  cases h
  refine call_abs_int fun u tk => End.tok R q ⟨u, ?_⟩
  exact congrArg (Value.int · u) (by split <;> omega)


theorem grown_list {l : List V} {vals : Array Value} {h' : Heap} {tk c' : Nat} (R : RelW w κ Fs O s.heap) (q : Q (.ref O.length) (O ++ [.list l])) (k : ∀ b o, s.heap.get? b = some o → h'.get? b = some o)
    (hS : h'.get? s.heap.objs.size = some { cls := .type "list", dict := none, data := .seq vals c', slots := #[] }) (rs : ∀ κ', Ext s.heap κ h' κ' → RVs h' κ' l vals.toList) :
    End w b κ Fs O s RV Q (.ref s.heap.objs.size) { s with heap := h', toks := tk } := by
  exact new_obj' R q k ⟨_, hS⟩ fun κ' x => ⟨vals, ⟨c', hS⟩, rs κ' x⟩
theorem RVs_each {α : Type} {f : α → V} {K : α → Value → Prop} {h : Heap} (hf : ∀ {i v}, K i v → RV h κ (f i) v) (l : List α) : ∀ {r : List Value}, r.length = l.length → (∀ (j : Nat) v i, r[j]? = some v → l[j]? = some i → K i v) → RVs h κ (l.map f) r := by
  induction l with
  | nil => intro r e _; exact List.length_eq_zero_iff.mp e
  | cons i l ih =>
    intro r e k
    cases r with
    | nil => cases e
    | cons v r => exact ⟨v, r, rfl, hf (k 0 v i rfl rfl), ih (Nat.succ.inj e) fun j v' i' e1 e2 => k (j + 1) v' i' e1 e2⟩
theorem list_sound' {v : V} {l : List V} {cv : Value} (hh : A.handled = none) (h : allItems O v = some l) (hle : lenOk l.length = true) (R : RelW w κ Fs O s.heap) (r : RV s.heap κ v cv) (q : Q (.ref O.length) (O ++ [.list l])) :
    wpAny (MW w) A (call (.type "list") [cv] []) (End w b κ Fs O s RV Q) E s := by
  have hz := lenOk_le hle
  have plain : ∀ {a : Addr} {vals : Array Value}, itemsOf O v = some l → wpAny (MW w) A (call (.type "list") [cv] []) (End w b κ Fs O s RV Q) E s := fun {_ _} e => by
    obtain ⟨a, vals, rfl, ⟨n, hn⟩, rs⟩ := items_of R e r
    exact call_list_seq a (.inl rfl) hn rfl rfl (fun h' c' k hS => grown_list (tk := s.toks) R q k hS fun κ' x => RVs_mono x rs) (RVs_size rs ▸ Nat.le_trans hz (by decide))
  cases v with
  | tup l' =>
    cases h
    obtain ⟨c, vals, rfl, ⟨n, hn⟩, _, rs⟩ := r
    exact call_list_seq c (.inr rfl) hn rfl rfl (fun h' c' k hS => grown_list (tk := s.toks) R q k hS fun κ' x => RVs_mono x rs) (RVs_size rs ▸ Nat.le_trans hz (by decide))
  | str l' =>
    cases h
    obtain ⟨t, rfl⟩ := r
    rw [List.length_map] at hz
    refine call_list_str hh (S l') t (fun h' tk acc' c' k hS hacc => grown_list R q k hS fun κ' x => RVs_each (f := fun c => V.str [c]) (K := fun i v => ∃ t, v = Value.str ⟨#[i]⟩ t) (fun h => h) l' (hacc.1.trans rfl) fun j v i e1 e2 => ?_) (Nat.le_trans (m := l'.length) (Nat.le_refl _) (Nat.le_trans hz (by decide)))
    obtain ⟨c, u, hc, rfl⟩ := hacc.2 j v (Array.getElem?_toList ▸ e1)
    exact ⟨u, by rw [← Option.some.inj (hc.symm.trans (Array.getElem?_toList.symm.trans e2))]⟩
  | rng x y z =>
    obtain ⟨hc, h⟩ := ite_some h
    cases h
    obtain ⟨c, t1, t2, t3, rfl, hoff, ho⟩ := r
    have hlen : (rangeL x y z).length = (Builtin.Range.rangeSize x y z).toNat := by rw [rangeL, List.length_map, List.length_range]
    rw [List.length_map] at hz
    refine call_list_range hh ho (rngOk_small (and_bool hc).1) (n := (rangeL x y z).length) (by rw [hlen, range_nn]) (Nat.le_trans hz (by decide)) fun h' tk acc' c' k hS hacc => grown_list R q k hS fun κ' xx => RVs_each (f := V.int) (K := fun i v => ∃ t, v = Value.int i t) (fun h => h) _ hacc.1 fun j v i e1 e2 => ?_
    obtain ⟨u, rfl⟩ := hacc.2 j v (Array.getElem?_toList ▸ e1)
    rw [rangeL, List.getElem?_map] at e2
    obtain ⟨m, hm, rfl⟩ := Option.map_eq_some_iff.mp e2
    obtain ⟨_, e3⟩ := List.getElem?_eq_some_iff.mp hm
    rw [List.getElem_range] at e3
    exact ⟨u, by rw [e3]⟩
  | lst l' => exact plain (a := 0) (vals := #[]) h
  | ref m => exact plain (a := 0) (vals := #[]) h
  | _ => exact none_ne h

theorem iter_sound {l : List V} {cv : Value} (R : RelW w κ Fs O s.heap) (r : RV s.heap κ (.lst l) cv) (q : Q (.ref O.length) (O ++ [.iter l])) : wpAny (MW w) A (call (.builtin "iter") [cv] []) (End w b κ Fs O s RV Q) E s := by
  obtain ⟨c, vals, rfl, hp, hoff, rs⟩ := r
  refine Calls.call_function_entry (by decide +kernel) (by decide +kernel) kdk_entry_iter (kdk_args_iter _) ?_
  unfold Builtin.«iter»
  refine wpAny_bind (m := someArgs "iter" 1 2 _) (wpAny_of_eq (a := [Value.ref c]) (by first | rfl | kernel_rfl!) ?_)
  show wpAny _ _ (pyIter (.ref c) >>= _) _ _ _
  refine wpAny_bind (wpAny_pyIter_list hp.isList (wpAny_pure ⟨_, rfl, new_obj R q rfl fun κ' x => ?_⟩))
  obtain ⟨n, hn⟩ := hp
  exact ⟨c, 0, vals, ⟨_, Heap.get?_push_size _ rfl, rfl, rfl⟩, ⟨n, x.keep _ _ hn hoff⟩, x.off hn hoff, RVs_mono x rs⟩
theorem next_sound {n : Nat} {v : V} {l : List V} {cv : Value} (hs : O[n]? = some (.iter (v :: l))) (R : RelW w κ Fs O s.heap) (r : RV s.heap κ (.ref n) cv) (q : Q v (O.set n (.iter l))) : wpAny (MW w) A (call (.builtin "next") [cv] []) (End w b κ Fs O s RV Q) E s := by
  obtain ⟨it, rfl, hi⟩ := r
  obtain ⟨c, k, vals, hit, hl, hoff, rs⟩ := R.at' hs hi
  refine Calls.call_function_entry (by decide +kernel) (by decide +kernel) kdk_entry_next (kdk_args_next _) ?_
  unfold Builtin.«next»
  refine wpAny_bind (m := someArgs "next" 1 2 _) (wpAny_of_eq (a := [Value.ref it]) (by first | rfl | kernel_rfl!) ?_)
  dsimp only
  refine wpAny_bind (wpAny_specialOf (name := Str.ofString "__next__") hit.typeIs slot_listiter_next.lookup ?_)
  refine wpAny_ite_split (fun hab => absurd hab (by decide)) (fun _ => ?_)
  obtain ⟨o, ho, hc, hd⟩ := id hit
  obtain ⟨ol, hol⟩ := id hl
  obtain ⟨cv, r', hv, rv, rs'⟩ := rs
  have hx : vals[k]? = some cv := by
    have := List.getElem?_drop (xs := vals.toList) (i := k) (j := 0)
    rw [hv, Nat.add_zero] at this
    rw [← Array.getElem?_toList]; exact this.symm
  refine wpAny_bind (wpAny_callSpecial?_slot (name := Str.ofString "__next__") hit.typeIs slot_listiter_next
    (wpAny_call_entry slot_listiter_next hit.typeIs entry_listiter_next ?_ (args_listiter_next _)))
  show wpAny _ _ (field (.ref it) 0 >>= _) _ _ s
  refine wpAny_bind (wpAny_field ho hd (x := .ref c) rfl ?_)
  show wpAny _ _ (if (Value.ref c == Value.none) = true then _ else _) _ _ s
  rw [if_neg (show ¬ ((Value.ref c == Value.none) = true) from Bool.false_ne_true)]
  show wpAny _ _ (field (.ref it) 1 >>= _) _ _ s
  refine wpAny_bind (wpAny_field ho hd (x := .int k 0) rfl ?_)
  show wpAny _ _ (seqItems? (.ref c) >>= _) _ _ s
  refine wpAny_bind (wpAny_seqItems hol rfl ?_)
  simp only [Int.toNat_natCast, hx]
  refine wpAny_bind (wpAny_setField ho hd (by simp) (wpAny_pure ⟨cv, rfl, wpAny_pure ⟨_, rfl, ?_⟩⟩))
  have hit' : (s.heap.update it (Obj.mapFields (·.setIfInBounds 1 (rawInt ((k : Int) + 1))))).IsListIter it c (k + 1) := ⟨_, Heap.get?_update_self _ ho (Obj.isFreed_of_fields (Obj.data_mapFields hd _)), (Obj.cls_mapFields ..).trans hc, by
    rw [Obj.data_mapFields hd]; simp [rawInt]⟩
  obtain ⟨oi, hoi, _⟩ := id hit'
  obtain ⟨R', x', hh⟩ := R.setO (o' := .iter l) hs hi (fun b ob hn e => ((Heap.SameBut.update ..).2 b hn).trans e) ⟨oi, hoi⟩ fun x =>
    ⟨c, k + 1, vals, hit', ⟨ol, x.keep _ _ hol hoff⟩, hoff, by rw [← List.drop_drop, hv]; exact RVs_mono x rs'⟩
  exact .mk q ⟨R', x', rfl, ⟨rfl, rfl, rfl⟩, Mono.set_pure hs fun m hu => (and_bool hu).2, hh⟩ (RV_mono x' rv)
end
set_option backward.match.sparseCases false

theorem preSum_sum (xs : List (Int × Tok)) : ∀ k, k ≤ xs.length → preSum (numAt xs.toArray) k = ((xs.map (·.1)).take k).sum
  | 0, _ => rfl
  | k + 1, h => by
    have hk : k < xs.length := h
    have e : (xs.map (·.1)).take (k + 1) = (xs.map (·.1)).take k ++ [(xs[k]).1] := by
      rw [List.take_add_one]; simp [hk]
    have n : numAt xs.toArray k = xs[k].1 := by simp [numAt, hk]
    unfold preSum
    rw [preSum_sum xs k (Nat.le_of_lt hk), e, n, List.sum_append, List.sum_cons, List.sum_nil, Int.add_zero]
theorem sum_le (l : List Int) (h : ∀ i ∈ l, 0 ≤ i) : ∀ k, 0 ≤ (l.take k).sum ∧ (l.take k).sum ≤ l.sum := by
  induction l with
  | nil => intro k; rw [List.take_nil]; exact ⟨Int.le_refl _, Int.le_refl _⟩
  | cons i l ih =>
    intro k
    have h0 := h i (List.mem_cons_self ..)
    have ih := ih fun j hj => h j (List.mem_cons_of_mem _ hj)
    cases k with
    | zero =>
      have := ih l.length
      rw [List.take_length] at this
      rw [List.take_zero, List.sum_cons]
      exact ⟨Int.le_refl _, Int.add_nonneg h0 this.1⟩
    | succ k =>
      rw [List.take_succ_cons, List.sum_cons, List.sum_cons]
      exact ⟨Int.add_nonneg h0 (ih k).1, Int.add_le_add_left (ih k).2 _⟩
theorem item_le (l : List Int) (h : ∀ i ∈ l, 0 ≤ i) : ∀ i ∈ l, i ≤ l.sum := by
  induction l with
  | nil => exact fun i hi => nomatch hi
  | cons j l ih =>
    intro i hi
    have h0 := h j (List.mem_cons_self ..)
    have hl : ∀ i ∈ l, 0 ≤ i := fun j hj => h j (List.mem_cons_of_mem _ hj)
    have h1 := sum_le l hl l.length
    rw [List.take_length] at h1
    rw [List.sum_cons]
    rcases List.mem_cons.mp hi with rfl | q
    · omega
    · have := ih hl i q; omega
section
variable {w : World} {A : Around} {b : Nat} {κ : Pl} {Fs : List Fr} {O : Objs} {s : Shared} {E : Value → Shared → Prop} {Q : V → Objs → Prop}
theorem ints_items {h : Heap} (l : List V) : ∀ {is : List Int} {r : List Value}, intsV l = some is → RVs h κ l r → ∃ xs : List (Int × Tok), r = xs.map (fun p => Value.int p.1 p.2) ∧ xs.map (·.1) = is := by
  induction l with
  | nil => intro is r e q; cases e; cases q; exact ⟨[], rfl, rfl⟩
  | cons v l ih =>
    intro is r e q
    cases v with
    | int i =>
      obtain ⟨js, hj, rfl⟩ := map_some e
      obtain ⟨cv, r', rfl, ⟨t, rfl⟩, q'⟩ := q
      obtain ⟨xs, rfl, rfl⟩ := ih hj q'
      exact ⟨(i, t) :: xs, rfl, rfl⟩
    | _ => exact none_ne e
theorem sum_sound {x : V} {l : List V} {is : List Int} {cv : Value} (hh : A.handled = none) (hl : itemsOf O x = some l) (hi : intsV l = some is) (hc : is.all (fun i => decide (0 ≤ i)) = true) (hs : is.sum.toNat < 2 ^ 62)
    (R : RelW w κ Fs O s.heap) (r : RV s.heap κ x cv) (q : Q (.int is.sum) O) : wpAny (MW w) A (call (.builtin "sum") [cv] []) (End w b κ Fs O s RV Q) E s := by
  obtain ⟨a, vals, rfl, hpl, rs⟩ := items_of R hl r
  obtain ⟨xs, hxs, rfl⟩ := ints_items l hi rs
  have hv : vals = intItems xs.toArray := Array.toList_inj.mp (by rw [hxs]; simp [intItems])
  subst hv
  have hnn : ∀ i ∈ xs.map (·.1), 0 ≤ i := fun i hi => of_decide_eq_true (List.all_eq_true.mp hc i hi)
  refine sum_intList hh hpl.isList (fun j hj => ?_) fun h' tk t' k => ?_
  · have hj : j < xs.length := hj
    have hb := sum_le (xs.map (·.1)) hnn (j + 1)
    have hn : numAt xs.toArray j = xs[j].1 := by simp [numAt, hj]
    have hm : xs[j].1 ∈ xs.map (·.1) := List.mem_map.mpr ⟨_, List.getElem_mem hj, rfl⟩
    have h1 := hnn _ hm
    have h2 := item_le _ hnn _ hm
    rw [preSum_sum xs (j + 1) hj, hn]
    unfold InLong
    omega
  · have e : preSum (numAt xs.toArray) xs.toArray.size = (xs.map (·.1)).sum := (preSum_sum xs xs.length (Nat.le_refl _)).trans (by rw [List.take_of_length_le (Nat.le_of_eq (List.length_map ..))])
    rw [e]
    exact .mk q (Go.grow R k ⟨rfl, rfl, rfl⟩) ⟨_, rfl⟩

theorem RVs_texts {h : Heap} (l : List (Str × Tok)) : RVs h κ ((l.map (·.1)).map fun p => V.str p.cps.toList) (strValues l) := by
  induction l with
  | nil => exact rfl
  | cons p l ih => exact ⟨_, _, rfl, ⟨p.2, by rw [S_toList]⟩, ih⟩
theorem texts_made {l : List (Str × Tok)} {ts : List Str} {k : Nat} (R : RelW w κ Fs O s.heap) (e : l.map (·.1) = ts) (q : Q (.ref O.length) (O ++ [.list (ts.map fun p => .str p.cps.toList)])) :
    End w b κ Fs O s RV Q (.ref s.heap.objs.size) { s with heap := s.heap.push { cls := .type "list", data := .seq (strValues l).toArray }, toks := k } :=
  new_obj' R q (push_keeps _ _) ⟨_, Heap.get?_push_size _ rfl⟩ fun κ' x => ⟨_, ⟨_, Heap.get?_push_size _ rfl⟩, e ▸ RVs_texts l⟩
theorem split_space_sound {x : List Nat} {cv : Value} (h1 : lenOk x.length = true) (h2 : lenOk (Builtin.Str.spaceWords (S x) (x.length + 1)).length = true) (R : RelW w κ Fs O s.heap) (ra : RV s.heap κ (.str x) cv)
    (q : Q (.ref O.length) (O ++ [.list ((Txt.words (S x)).map fun p => .str p.cps.toList)])) : wpAny (MW w) A (call (.builtin "str.split") [cv] []) (End w b κ Fs O s RV Q) E s := by
  obtain ⟨t, rfl⟩ := ra
  have h1 := Nat.le_trans (lenOk_le h1) (show 1000000 ≤ sizeLine by decide)
  have h2 := Nat.le_trans (lenOk_le h2) (show 1000000 ≤ sizeLine by decide)
  rw [← S_length x] at h1 h2
  refine call_meets F.slot_str_split (typeIs_str _ _ _) F.entry_str_split (F.args_str_split_1 _) (meets_str_split_space (S x) t h1 h2) ?_
  cases hw : Builtin.Str.spaceWords (S x) ((S x).length + 1) == [(0, (S x).length)]
  · simp only [Bool.false_eq_true, if_false]
    rw [strsFrom_eq]
    exact texts_made R ((numbered_texts _ _).trans (if_neg (ne_true_of_eq_false hw)).symm) q
  · simp only [if_true]
    exact texts_made (l := [(S x, t)]) R (if_pos hw).symm q
theorem split_sep_sound {x y : List Nat} {t u : Tok} (h0' : (!y.isEmpty) = true) (h1 : lenOk x.length = true)
    (h2 : lenOk (Builtin.Str.partsBetween (S x) (Builtin.Str.occurrences (S x) (S y) 0 x.length (x.length + 1)) y.length).length = true) (R : RelW w κ Fs O s.heap)
    (q : Q (.ref O.length) (O ++ [.list ((Txt.split (S x) (S y)).map fun p => .str p.cps.toList)])) : wpAny (MW w) A (call (.builtin "str.split") [.str (S x) t, .str (S y) u] []) (End w b κ Fs O s RV Q) E s := by
  have h1 := Nat.le_trans (lenOk_le h1) (show 1000000 ≤ sizeLine by decide)
  have h2 := Nat.le_trans (lenOk_le h2) (show 1000000 ≤ sizeLine by decide)
  have hy : ((S y).length == 0) = false := by
    rw [S_length]; cases y with | nil => cases h0' | cons => rfl
  rw [← S_length x] at h1 h2
  rw [← S_length y] at h2
  cases hc : (decide ((S x).length < (S y).length) || decide (Builtin.Str.strKind (S x) < Builtin.Str.strKind (S y)))
  · cases hf : (Builtin.Str.occurrences (S x) (S y) 0 (S x).length ((S x).length + 1)).isEmpty
    · refine call_meets F.slot_str_split (typeIs_str _ _ _) F.entry_str_split (F.args_str_split_2 _ _) (meets_str_split_sep (S x) (S y) t u hc hy hf h1 h2) ?_
      show wants _ E _ { s with toks := _, heap := s.heap.push { cls := .type "list", data := .seq (strsFrom s.toks (Builtin.Str.partsBetween (S x) (Builtin.Str.occurrences (S x) (S y) 0 (S x).length ((S x).length + 1)) (S y).length)).toArray } }
      rw [strsFrom_eq]
      exact texts_made R ((numbered_texts _ _).trans ((if_neg (ne_true_of_eq_false hc)).trans (if_neg (ne_true_of_eq_false hf))).symm) q
    · exact call_meets F.slot_str_split (typeIs_str _ _ _) F.entry_str_split (F.args_str_split_2 _ _) (meets_str_split_not_found (S x) (S y) t u hc hy hf)
        (texts_made (l := [(S x, t)]) R ((if_neg (ne_true_of_eq_false hc)).trans (if_pos hf)).symm q)
  · exact call_meets F.slot_str_split (typeIs_str _ _ _) F.entry_str_split (F.args_str_split_2 _ _) (meets_str_split_cannot_occur (S x) (S y) t u hc)
      (texts_made (l := [(S x, t)]) R (if_pos hc).symm q)
theorem strs_values {h : Heap} (l : List V) : ∀ {ts : List (List Nat)} {r : List Value}, strsV l = some ts → RVs h κ l r → ∃ xs : List (Str × Tok), r = strValues xs ∧ xs.map (·.1) = ts.map S := by
  induction l with
  | nil => intro ts r e q; cases e; cases q; exact ⟨[], rfl, rfl⟩
  | cons v l ih =>
    intro ts r e q
    cases v with
    | str x =>
      obtain ⟨js, hj, rfl⟩ := map_some e
      obtain ⟨cv, r', rfl, ⟨t, rfl⟩, q'⟩ := q
      obtain ⟨xs, rfl, hx⟩ := ih hj q'
      exact ⟨(S x, t) :: xs, rfl, congrArg (S x :: ·) hx⟩
    | _ => exact none_ne e
theorem join_sound {x : List Nat} {v : V} {l : List V} {ts : List (List Nat)} {t : Tok} {cv : Value} (hl : itemsOf O v = some l) (ht : strsV l = some ts) (hok : JoinOk (S x) (ts.map S) = true) (R : RelW w κ Fs O s.heap) (rb : RV s.heap κ v cv) (q : Q (.str (Txt.join (S x) (ts.map S)).cps.toList) O) :
    wpAny (MW w) A (call (.builtin "str.join") [.str (S x) t, cv] []) (End w b κ Fs O s RV Q) E s := by
  obtain ⟨a, vals, rfl, hpl, rs⟩ := items_of R hl rb
  obtain ⟨xs, hxs, hx⟩ := strs_values l ht rs
  have hv : vals = (strValues xs).toArray := Array.toList_inj.mp hxs
  subst hv
  exact SC.join hpl.isList hx hok fun t' k => End.tok R q ⟨_, by rw [S_toList]⟩
open Builtin Builtin.Str in
theorem gives_find4 (x y : Str) (i j : Int) (t u v k : Tok) : Gives («str.find» ⟨[.str x t, .str y u, .int i v, .int j k], []⟩) (.int (match occurrences x y (fromIndex x.length i) (min (fromIndex x.length j) x.length) 1 with | k :: _ => (k : Int) | [] => -1)) := by
  show Gives (match occurrences x y (fromIndex x.length i) (min (fromIndex x.length j) x.length) 1 with | k :: _ => retInt k | [] => (do rule "str.find.not-found"; retInt (-1))) _
  cases occurrences x y (fromIndex x.length i) (min (fromIndex x.length j) x.length) 1 with
  | nil => exact .rule (.of_eq rfl)
  | cons k _ => exact .of_eq rfl
theorem find4_sound {x y : List Nat} {i j : Int} {t u v k : Tok} (R : RelW w κ Fs O s.heap) (q : Q (.int (findT x y (clipT x.length i) (min (clipT x.length j) x.length))) O) : wpAny (MW w) A (call (.builtin "str.find") [.str (S x) t, .str (S y) u, .int i v, .int j k] []) (End w b κ Fs O s RV Q) E s := by
  refine call_gives F.slot_str_find (typeIs_str _ _ _) F.entry_str_find (F.args_str_find_4 _ _ _ _) (gives_find4 (S x) (S y) i j t u v k) ?_
  rw [S_length]
  exact End.tok R q ⟨_, rfl⟩
theorem lower_sound {x : List Nat} {t : Tok} (hl : lenOk (Txt.lower (S x)).length = true) (R : RelW w κ Fs O s.heap) (q : Q (.str (Txt.lower (S x)).cps.toList) O) : wpAny (MW w) A (call (.builtin "str.lower") [.str (S x) t] []) (End w b κ Fs O s RV Q) E s := by
  refine SC.lower ?_ (End.tok R q ⟨_, by rw [S_toList]⟩)
  show decide (_ > 16777216) = false
  exact decide_eq_false (Nat.not_lt.mpr (Nat.le_trans (lenOk_le hl) (by decide)))

theorem belows_mem {b : Nat} (l : List V) : belows b l = true ↔ ∀ v ∈ l, v.under b = true := by
  induction l with
  | nil => exact ⟨fun _ _ h => (nomatch h), fun _ => rfl⟩
  | cons v l ih =>
    refine ⟨fun h x hx => ?_, fun h => Bool.and_eq_true_iff.mpr ⟨h v (List.mem_cons_self ..), ih.mpr fun x hx => h x (List.mem_cons_of_mem _ hx)⟩⟩
    rcases List.mem_cons.mp hx with rfl | hx
    · exact (and_bool h).1
    · exact ih.mp (and_bool h).2 x hx

theorem list_write {n : Nat} {l l' : List V} {v : V} {a : Addr} {h' : Heap} {vals' : Array Value} (hs : listAt O n = some l) (hi : κ.ob[n]? = some (.obj a)) (hw : writeOk b n v = true) (hm : ∀ x ∈ l', x ∈ l ∨ x = v) (R : RelW w κ Fs O s.heap) (sb : Heap.SameBut a s.heap h') (hp : h'.PlainList a vals') (rs : Ext s.heap κ h' κ → RVs h' κ l' vals'.toList) :
    GoW w b κ O s κ Fs (O.set n (.list l')) { s with heap := h' } := by
  obtain ⟨m, hm'⟩ := id hp
  obtain ⟨R', x', hh⟩ := R.setO (o' := .list l') (listAt_some hs) hi (fun b ob hn e => (sb.2 b hn).trans e) ⟨_, hm'⟩ fun x => ⟨_, hp, rs x⟩
  refine ⟨R', x', rfl, ⟨rfl, rfl, rfl⟩, ?_, hh⟩
  rcases Bool.or_eq_true_iff.mp hw with q | q
  · exact Mono.set_high (of_decide_eq_true q)
  · exact Mono.set_pure (listAt_some hs) fun k hu => (belows_mem _).mpr fun x hx => (hm x hx).elim ((belows_mem _).mp hu x) fun e => e ▸ pure_under q
theorem append_sound' {n : Nat} {v : V} {l : List V} {cx cv : Value} (hs : listAt O n = some l) (hw : writeOk b n v = true) (hl : lenOk l.length = true) (R : RelW w κ Fs O s.heap) (rx : RV s.heap κ (.ref n) cx) (rv : RV s.heap κ v cv) (q : Q .none (O.set n (.list (l ++ [v])))) :
    wpAny (MW w) A (call (.builtin "list.append") [cx, cv] []) (End w b κ Fs O s RV Q) E s := by
  obtain ⟨a, vals, rfl, hi, hp, rs⟩ := R.list hs rx
  refine wpAny_list_append_plain hp (fun h' hp' sb => .mk q (list_write hs hi hw (fun x hx => (List.mem_append.mp hx).imp id List.mem_singleton.mp) R sb hp' fun x => ?_) rfl) (RVs_size rs ▸ Nat.le_trans (lenOk_le hl) (by decide))
  rw [Array.toList_push]; exact RVs_app (RVs_mono x rs) ⟨_, _, rfl, RV_mono x rv, rfl⟩
theorem insert_sound {n : Nat} {i : Int} {t : Tok} {v : V} {l : List V} {cx cv : Value} (hs : listAt O n = some l) (h0i : 0 ≤ i) (hil : i ≤ l.length) (hw : writeOk b n v = true) (hl : lenOk l.length = true) (R : RelW w κ Fs O s.heap) (rx : RV s.heap κ (.ref n) cx)
    (rv : RV s.heap κ v cv) (q : Q .none (O.set n (.list (l.take i.toNat ++ v :: l.drop i.toNat)))) : wpAny (MW w) A (call (.builtin "list.insert") [cx, .int i t, cv] []) (End w b κ Fs O s RV Q) E s := by
  obtain ⟨a, vals, rfl, hi, ⟨m, hm⟩, rs⟩ := R.list hs rx
  rw [RVs_size rs] at hil hl
  have hl := lenOk_le hl
  refine call_meets F.slot_list_insert (T := "list") ⟨_, hm, rfl⟩ F.entry_list_insert (F.args_list_insert_3 _ _ _) (AutoSeq1.list_insert_list_int_val_1 a vals m i t cv ?_ (Nat.le_trans hl (by decide))) ⟨hm, ?_⟩
  · have : Builtin.List.listFitsIndex i = true := by
      unfold Builtin.List.listFitsIndex
      simp; omega
    rw [this]; decide
  · have hk : (if i < 0 then (i + (vals.size : Int)).toNat else min i.toNat vals.size) = i.toNat := by
      rw [if_neg (Int.not_lt.mpr h0i)]; omega
    have hp' : (s.heap.update a (Obj.mapSeq fun xs : Array Value => let k := if i < 0 then (i + (xs.size : Int)).toNat else min i.toNat xs.size; (xs.extract 0 k).push cv ++ xs.extract k)).PlainList a _ := ⟨_, Heap.get?_update_self _ hm rfl⟩
    dsimp only at hp'
    rw [hk] at hp'
    refine .mk q (list_write hs hi hw (fun x hx => ?_) R (Heap.SameBut.update ..) hp' fun x => ?_) rfl
    · exact (List.mem_append.mp hx).elim (fun h => .inl (List.mem_of_mem_take h)) fun h => (List.mem_cons.mp h).elim .inr fun h => .inl (List.mem_of_mem_drop h)
    · have e : ((vals.extract 0 i.toNat).push cv ++ vals.extract i.toNat).toList = vals.toList.take i.toNat ++ cv :: vals.toList.drop i.toNat := by
        have : vals.size - i.toNat = vals.toList.length - i.toNat := rfl
        simp [List.take_of_length_le]
      rw [e]
      exact RVs_app (RVs_take _ (RVs_mono x rs)) ⟨_, _, rfl, RV_mono x rv, RVs_drop _ (RVs_mono x rs)⟩

noncomputable def OptS : Option (List Nat) → Option Value → Prop
  | none, none => True
  | some x, some v => ∃ t, v = .str (S x) t
  | _, _ => False
noncomputable def TabsOk (w : World) : Prop := ∀ a l, GG.tabs.lookup a = some l → (a == sysModules) = false ∧ ∃ f, (HW w).MapOf (intKind PG w) a f ∧ ∀ i : Int, 0 ≤ i → i < 2 ^ 60 → OptS (l.lookup i) (f i)
theorem tget_sound {es : List (Int × List Nat)} {f : Int → Option Value} {i : Int} {d : V} {cd : Value} {k : Nat} (o : OptS (es.lookup i) (f i)) (R : RelW w κ Fs O s.heap) (rd : RV s.heap κ d cd) (q : Q (tGet es i d) O) : End w b κ Fs O s RV Q ((f i).getD cd) { s with toks := k } := by
  unfold tGet at q
  cases hl : es.lookup i with
  | none =>
    rw [hl] at q o
    cases hf : f i with
    | none => exact End.tok R q rd
    | some v => rw [hf] at o; exact o.elim
  | some x =>
    rw [hl] at q o
    cases hf : f i with
    | none => rw [hf] at o; exact o.elim
    | some v => rw [hf] at o; exact End.tok R q o
theorem mt_sound (T : TabsOk w) {ad : Addr} {a : List V} {r : V} {ca : List Value} (h : methT GG ("get" : Str) ad a = some r) (R : RelW w κ Fs O s.heap) (ra : RVs s.heap κ a ca) (q : Q r O) : wpAny (MW w) A (call (.builtin "dict.get") (.ref ad :: ca) []) (End w b κ Fs O s RV Q) E s := by
  obtain ⟨es, h1, h⟩ := bind_some (ite_some h).2
  obtain ⟨hne, f, ⟨o, ces, n, ho, hr⟩, hf⟩ := T _ _ h1
  have hm : s.heap.MapOf (intKind PG w) ad f := ⟨o, ces, n, R.base _ _ ho, hr⟩
  have hty : s.TypeIs (.ref ad) "dict" := ⟨o, R.base _ _ ho, hr.1.1⟩
  have self : ∀ (i : Int) (t : Tok), (intKind PG w).is i (.int i t) = true := fun i t => decide_eq_true rfl
  have bd : ∀ {i : Int}, (decide (0 ≤ i) && decide (i.toNat < 2 ^ 60)) = true → OptS (es.lookup i) (f i) := fun {i} hc => hf i (dec_and hc).1 (by have := dec_and hc; omega)
  cases a with
  | nil => exact none_ne h
  | cons v a =>
    obtain ⟨cv, ca, rfl, rv, ra⟩ := ra
    cases a with
    | nil =>
      cases ra
      cases v with
      | int i =>
        obtain ⟨hc, h⟩ := ite_some h
        cases h
        obtain ⟨t, rfl⟩ := rv
        refine call_meetsIn F.slot_dict_get hty F.entry_dict_get (F.args_dict_get_2 _ _) (meets_dict_get (intKind PG w) (k := i) ad (self i t) hne) ⟨f, hm, ?_⟩
        exact tget_sound (bd hc) R (show RV _ _ .none .none from rfl) q
      | _ => exact none_ne h
    | cons d a =>
      obtain ⟨cd, ca, rfl, rd, ra⟩ := ra
      cases a with
      | cons => exact none_ne h
      | nil =>
        cases ra
        cases v with
        | int i =>
          obtain ⟨hc, h⟩ := ite_some h
          cases h
          obtain ⟨t, rfl⟩ := rv
          refine call_meetsIn F.slot_dict_get hty F.entry_dict_get (F.args_dict_get_3 _ _ _) (meets_dict_get_default (intKind PG w) (k := i) ad (self i t) hne _) ⟨f, hm, ?_⟩
          exact tget_sound (bd hc) R rd q
        | _ => exact none_ne h
end
set_option backward.match.sparseCases true

section
variable {w : World} {A : Around} {b : Nat} {κ : Pl} {Fs : List Fr} {O : Objs} {s : Shared} {E : Value → Shared → Prop} {Q : V → Objs → Prop}
theorem run_wp {α : Type} {f : Nat → Nat → Option Bool} {cmp : Nat → Nat → (Bool → Shared → Prop) → Shared → Prop} {Q : α → Shared → Prop} (hf : ∀ i j c, f i j = some c → ∀ C : Bool → Shared → Prop, C c s → cmp i j C s) (t : KasT α) :
    ∀ {a : α}, runK f t = some a → Q a s → t.kasWp cmp Q s := by
  induction t with
  | ret a => intro a h q; cases h; exact q
  | ask i j k ih =>
    intro a h q
    obtain ⟨c, h1, h2⟩ := bind_some h
    exact hf i j c h1 _ (ih c h2 q)

noncomputable abbrev midH (h : Heap) (a : Addr) (vs : List Value) : Heap := ((h.update a (Obj.mapSeq fun _ => (#[] : Array Value))).push (seqObj "tuple" vs.toArray 0)).push (seqObj "list" #[] 0)

theorem sort_tree {vs : List Value} {f : Nat → Nat → Option Bool} {p : Array Nat} {κ : SortKind} {a : Addr} {n : Nat} {P : PySem.Fin → Shared → Prop} (ho : s.heap.get? a = some (seqObj "list" vs.toArray n))
    (h2 : 2 ≤ vs.length) (h64 : vs.length < 64) (hp : runK f (kas_sort vs.length) = some p)
    (hk : ∀ h', (∀ b o, b ≠ a → s.heap.get? b = some o → h'.get? b = some o) → ∀ Q : SortKind → Shared → Prop, Q κ { s with heap := h' } → wpAny (MW w) A (keyKind' vs.toArray) Q noE { s with heap := h' })
    (hf : ∀ h', (∀ b o, b ≠ a → s.heap.get? b = some o → h'.get? b = some o) → ∀ i j c, f i j = some c → ∀ C : Bool → Shared → Prop, C c { s with heap := h' } → kas_ask PG w A κ vs i j C { s with heap := h' })
    (h : ∀ h' c, (∀ b o, b ≠ a → s.heap.get? b = some o → h'.get? b = some o) → h'.get? a = some (seqObj "list" (List.toArray (p.toList.map fun i => vs.getD i Value.none)) c) → P (.done (.ret .none)) { s with heap := h' }) :
    wpAny (MW w) A (Builtin.«list.sort» ⟨[.ref a], []⟩) P E s := by
  have ha : a < s.heap.objs.size := Heap.lt_size ho
  have s1 := Heap.SameBut.update s.heap a (Obj.mapSeq fun _ => (#[] : Array Value))
  obtain ⟨e1, ho1⟩ : ∃ e1, (s.heap.update a (Obj.mapSeq fun _ => (#[] : Array Value))).get? a = some (seqObj "list" #[] e1) := ⟨_, get?_update_seq ho fun _ => #[]⟩
  have keep : ∀ b o, b ≠ a → s.heap.get? b = some o → (midH s.heap a vs).get? b = some o :=
    fun b o hb e => Heap.get?_push_of_some _ (Heap.get?_push_of_some _ ((s1.2 b hb).trans e))
  have na : (midH s.heap a vs).get? a = some (seqObj "list" #[] e1) := Heap.get?_push_of_some _ (Heap.get?_push_of_some _ ho1)
  rw [list_sort_plain]
  refine wpAny_bind (listItems_at ho rfl ?_)
  refine wpAny_bind (listUpdate_at ho rfl ?_ (by rw [List.size_toArray, sizeLine_eq]; omega) (Nat.zero_le _))
  refine wpAny_bind (seqEpoch_at ho1 rfl ?_)
  refine wpAny_bind (wpAny_newTuple ?_ (by show vs.length ≤ _; rw [sizeLine_eq]; omega))
  refine wpAny_bind (wpAny_newList ?_ (Nat.zero_le _))
  refine wpAny_holding ?_
  show wpAny (MW w) A _ P E { s with heap := midH s.heap a vs }
  have hn2 : ¬ vs.toArray.size < 2 := by rw [List.size_toArray]; omega
  dsimp only
  rw [if_neg hn2, if_neg hn2]
  refine wpAny_bind (wpAny_mono (hk _ keep (fun κ' s' => κ' = κ ∧ s' = { s with heap := midH s.heap a vs }) ⟨rfl, rfl⟩) ?_ fun _ _ x => x.elim)
  rintro κ' s' ⟨rfl, rfl⟩
  refine wpAny_bind (wpAny_mono (kat_run (Q := fun st' s' => s' = { s with heap := midH s.heap a vs } ∧ ∃ q : Array Nat, q = p ∧ q.size = vs.length ∧ arrOf st' = q.map (kas_item (vs.toArray.zip vs.toArray)) ∧ failedOf st' = none)
    (G := fun q s' => q = p ∧ s' = { s with heap := midH s.heap a vs })
    rfl h2 h64 (fun p' st' s' a1 a2 a3 a4 => ⟨a4.2, p', a4.1, a1, a2, a3⟩) (run_wp (hf _ keep) _ hp ⟨rfl, rfl⟩)) ?_ fun _ _ e => e)
  rintro ⟨⟨⟩, st'⟩ s' ⟨rfl, q, rfl, hps, har, hfl⟩
  dsimp only
  have hout := kat_snds rfl har
  have hsz : (List.toArray (q.toList.map fun i => vs.getD i Value.none)).size = vs.length := by rw [List.size_toArray, List.length_map, Array.length_toList, hps]
  rw [hout]
  refine wpAny_bind (seqEpoch_at na rfl ?_)
  refine wpAny_bind (listUpdate_at na rfl ?_ (Nat.zero_le _) (Nat.le_trans (Nat.le_of_eq hsz) (by rw [sizeLine_eq]; omega)))
  rw [hfl]
  simp only [bne_self_eq_false, Bool.false_eq_true, if_false]
  have s2 := Heap.SameBut.update (midH s.heap a vs) a (Obj.mapSeq fun _ => List.toArray (q.toList.map fun i => vs.getD i Value.none))
  exact wpAny_pure (h _ _ (fun b o hb e => (s2.2 b hb).trans (keep b o hb e)) (get?_update_seq na fun _ => List.toArray (q.toList.map fun i => vs.getD i Value.none)))
noncomputable abbrev callH (h : Heap) (vs : List Value) : Heap := ((h.push (seqObj "list" #[] 0)).update h.objs.size (Obj.mapSeq (· ++ vs.toArray))).push (seqObj "list" vs.toArray 0)
theorem sorted_call {vs : List Value} {f : Nat → Nat → Option Bool} {p : Array Nat} {κ : SortKind} {l : Addr} {Q : Value → Shared → Prop} (hl : s.heap.IsList l vs.toArray)
    (h2 : 2 ≤ vs.length) (h64 : vs.length < 64) (hp : runK f (kas_sort vs.length) = some p)
    (hk : ∀ h', (∀ b o, s.heap.get? b = some o → h'.get? b = some o) → ∀ Q : SortKind → Shared → Prop, Q κ { s with heap := h' } → wpAny (MW w) A.in1.in1 (keyKind' vs.toArray) Q noE { s with heap := h' })
    (hf : ∀ h', (∀ b o, s.heap.get? b = some o → h'.get? b = some o) → ∀ i j c, f i j = some c → ∀ C : Bool → Shared → Prop, C c { s with heap := h' } → kas_ask PG w A.in1.in1 κ vs i j C { s with heap := h' })
    (h : ∀ D h' c, (∀ b o, s.heap.get? b = some o → h'.get? b = some o) → s.heap.get? D = none → h'.get? D = some (seqObj "list" (List.toArray (p.toList.map fun i => vs.getD i Value.none)) c) → Q (.ref D) { s with heap := h' }) :
    wpAny (MW w) A (call (.builtin "sorted") [.ref l] []) Q E s := by
  refine Calls.call_function_entry kind_sorted plain_sorted entry_sorted (args_sorted1 _) ?_
  unfold Builtin.«sorted»
  refine wpAny_bind (m := checkCount "sorted" 1 1 _) (wpAny_pure ?_)
  refine wpAny_bind (collect_list hl ?_ (by rw [sizeLine_eq]; omega))
  refine wpAny_bind (wpAny_newList ?_ (by rw [sizeLine_eq]; omega))
  have hsz : ((s.heap.push (seqObj "list" #[] 0)).update s.heap.objs.size (Obj.mapSeq (· ++ vs.toArray))).objs.size = s.heap.objs.size + 1 := by
    rw [Heap.size_update, size_push']
  have hoL : (callH s.heap vs).get? (s.heap.objs.size + 1) = some (seqObj "list" vs.toArray 0) := by
    rw [← hsz]; exact Heap.get?_push_size _ rfl
  have keep : ∀ b o, s.heap.get? b = some o → (callH s.heap vs).get? b = some o := fun b o q => by
    have hlt : b < s.heap.objs.size := Heap.lt_size q
    rw [Heap.get?_push_ne _ _ _ (by rw [hsz]; exact Nat.ne_of_lt (Nat.lt_succ_of_lt hlt)), Heap.get?_update_ne _ _ _ _ (Nat.ne_of_lt hlt), Heap.get?_push_ne _ _ _ (Nat.ne_of_lt hlt)]
    exact q
  have ne : ∀ {b : Addr} {o : Obj}, s.heap.get? b = some o → b ≠ s.heap.objs.size + 1 := fun q => Nat.ne_of_lt (Nat.lt_succ_of_lt (Heap.lt_size q))
  show wpAny _ _ _ _ _ { s with heap := callH s.heap vs }
  rw [hsz]
  refine wpAny_bind (wpAny_holding (wpAny_call_entry slot_list_sort ⟨_, hoL, rfl⟩ entry_list_sort ?body (args_list_sort _)))
  case body =>
    exact sort_tree (s := { s with heap := callH s.heap vs }) hoL h2 h64 hp
      (fun h' k => hk h' fun b o q => k b o (ne q) (keep b o q)) (fun h' k => hf h' fun b o q => k b o (ne q) (keep b o q))
      fun h' c k hD => ⟨_, rfl, wpAny_pure ⟨_, rfl, h _ h' c (fun b o q => k b o (ne q) (keep b o q)) (Heap.get?_none_of_le (Nat.le_succ _)) hD⟩⟩
theorem pair2_is {v : V} {p : V × V} (h : pair2 v = some p) : v = .tup [p.1, p.2] := by
  cases v with
  | tup l => cases l with
    | nil => exact none_ne h
    | cons x l => cases l with
      | nil => exact none_ne h
      | cons y l => cases l with
        | nil => cases h; rfl
        | cons => exact none_ne h
  | _ => exact none_ne h
theorem pairI_is {v : V} (h : pairI v = true) : ∃ i y, v = .tup [.int i, y] := by
  unfold pairI at h
  cases hp : pair2 v with
  | none => rw [hp] at h; exact ff_ne h
  | some p =>
    rw [hp] at h
    obtain ⟨x, y⟩ := p
    cases x with
    | int i => exact ⟨i, y, pair2_is hp⟩
    | _ => exact ff_ne h
theorem tups_of {h : Heap} (l : List V) : ∀ {vs : List Value}, l.all pairI = true → RVs h κ l vs → ∃ fs : List Value, fs.length = vs.length ∧ KatTups h vs fs ∧ ∀ v ∈ fs, ∃ i t, v = .int i t := by
  induction l with
  | nil => intro vs _ e; cases e; exact ⟨[], rfl, trivial, nofun⟩
  | cons v l ih =>
    intro vs hk e
    obtain ⟨cv, r, rfl, rv, rs⟩ := e
    obtain ⟨fs, h1, h2, h3⟩ := ih (and_bool hk).2 rs
    obtain ⟨i, y, rfl⟩ := pairI_is (and_bool hk).1
    obtain ⟨a, vals, rfl, ⟨n, hn⟩, _, q⟩ := rv
    obtain ⟨c1, r1, e1, ⟨t, rfl⟩, _⟩ := q
    refine ⟨.int i t :: fs, congrArg (· + 1) h1, ⟨⟨a, _, vals, n, rfl, hn, rfl, rfl, ?_⟩, h2⟩, fun v hv => ?_⟩
    · rw [← Array.getElem?_toList, e1]; rfl
    · exact (List.mem_cons.mp hv).elim (fun e => ⟨_, _, e⟩) (h3 v)
theorem tup2_at {h : Heap} {x y : V} {cv : Value} (r : RV h κ (.tup [x, y]) cv) : ∃ a vals n cx cy, cv = .ref a ∧ h.get? a = some { cls := .type "tuple", dict := none, data := .seq vals n } ∧ vals.toList = [cx, cy] ∧ vals.size = 2 ∧ RV h κ x cx ∧ RV h κ y cy := by
  obtain ⟨a, vals, rfl, ⟨n, hn⟩, _, q⟩ := r
  obtain ⟨cx, cy, e, rx, ry⟩ := RVs_two q
  exact ⟨a, vals, n, cx, cy, rfl, hn, e, congrArg List.length e, rx, ry⟩
theorem lt_first {a c : Int} {ta tc : Tok} {u v : Value} {C : Bool → Shared → Prop} (q : a ≠ c) (hC : C (decide (a < c)) s) : KatLex PG w A true false C [(.int a ta, .int c tc), (u, v)] 0 s := by
  refine kat_cons (wpAny_eqBool_int ?_)
  rw [beq_eq_false_iff_ne.mpr q]
  refine kat_no ?_
  show wpAny _ _ (oneLt' true _ _) _ _ _
  exact oneLt_int hC
inductive LtI : V → V → Bool → Prop where
  | ii (a c b d : Int) : LtI (.tup [.int a, .int b]) (.tup [.int c, .int d]) (decide (a < c) || (decide (a = c) && decide (b < d)))
  | bb {a c : Int} {u v : Bool} (h : a ≠ c) : LtI (.tup [.int a, .bool u]) (.tup [.int c, .bool v]) (decide (a < c))
theorem lt2_inv {a c : Int} {y u : V} {t : Bool} (h : lt2 a c y u = some t) : LtI (.tup [.int a, y]) (.tup [.int c, u]) t := by
  unfold lt2 at h
  cases y with
  | int b =>
    cases u with
    | int d => cases h; exact .ii a c b d
    | _ => exact none_ne h
  | bool b =>
    cases u with
    | bool d =>
      replace h : (if a = c then none else some (decide (a < c))) = some t := h
      by_cases q : a = c
      · rw [if_pos q] at h; exact none_ne h
      · rw [if_neg q] at h; cases h; exact .bb q
    | _ => exact none_ne h
  | _ => exact none_ne h
theorem lt_inv {x y : V} {t : Bool} (h : ltV x y = some t) : LtI x y t := by
  obtain ⟨⟨x1, x2⟩, e1, h⟩ := bind_some h
  obtain ⟨⟨y1, y2⟩, e2, h⟩ := bind_some h
  cases pair2_is e1
  cases pair2_is e2
  cases x1 with
  | int a =>
    cases y1 with
    | int c => exact lt2_inv h
    | _ => exact none_ne h
  | _ => exact none_ne h
inductive Tup2 (h : Heap) (κ : Pl) (x y : V) : Value → Prop where
  | mk {a : Addr} {vals : Array Value} {n : Nat} {cx cy : Value} (g : h.get? a = some { cls := .type "tuple", dict := none, data := .seq vals n }) (e : vals.toList = [cx, cy]) (z : vals.size = 2) (rx : RV h κ x cx) (ry : RV h κ y cy) : Tup2 h κ x y (.ref a)
theorem tup2_is {h : Heap} {x y : V} {cv : Value} (r : RV h κ (.tup [x, y]) cv) : Tup2 h κ x y cv := by
  obtain ⟨a, vals, n, cx, cy, rfl, hn, e, z, rx, ry⟩ := tup2_at r
  exact .mk hn e z rx ry
theorem lt_tups {x1 x2 y1 y2 : V} {cx cy : Value} {C : Bool → Shared → Prop} (rx : RV s.heap κ (.tup [x1, x2]) cx) (ry : RV s.heap κ (.tup [y1, y2]) cy) (k : ∀ c1 c2 d1 d2, RV s.heap κ x1 c1 → RV s.heap κ x2 c2 → RV s.heap κ y1 d1 → RV s.heap κ y2 d2 → KatLex PG w A true false C [(c1, d1), (c2, d2)] 0 s) : wpAny (MW w) A (keyLt' (tuples' true) cx cy) C noE s := by
  cases tup2_is rx with
  | mk hx ex sx r1 r2 =>
    cases tup2_is ry with
    | mk hy ey sy q1 q2 =>
      refine kat_lt hx rfl hy rfl ?_
      rw [ex, ey, sx, sy]
      exact k _ _ _ _ r1 r2 q1 q2
theorem lt_ints {a b d : Int} {ta tc tb td : Tok} {C : Bool → Shared → Prop} (hC : C (decide (b < d)) s) : KatLex PG w A true false C [(.int a ta, .int a tc), (.int b tb, .int d td)] 0 s := by
  refine kat_cons (wpAny_eqBool_int ?_)
  rw [beq_self_eq_true]
  refine kat_yes (kat_cons (wpAny_eqBool_int ?_))
  by_cases q2 : b = d
  · subst q2
    rw [beq_self_eq_true]
    rw [decide_eq_false (Int.lt_irrefl b)] at hC
    exact kat_yes (kat_nil hC)
  · rw [beq_eq_false_iff_ne.mpr q2]
    refine kat_no ?_
    show wpAny _ _ (oneLt' false _ _) _ _ _
    exact kat_one _ _ (P.lt_int hC)
theorem lt_pair {x y : V} {cx cy : Value} {c : Bool} {C : Bool → Shared → Prop} (h : ltV x y = some c) (rx : RV s.heap κ x cx) (ry : RV s.heap κ y cy) (hC : C c s) :
    wpAny (MW w) A (keyLt' (tuples' true) cx cy) C noE s := by
  cases lt_inv h with
  | ii a c b d =>
    refine lt_tups rx ry fun c1 c2 d1 d2 ⟨ta, e1⟩ ⟨tb, e2⟩ ⟨tc, e3⟩ ⟨td, e4⟩ => ?_
    subst e1 e2 e3 e4
    by_cases q : a = c
    · subst q
      rw [decide_eq_false (Int.lt_irrefl a), decide_eq_true rfl, Bool.false_or, Bool.true_and] at hC
      exact lt_ints hC
    · rw [decide_eq_false q, Bool.false_and, Bool.or_false] at hC
      exact lt_first q hC
  | bb q =>
    refine lt_tups rx ry fun c1 c2 d1 d2 ⟨ta, e1⟩ _ ⟨tc, e3⟩ _ => ?_
    subst e1 e3
    exact lt_first q hC
theorem RVs_pickedB {h : Heap} {l : List V} {vs : List Value} (r : RVs h κ l vs) (is : List Nat) : is.all (fun i => decide (i < l.length)) = true → RVs h κ (picked l is) (is.map fun i => vs.getD i Value.none) := by
  induction is with
  | nil => exact fun _ => rfl
  | cons i is ih =>
    intro hk
    have h1 := of_decide_eq_true (and_bool hk).1
    obtain ⟨cv, hc, rv⟩ := RVs_get r (List.getElem?_eq_getElem h1)
    have e : picked l (i :: is) = l[i] :: picked l is := by
      rw [picked, List.filterMap_cons, List.getElem?_eq_getElem h1]; rfl
    rw [e]
    refine ⟨cv, _, ?_, rv, ih (and_bool hk).2⟩
    rw [List.map_cons, List.getD_eq_getElem?_getD, hc]; rfl
theorem int_ne_tuple : (Value.type "int" != Value.type "tuple") = true := by decide +kernel
theorem tups_keep {h h' : Heap} (k : ∀ b o, h.get? b = some o → h'.get? b = some o) (vs : List Value) : ∀ {fs : List Value}, KatTups h vs fs → KatTups h' vs fs := by
  induction vs with
  | nil => intro fs t; cases fs with
    | nil => trivial
    | cons => exact t.elim
  | cons v vs ih => intro fs t; cases fs with
    | nil => exact t.elim
    | cons f fs =>
      obtain ⟨⟨a, o, xs, n, e, ho, r⟩, t⟩ := t
      exact ⟨⟨a, o, xs, n, e, k _ _ ho, r⟩, ih t⟩
theorem sorted_sound {x : V} {l r : List V} {cv : Value} (hx : itemsOf O x = some l) (h2 : 2 ≤ l.length) (h64 : l.length < 64) (hr : sortV l = some r) (R : RelW w κ Fs O s.heap) (rx : RV s.heap κ x cv) (q : Q (.lst r) O) :
    wpAny (MW w) A (call (.builtin "sorted") [cv] []) (End w b κ Fs O s RV Q) E s := by
  obtain ⟨a, vals, rfl, hpl, rs⟩ := items_of R hx rx
  obtain ⟨hall, hr⟩ := ite_some hr
  obtain ⟨p, hp, hr⟩ := bind_some hr
  obtain ⟨hlt, hr⟩ := ite_some hr
  cases hr
  rw [RVs_length rs] at hp h2 h64
  obtain ⟨fs, f1, f2, f3⟩ := tups_of l hall rs
  refine sorted_call (κ := tuples' true) (vs := vals.toList) hpl.isList h2 h64 hp (fun h' k Q hQ => ?_) (fun h' k i j c hc C hC => ?_) fun D h' c k hn hD => ?_
  · refine kat_kind (T := .type "int") (fs := fs) (tups_keep k _ f2) (f1 ▸ Nat.le_trans (show 1 ≤ 2 by decide) h2) (fun v hv => ?_) (by decide +kernel) (by rw [int_ne_tuple]; exact hQ)
    obtain ⟨i, t, rfl⟩ := f3 v hv
    exact Looks.of_pure rfl
  · obtain ⟨x, h1, hc⟩ := bind_some hc
    obtain ⟨y, h2, hc⟩ := bind_some hc
    obtain ⟨cx, e1, r1⟩ := RVs_get rs h1
    obtain ⟨cy, e2, r2⟩ := RVs_get rs h2
    unfold kas_ask
    rw [List.getD_eq_getElem?_getD, e1, List.getD_eq_getElem?_getD, e2]
    exact lt_pair hc (RV_mono (Ext.grow k) r1) (RV_mono (Ext.grow k) r2) hC
  · have hoff : D ∉ κ.mt := fun hm => let ⟨o, ho⟩ := R.ex D hm; nomatch hn.symm.trans ho
    exact .mk q (Go.grow R k ⟨rfl, rfl, rfl⟩) ⟨D, _, rfl, ⟨_, hD⟩, hoff, RVs_pickedB (RVs_mono (Ext.grow k) rs) _ hlt⟩
end

theorem ite_either {α : Type} {c : Prop} [Decidable c] {a b : Option α} {v : α} (h : (if c then a else b) = some v) : (c ∧ a = some v) ∨ b = some v := by
  by_cases hc : c
  · rw [if_pos hc] at h; exact .inl ⟨hc, h⟩
  · rw [if_neg hc] at h; exact .inr h
section
variable {w : World} {A : Around} {b : Nat} {κ : Pl} {Fs : List Fr} {O O1 : Objs} {s : Shared} {E : Value → Shared → Prop} {Q : V → Objs → Prop}
theorem two_some {a : List V} {f : V → V → Option (V × Objs)} {r : V × Objs} {h : Heap} {ca : List Value} (e : two a f = some r) (ra : RVs h κ a ca) : ∃ u v cu cv, f u v = some r ∧ ca = [cu, cv] ∧ RV h κ u cu ∧ RV h κ v cv := by
  cases a with
  | nil => exact none_ne e
  | cons u l => cases l with
    | nil => exact none_ne e
    | cons v l => cases l with
      | nil => obtain ⟨cu, cv, rfl, r1, r2⟩ := RVs_two ra; exact ⟨u, v, cu, cv, e, rfl, r1, r2⟩
      | cons => exact none_ne e
theorem RVs_one {h : Heap} {v : V} {ca : List Value} (r : RVs h κ [v] ca) : ∃ cv, ca = [cv] ∧ RV h κ v cv := by
  obtain ⟨cv, r, rfl, a, e⟩ := r
  cases e; exact ⟨cv, rfl, a⟩
theorem ite_or {α : Type} {c : Prop} [Decidable c] {a b : Option α} {v : α} {p : Prop} (h : (if c then a else b) = some v) (k1 : c → a = some v → p) (k2 : b = some v → p) : p := (ite_either h).elim (fun h => k1 h.1 h.2) k2
theorem b_len {id : String} {a : List V} {r : V × Objs} {ca : List Value} (e : (Str.ofString id == ("len" : Str)) = true) (h : bLen a O = some r) (ok : Ok A 1) (R : RelW w κ Fs O s.heap) (ra : RVs s.heap κ a ca) (q : Q r.1 r.2) : wpAny (MW w) A (call (.builtin id) ca []) (End w b κ Fs O s RV Q) E s := by
  cases ofString_inj e
  obtain ⟨v, cv, h, rfl, rv, rfl⟩ := one_some h ra
  obtain ⟨u, h2, rfl⟩ := map_some h
  exact len_sound h2 R rv q
theorem b_sum {id : String} {a : List V} {r : V × Objs} {ca : List Value} (e : (Str.ofString id == ("sum" : Str)) = true) (h : bSum a O = some r) (ok : Ok A 1) (R : RelW w κ Fs O s.heap) (ra : RVs s.heap κ a ca) (q : Q r.1 r.2) : wpAny (MW w) A (call (.builtin id) ca []) (End w b κ Fs O s RV Q) E s := by
  cases ofString_inj e
  obtain ⟨v, cv, h, rfl, rv, rfl⟩ := one_some h ra
  obtain ⟨l, h1, h⟩ := bind_some h
  obtain ⟨is, h2, h⟩ := bind_some h
  obtain ⟨hc, h⟩ := ite_some h
  cases h
  exact sum_sound ok.hd h1 h2 (and_bool (and_bool hc).1).1 (of_decide_eq_true (and_bool (and_bool hc).1).2) R rv q
theorem b_iter {id : String} {a : List V} {r : V × Objs} {ca : List Value} (e : (Str.ofString id == ("iter" : Str)) = true) (h : bIter a O = some r) (ok : Ok A 1) (R : RelW w κ Fs O s.heap) (ra : RVs s.heap κ a ca) (q : Q r.1 r.2) : wpAny (MW w) A (call (.builtin id) ca []) (End w b κ Fs O s RV Q) E s := by
  cases ofString_inj e
  obtain ⟨v, cv, h, rfl, rv, rfl⟩ := one_some h ra
  cases v with
  | lst l => cases h; exact iter_sound R rv q
  | _ => exact none_ne h
theorem iterAt_is {n : Nat} {l : List V} (h : iterAt O n = some l) : O[n]? = some (.iter l) := by
  unfold iterAt at h
  cases ho : O[n]? with
  | none => rw [ho] at h; exact none_ne h
  | some o =>
    rw [ho] at h
    cases o with
    | iter l => cases h; rfl
    | _ => exact none_ne h
theorem b_next {id : String} {a : List V} {r : V × Objs} {ca : List Value} (e : (Str.ofString id == ("next" : Str)) = true) (h : bNext a O = some r) (ok : Ok A 1) (R : RelW w κ Fs O s.heap) (ra : RVs s.heap κ a ca) (q : Q r.1 r.2) : wpAny (MW w) A (call (.builtin id) ca []) (End w b κ Fs O s RV Q) E s := by
  cases ofString_inj e
  obtain ⟨v, cv, h, rfl, rv, rfl⟩ := one_some h ra
  cases v with
  | ref n =>
    obtain ⟨l, h1, h⟩ := bind_some h
    cases l with
    | nil => exact none_ne h
    | cons v l => cases h; exact next_sound (iterAt_is h1) R rv q
  | _ => exact none_ne h
theorem b_chr {id : String} {a : List V} {r : V × Objs} {ca : List Value} (e : (Str.ofString id == ("chr" : Str)) = true) (h : bChr a O = some r) (ok : Ok A 1) (R : RelW w κ Fs O s.heap) (ra : RVs s.heap κ a ca) (q : Q r.1 r.2) : wpAny (MW w) A (call (.builtin id) ca []) (End w b κ Fs O s RV Q) E s := by
  cases ofString_inj e
  obtain ⟨v, cv, h, rfl, rv, rfl⟩ := one_some h ra
  obtain ⟨i, t, h, rfl⟩ := asInt_some h rv
  exact chr_sound h R q
theorem b_ord {id : String} {a : List V} {r : V × Objs} {ca : List Value} (e : (Str.ofString id == ("ord" : Str)) = true) (h : bOrd a O = some r) (ok : Ok A 1) (R : RelW w κ Fs O s.heap) (ra : RVs s.heap κ a ca) (q : Q r.1 r.2) : wpAny (MW w) A (call (.builtin id) ca []) (End w b κ Fs O s RV Q) E s := by
  cases ofString_inj e
  obtain ⟨v, cv, h, rfl, rv, rfl⟩ := one_some h ra
  obtain ⟨i, t, h, rfl⟩ := asStr_some h rv
  match i, h with
  | [c], h => cases h; exact P.ord_of_char (End.tok R q ⟨_, rfl⟩)
theorem b_hex {id : String} {a : List V} {r : V × Objs} {ca : List Value} (e : (Str.ofString id == ("hex" : Str)) = true) (h : bHex a O = some r) (ok : Ok A 1) (R : RelW w κ Fs O s.heap) (ra : RVs s.heap κ a ca) (q : Q r.1 r.2) : wpAny (MW w) A (call (.builtin id) ca []) (End w b κ Fs O s RV Q) E s := by
  cases ofString_inj e
  obtain ⟨v, cv, h, rfl, rv, rfl⟩ := one_some h ra
  obtain ⟨i, t, h, rfl⟩ := asInt_some h rv
  exact hex_sound h R q
theorem b_abs {id : String} {a : List V} {r : V × Objs} {ca : List Value} (e : (Str.ofString id == ("abs" : Str)) = true) (h : bAbs a O = some r) (ok : Ok A 1) (R : RelW w κ Fs O s.heap) (ra : RVs s.heap κ a ca) (q : Q r.1 r.2) : wpAny (MW w) A (call (.builtin id) ca []) (End w b κ Fs O s RV Q) E s := by
  cases ofString_inj e
  obtain ⟨v, cv, h, rfl, rv, rfl⟩ := one_some h ra
  obtain ⟨i, t, h, rfl⟩ := asInt_some h rv
  exact abs_sound h R q
theorem minV_is (h : Heap) (κ : Pl) (x y : Int) (t t' : Tok) : RV h κ (.int (minV x y)) (if y < x then .int y t' else .int x t) := by
  unfold minV
  split
  · exact ⟨_, rfl⟩
  · exact ⟨_, rfl⟩
theorem b_min {id : String} {a : List V} {r : V × Objs} {ca : List Value} (e : (Str.ofString id == ("min" : Str)) = true) (h : bMin a O = some r) (ok : Ok A 1) (R : RelW w κ Fs O s.heap) (ra : RVs s.heap κ a ca) (q : Q r.1 r.2) : wpAny (MW w) A (call (.builtin id) ca []) (End w b κ Fs O s RV Q) E s := by
  cases ofString_inj e
  obtain ⟨u, v, cu, cv, h, rfl, ru, rv⟩ := two_some h ra
  obtain ⟨x, t, h, rfl⟩ := asInt_some h ru
  obtain ⟨y, t', h, rfl⟩ := asInt_some h rv
  cases h
  exact min_two_ints ok.hd fun h' tk k => .mk q (Go.grow R k ⟨rfl, rfl, rfl⟩) (minV_is _ _ _ _ _ _)
theorem b_sorted {id : String} {a : List V} {r : V × Objs} {ca : List Value} (e : (Str.ofString id == ("sorted" : Str)) = true) (h : bSorted a O = some r) (ok : Ok A 1) (R : RelW w κ Fs O s.heap) (ra : RVs s.heap κ a ca) (q : Q r.1 r.2) : wpAny (MW w) A (call (.builtin id) ca []) (End w b κ Fs O s RV Q) E s := by
  cases ofString_inj e
  obtain ⟨v, cv, h, rfl, rv, rfl⟩ := one_some h ra
  obtain ⟨l, h1, h⟩ := bind_some h
  obtain ⟨hc, h⟩ := ite_some h
  obtain ⟨r, h2, h⟩ := map_some h
  cases h
  exact sorted_sound h1 (dec_and hc).1 (dec_and hc).2 h2 R rv q
theorem bi_sound {id : String} {a : List V} {r : V × Objs} {ca : List Value} (h : callB (Str.ofString id) a b O = some r) (ok : Ok A 1) (R : RelW w κ Fs O s.heap) (ra : RVs s.heap κ a ca) (q : Q r.1 r.2) : wpAny (MW w) A (call (.builtin id) ca []) (End w b κ Fs O s RV Q) E s :=
  ite_or h (fun e h => b_len e h ok R ra q) fun h => ite_or h (fun e h => b_sum e h ok R ra q) fun h => ite_or h (fun e h => b_iter e h ok R ra q) fun h => ite_or h (fun e h => b_next e h ok R ra q) fun h => ite_or h (fun e h => b_chr e h ok R ra q) fun h => ite_or h (fun e h => b_ord e h ok R ra q) fun h => ite_or h (fun e h => b_hex e h ok R ra q) fun h => ite_or h (fun e h => b_abs e h ok R ra q) fun h => ite_or h (fun e h => b_min e h ok R ra q) fun h => b_sorted (ite_some h).1 (ite_some h).2 ok R ra q
theorem ty_sound {id : String} {a : List V} {r : V × Objs} {ca : List Value} (h : callY (Str.ofString id) a b O = some r) (ok : Ok A 1) (R : RelW w κ Fs O s.heap) (ra : RVs s.heap κ a ca) (q : Q r.1 r.2) : wpAny (MW w) A (call (.type id) ca []) (End w b κ Fs O s RV Q) E s := by
  unfold callY at h
  rcases ite_either h with ⟨hid, h⟩ | h
  · cases ofString_inj hid
    cases a with
    | nil => exact none_ne h
    | cons x a =>
      obtain ⟨cx, ca, rfl, rx, ra⟩ := ra
      cases a with
      | nil =>
        cases ra
        obtain ⟨i, t, h, rfl⟩ := asInt_some h rx
        obtain ⟨hc, h⟩ := ite_some h
        cases h
        exact call_range_1 (rng_made R q)
      | cons y a =>
        obtain ⟨cy, ca, rfl, ry, ra⟩ := ra
        cases a with
        | nil =>
          cases ra
          obtain ⟨i, t, h, rfl⟩ := asInt_some h rx
          obtain ⟨j, t', h, rfl⟩ := asInt_some h ry
          obtain ⟨hc, h⟩ := ite_some h
          cases h
          exact call_range_2 (rng_made R q)
        | cons z a =>
          obtain ⟨cz, ca, rfl, rz, ra⟩ := ra
          cases a with
          | nil =>
            cases ra
            obtain ⟨i, t, h, rfl⟩ := asInt_some h rx
            obtain ⟨j, t', h, rfl⟩ := asInt_some h ry
            obtain ⟨k, t'', h, rfl⟩ := asInt_some h rz
            obtain ⟨hc, h⟩ := ite_some h
            cases h
            rcases Bool.or_eq_true_iff.mp (and_bool hc).2 with e | e
            · cases eq_of_beq e; exact call_range_3 (by decide) (rng_made R q) (.inl (noPylong (by decide +kernel)))
            · cases eq_of_beq e; exact call_range_3 (by decide) (rng_made R q) (.inl (noPylong (by decide +kernel)))
          | cons => exact none_ne h
  obtain ⟨hid, h⟩ := ite_some h
  cases ofString_inj hid
  obtain ⟨v, cv, h, rfl, rv, rfl⟩ := one_some h ra
  obtain ⟨l, h1, h⟩ := bind_some h
  obtain ⟨hc, h⟩ := ite_some h
  cases h
  exact list_sound' ok.hd h1 hc R rv q
theorem ite_id {c : Bool} {x : String} {o : Option String} {id : String} (h : (if c = true then some x else o) = some id) : (c = true ∧ id = x) ∨ (c = false ∧ o = some id) := by
  cases c with
  | true => cases h; exact .inl ⟨rfl, rfl⟩
  | false => exact .inr ⟨rfl, h⟩
noncomputable def MSlot (T : MT) (name : Str) (id : String) : Prop := PlainAttrs T.ty ∧ Slot T.ty name id ∧ typeOf (.builtin id) = pure (.type "method_descriptor")
theorem ite_idE {c : Bool} {x : String} {o : Option String} {id : String} {g : Prop} (h : (if c = true then some x else o) = some id) (k1 : c = true → id = x → g) (k2 : o = some id → g) : g := (ite_id h).elim (fun h => k1 h.1 h.2) fun h => k2 h.2
theorem slot_of {T : MT} {name n : Str} {id i : String} (e : (name == n) = true) (ei : id = i) (h : MSlot T n i) : MSlot T name id := by cases eq_of_beq e; cases ei; exact h
theorem slot_sound {T : MT} {name : Str} {id : String} (h : methId name T = some id) : MSlot T name id := by
  cases T with
  | str => exact ite_idE h (fun e i => slot_of e i ⟨F.plainAttrs_str, F.slot_str_split, F.type_str_split⟩) fun h => ite_idE h (fun e i => slot_of e i ⟨F.plainAttrs_str, F.slot_str_join, F.type_str_join⟩) fun h => ite_idE h (fun e i => slot_of e i ⟨F.plainAttrs_str, F.slot_str_startswith, F.type_str_startswith⟩) fun h => ite_idE h (fun e i => slot_of e i ⟨F.plainAttrs_str, F.slot_str_endswith, F.type_str_endswith⟩) fun h => ite_idE h (fun e i => slot_of e i ⟨F.plainAttrs_str, F.slot_str_find, F.type_str_find⟩) fun h => ite_idE h (fun e i => slot_of e i ⟨F.plainAttrs_str, F.slot_str_lower, F.type_str_lower⟩) fun h => nomatch h
  | list => exact ite_idE h (fun e i => slot_of e i ⟨F.plainAttrs_list, F.slot_list_append, F.type_list_append⟩) fun h => ite_idE h (fun e i => slot_of e i ⟨F.plainAttrs_list, F.slot_list_insert, F.type_list_insert⟩) fun h => nomatch h
  | dict => exact ite_idE h (fun e i => slot_of e i ⟨F.plainAttrs_dict, F.slot_dict_get, F.type_dict_get⟩) fun h => nomatch h

theorem ite_both {β : Type} {c : Bool} {x id : String} {o : Option String} {p : Option β} {y : Option β} {r : β} (h : (if c = true then some x else o) = some id) (h' : (if c = true then y else p) = some r) : (id = x ∧ y = some r) ∨ (o = some id ∧ p = some r) := by
  cases c with
  | true => cases h; exact .inl ⟨rfl, h'⟩
  | false => exact .inr ⟨h, h'⟩
theorem ite_bothE {β : Type} {c : Bool} {x id : String} {o : Option String} {p : Option β} {y : Option β} {r : β} {g : Prop} (h : (if c = true then some x else o) = some id) (h' : (if c = true then y else p) = some r) (k1 : id = x → y = some r → g) (k2 : o = some id → p = some r → g) : g := (ite_both h h').elim (fun h => k1 h.1 h.2) fun h => k2 h.1 h.2
theorem ms_split {id : String} {x : List Nat} {t : Tok} {a : List V} {r : V × Objs} {ca : List Value} (e : id = "str.split") (h : mSplit x a O = some r) (R : RelW w κ Fs O s.heap) (ra : RVs s.heap κ a ca) (q : Q r.1 r.2) : wpAny (MW w) A (call (.builtin id) (.str (S x) t :: ca) []) (End w b κ Fs O s RV Q) E s := by
  subst e
  cases a with
  | nil =>
    cases ra
    obtain ⟨hc, h⟩ := ite_some h
    cases h
    exact split_space_sound (and_bool hc).1 (and_bool hc).2 R ⟨t, rfl⟩ q
  | cons v a =>
    cases a with
    | cons => exact none_ne h
    | nil =>
      obtain ⟨cv, rfl, rv⟩ := RVs_one ra
      obtain ⟨y, u, h, rfl⟩ := asStr_some h rv
      obtain ⟨hc, h⟩ := ite_some h
      cases h
      exact split_sep_sound (and_bool (and_bool hc).1).1 (and_bool (and_bool hc).1).2 (and_bool hc).2 R q
theorem ms_join {id : String} {x : List Nat} {t : Tok} {a : List V} {r : V × Objs} {ca : List Value} (e : id = "str.join") (h : mJoin x a O = some r) (R : RelW w κ Fs O s.heap) (ra : RVs s.heap κ a ca) (q : Q r.1 r.2) : wpAny (MW w) A (call (.builtin id) (.str (S x) t :: ca) []) (End w b κ Fs O s RV Q) E s := by
  subst e
  obtain ⟨v, cv, h, rfl, rv, rfl⟩ := one_some h ra
  obtain ⟨l, h1, h⟩ := bind_some h
  obtain ⟨ts, h2, h⟩ := bind_some h
  obtain ⟨hc, h⟩ := ite_some h
  cases h
  exact join_sound h1 h2 hc R rv q
theorem ms_starts {id : String} {x : List Nat} {t : Tok} {a : List V} {r : V × Objs} {ca : List Value} (e : id = "str.startswith") (h : mStarts x a O = some r) (R : RelW w κ Fs O s.heap) (ra : RVs s.heap κ a ca) (q : Q r.1 r.2) : wpAny (MW w) A (call (.builtin id) (.str (S x) t :: ca) []) (End w b κ Fs O s RV Q) E s := by
  subst e
  obtain ⟨v, cv, h, rfl, rv, rfl⟩ := one_some h ra
  obtain ⟨y, u, h, rfl⟩ := asStr_some h rv
  cases h
  exact SC.startswith (End.here R q rfl)
theorem ms_ends {id : String} {x : List Nat} {t : Tok} {a : List V} {r : V × Objs} {ca : List Value} (e : id = "str.endswith") (h : mEnds x a O = some r) (R : RelW w κ Fs O s.heap) (ra : RVs s.heap κ a ca) (q : Q r.1 r.2) : wpAny (MW w) A (call (.builtin id) (.str (S x) t :: ca) []) (End w b κ Fs O s RV Q) E s := by
  subst e
  obtain ⟨v, cv, h, rfl, rv, rfl⟩ := one_some h ra
  obtain ⟨y, u, h, rfl⟩ := asStr_some h rv
  cases h
  exact SC.endswith (End.here R q rfl)
theorem three_some {a : List V} {f : V → V → V → Option (V × Objs)} {r : V × Objs} {h : Heap} {ca : List Value} (e : (match a with | [v, i, j] => f v i j | _ => none) = some r) (ra : RVs h κ a ca) : ∃ u v x cu cv cx, f u v x = some r ∧ ca = [cu, cv, cx] ∧ RV h κ u cu ∧ RV h κ v cv ∧ RV h κ x cx := by
  match a, e with
  | [u, v, x], e =>
    obtain ⟨cu, ca, rfl, ru, cv, ca', rfl, rv, ra⟩ := ra
    obtain ⟨cx, rfl, rx⟩ := RVs_one ra
    exact ⟨u, v, x, cu, cv, cx, e, rfl, ru, rv, rx⟩
theorem ms_find {id : String} {x : List Nat} {t : Tok} {a : List V} {r : V × Objs} {ca : List Value} (e : id = "str.find") (h : mFind x a O = some r) (R : RelW w κ Fs O s.heap) (ra : RVs s.heap κ a ca) (q : Q r.1 r.2) : wpAny (MW w) A (call (.builtin id) (.str (S x) t :: ca) []) (End w b κ Fs O s RV Q) E s := by
  subst e
  obtain ⟨v, i, j, cv, ci, cj, h, rfl, rv, ri, rj⟩ := three_some (f := fun v i j => asStr v fun y => asInt i fun i => asInt j fun j => some (.int (findT x y (clipT x.length i) (min (clipT x.length j) x.length)), O)) h ra
  obtain ⟨y, u, h, rfl⟩ := asStr_some h rv
  obtain ⟨i, t1, h, rfl⟩ := asInt_some h ri
  obtain ⟨j, t2, h, rfl⟩ := asInt_some h rj
  cases h
  exact find4_sound R q
theorem ms_lower {id : String} {x : List Nat} {t : Tok} {a : List V} {r : V × Objs} {ca : List Value} (e : id = "str.lower") (h : mLower x a O = some r) (R : RelW w κ Fs O s.heap) (ra : RVs s.heap κ a ca) (q : Q r.1 r.2) : wpAny (MW w) A (call (.builtin id) (.str (S x) t :: ca) []) (End w b κ Fs O s RV Q) E s := by
  subst e
  cases a with
  | cons => exact none_ne h
  | nil =>
    cases ra
    obtain ⟨hc, h⟩ := ite_some h
    cases h
    exact lower_sound hc R q
theorem methS_sound {name : Str} {x : List Nat} {t : Tok} {a : List V} {r : V × Objs} {id : String} {ca : List Value} (h : methS name x a O = some r) (hi : methId name .str = some id) (R : RelW w κ Fs O s.heap) (ra : RVs s.heap κ a ca) (q : Q r.1 r.2) :
    wpAny (MW w) A (call (.builtin id) (.str (S x) t :: ca) []) (End w b κ Fs O s RV Q) E s :=
  ite_bothE hi h (fun e h => ms_split e h R ra q) fun hi h => ite_bothE hi h (fun e h => ms_join e h R ra q) fun hi h => ite_bothE hi h (fun e h => ms_starts e h R ra q) fun hi h => ite_bothE hi h (fun e h => ms_ends e h R ra q) fun hi h => ite_bothE hi h (fun e h => ms_find e h R ra q) fun hi h => ite_bothE hi h (fun e h => ms_lower e h R ra q) fun hi h => nomatch h
theorem methL_sound {name : Str} {n : Nat} {l a : List V} {r : V × Objs} {id : String} {cx : Value} {ca : List Value} (hs : listAt O n = some l) (h : methL name n l a b O = some r) (hi : methId name .list = some id) (R : RelW w κ Fs O s.heap) (rx : RV s.heap κ (.ref n) cx) (ra : RVs s.heap κ a ca) (q : Q r.1 r.2) :
    wpAny (MW w) A (call (.builtin id) (cx :: ca) []) (End w b κ Fs O s RV Q) E s := by
  unfold methId at hi
  unfold methL at h
  rcases ite_both hi h with ⟨rfl, h⟩ | ⟨hi, h⟩
  · obtain ⟨v, cv, h, rfl, rv, rfl⟩ := one_some h ra
    obtain ⟨hc, h⟩ := ite_some h
    cases h
    exact append_sound' hs (and_bool hc).1 (and_bool hc).2 R rx rv q
  rcases ite_both hi h with ⟨rfl, h⟩ | ⟨hi, h⟩
  · obtain ⟨i, v, ci, cv, h, rfl, ri, rv⟩ := two_some h ra
    obtain ⟨i, t, h, rfl⟩ := asInt_some h ri
    obtain ⟨hc, h⟩ := ite_some h
    cases h
    obtain ⟨hc, h2⟩ := and_bool hc
    obtain ⟨hc, h1⟩ := and_bool hc
    exact insert_sound hs (dec_and hc).1 (dec_and hc).2 h1 h2 R rx rv q
  exact none_ne hi
theorem meth_sound' (T : TabsOk w) {name : Str} {x : V} {a : List V} {r : V × Objs} {Tm : MT} {id : String} {cx : Value} {ca : List Value} (h : methV GG name x a b O = some r) (hT : selfTy GG O1 x = some Tm) (hi : methId name Tm = some id) (R : RelW w κ Fs O s.heap) (rx : RV s.heap κ x cx) (ra : RVs s.heap κ a ca) (q : Q r.1 r.2) :
    wpAny (MW w) A (call (.builtin id) (cx :: ca) []) (End w b κ Fs O s RV Q) E s := by
  cases x with
  | str x => cases hT; obtain ⟨t, rfl⟩ := rx; exact methS_sound h hi R ra q
  | ref n =>
    obtain ⟨_, _, e⟩ := map_some hT
    cases e
    obtain ⟨l, h1, h⟩ := bind_some h
    exact methL_sound h1 h hi R rx ra q
  | cst d =>
    cases d with
    | ref ad =>
      obtain ⟨_, e⟩ := ite_some hT
      cases e; cases rx
      obtain ⟨v, h1, h⟩ := map_some h
      cases h
      unfold methId at hi
      rcases ite_id hi with ⟨e, rfl⟩ | ⟨-, hi⟩
      · cases eq_of_beq e; exact mt_sound T h1 R ra q
      exact none_ne hi
    | _ => exact none_ne h
  | _ => exact none_ne h
theorem all_sound (B : Base w) (S : SetsOk w) (T : TabsOk w) (n : Nat) : Snd w (n + 1) (W GG n) :=
  W_sound B ⟨fun h _ R rx ry q => bin_sound h R rx ry q, fun h _ R rx ry q => inpl_sound h R rx ry q, fun h ok R rx ry q => cmp_sound S h ok R rx ry q, fun h _ R rx ry q => idx_sound h R rx ry q, fun h _ R rx rl rh rs ho ha q => slice_sound h R rx rl rh rs ho q, fun h ok R _ ra q => bi_sound h ok R ra q, fun h ok R _ ra q => ty_sound h ok R ra q⟩
    ⟨slot_sound, fun h hT hi _ R _ rx ra q => meth_sound' T h hT hi R rx ra q, fun ad h => let ⟨l, hl⟩ := Option.isSome_iff_exists.mp h; let ⟨_, f, ⟨o, ces, n, ho, hr⟩, _⟩ := T _ _ hl; ⟨o, ho, hr.1.1, hr.1.2.1⟩⟩
    ⟨fun h _ R rl rk k => del_sound' h R rl rk k⟩ n
end

theorem lf {α : Type} {o : Option α} {Q : α → Prop} {v : α} (h : o = some v) (q : Q v) : (match (generalizing := false) o with | some v => Q v | none => False) := by subst h; exact q
theorem sl {t : Bool} {A B : Prop} (h1 : t = true → A) (h2 : t = false → B) : (match (generalizing := false) t with | true => A | false => B) := by
  cases t
  · exact h2 rfl
  · exact h1 rfl
theorem sd {p : Prop} [Decidable p] {A B : Prop} (h1 : p → A) (h2 : ¬ p → B) : (match (generalizing := false) decide p with | true => A | false => B) := sl (fun h => h1 (of_decide_eq_true h)) fun h => h2 (of_decide_eq_false h)
theorem gd {t : Bool} {A : Prop} (h : t = true) (a : A) : (match (generalizing := false) t with | true => A | false => False) := by subst h; exact a
theorem toC {J : WI} {f : V} {a : List V} {ks : List (Str × V)} {b : Nat} {Q : V → Objs → Prop} {O : Objs} (h : J.c f a ks b Q O) : CALL J f a ks b Q O := ⟨h⟩
theorem toW {J : WI} {t : PySem.Expr} {body : List Stmt} {b : Nat} {Q : Fl → List Fr → Objs → Prop} {F : List Fr} {O : Objs} (h : whileW J t body b Q 300 F O) : WHILE J t body b Q F O := ⟨h⟩
theorem toF {J : WI} {t : PySem.Expr} {body orelse : List Stmt} {b : Nat} {Q : Fl → List Fr → Objs → Prop} {src : Src} {F : List Fr} {O : Objs} (h : forW J t body orelse b Q 300 src F O) : FOR J t body orelse b Q src F O := ⟨h⟩
theorem tk {Q : V → Objs → Prop} {v : V} {O : Objs} (q : Q v O) : Q v (O.take O.length) := (List.take_length (l := O)).symm ▸ q
theorem lenOk_of {n : Nat} (h : n < 1000000) : lenOk n = true := decide_eq_true (Nat.le_of_lt h)
theorem lenOk_3 {n : Nat} (h : n < 300) : lenOk n = true := lenOk_of (Nat.lt_trans h (by decide))
theorem bs {α β : Type} {o : Option α} {v : α} {f : α → Option β} {r : Option β} (h : o = some v) (h2 : f v = r) : o.bind f = r := by subst h; exact h2

theorem len_fit {v : V} {l : List V} {b : Nat} {O : Objs} (h : itemsOf O v = some l) (hs : l.length < 300) : callB (Str.ofString "len") [v] b O = some (.int l.length, O) := by
  have e : callB (Str.ofString "len") [v] b O = (lenV O v).map fun r => (r, O) := by kernel_rfl!
  have e1 : (if lenOk l.length then some (V.int l.length) else none) = some (.int l.length) := if_pos (lenOk_3 hs)
  rw [e]
  cases v with
  | lst l' => cases h; exact congrArg (Option.map fun r => (r, O)) e1
  | ref n => exact congrArg (Option.map fun r => (r, O)) (bs (f := fun l : List V => if lenOk l.length then some (V.int l.length) else none) (show listAt O n = some l from h) e1)
  | _ => cases h
theorem atV_k {l : List V} {k : Nat} {x : V} (hs : l.length < 300) (hk : l[k]? = some x) : atV l (k : Nat) = some x := by
  have hl := (List.getElem?_eq_some_iff.mp hk).1
  have e : seqIndex? (k : Nat) l.length = some k := by
    unfold seqIndex?
    dsimp only
    rw [if_neg (Int.not_lt.mpr (Int.natCast_nonneg k))]
    exact if_pos (Bool.and_eq_true_iff.mpr ⟨decide_eq_true (Int.natCast_nonneg k), decide_eq_true (Int.ofNat_lt.mpr hl)⟩)
  rw [atV, if_pos (show kOk k = true from decide_eq_true (Nat.lt_trans hl (Nat.lt_trans hs (by decide)))), e]
  exact hk
theorem at_fit {v : V} {l : List V} {k : Nat} {x : V} {O : Objs} (h : itemsOf O v = some l) (hs : l.length < 300) (hk : l[k]? = some x) : indexV O v (.int (k : Nat)) = some x := by
  cases v with
  | lst l' => cases h; exact atV_k hs hk
  | ref n => exact bs (f := fun l => atV l (k : Nat)) (show listAt O n = some l from h) (atV_k hs hk)
  | _ => cases h
theorem int_at {l : List V} {ks : List Int} (hl : l = ks.map .int) {k : Nat} (h : k < l.length) : l[k]? = some (.int (ks.getD k 0)) := by
  subst hl
  rw [List.length_map] at h
  rw [List.getElem?_map, List.getElem?_eq_getElem h, List.getD_eq_getElem?_getD, List.getElem?_eq_getElem h]; rfl
structure Half (f g lo hi n : Nat) : Prop where
  m : (lo + hi) / 2 < n
  u1 : hi - ((lo + hi) / 2 + 1) < f
  u2 : hi - ((lo + hi) / 2 + 1) ≤ g
  d1 : (lo + hi) / 2 - lo < f
  d2 : (lo + hi) / 2 - lo ≤ g
  dn : (lo + hi) / 2 ≤ n
theorem mod3 (n : Nat) : n % 3 = 0 ∨ n % 3 = 1 ∨ n % 3 = 2 := (show ∀ r, r < 3 → r = 0 ∨ r = 1 ∨ r = 2 by decide) _ (Nat.mod_lt _ (by decide))
theorem neg_one_add {n : Nat} (h : 0 < n) : -1 + (n : Int) = ((n - 1 : Nat) : Int) := by rw [Int.ofNat_sub (show 1 ≤ n from h), Int.add_comm]; rfl
theorem cmin (a b : Nat) : ((min a b : Nat) : Int) = min (a : Int) b := by
  rcases Nat.le_total a b with h | h
  · rw [Nat.min_eq_left h, Int.min_eq_left (Int.ofNat_le.mpr h)]
  · rw [Nat.min_eq_right h, Int.min_eq_right (Int.ofNat_le.mpr h)]
theorem odd_of {s : Nat} (h : (s : Int) % 2 ≠ 0) : s % 2 = 1 := (Nat.mod_two_eq_zero_or_one s).resolve_left fun e => h (congrArg Int.ofNat e)
theorem even_of {s : Nat} (h : ¬ (s : Int) % 2 ≠ 0) : ¬ s % 2 = 1 := fun e => h fun z => absurd (e.symm.trans (Int.ofNat.inj z)) (by decide)
theorem ltH {x y : Nat} (h : x < y) : (x + y) / 2 < y := by omega
theorem geH {x y : Nat} (h : x < y) : x ≤ (x + y) / 2 := by omega
theorem halfU {x y f : Nat} (h : y - x < f + 1) (l : x < y) : y - ((x + y) / 2 + 1) < f := by omega
theorem halfD {x y f : Nat} (h : y - x < f + 1) (l : x < y) : (x + y) / 2 - x < f := by omega
theorem halve {f g lo hi n : Nat} (h : (lo : Int) < hi) (h1 : hi - lo < f + 1) (h2 : hi - lo ≤ g + 1) (h3 : hi ≤ n) : Half f g lo hi n :=
  have h := Int.ofNat_lt.mp h
  have m := ltH h
  ⟨Nat.lt_of_lt_of_le m h3, halfU h1 h, Nat.le_of_lt_succ (halfU (Nat.lt_succ_of_le h2) h), halfD h1 h, Nat.le_of_lt_succ (halfD (Nat.lt_succ_of_le h2) h), Nat.le_trans (Nat.le_of_lt m) h3⟩
theorem halve0 {lo hi : Nat} (h : (lo : Int) < hi) (h2 : hi - lo ≤ 0) : False := by omega

noncomputable def blR (ks : List Int) (x : Int) : Nat → Nat → Nat → Nat
  | 0, lo, _ => lo
  | n + 1, lo, hi => if lo < hi then (if ks.getD ((lo + hi) / 2) 0 < x then blR ks x n ((lo + hi) / 2 + 1) hi else blR ks x n lo ((lo + hi) / 2)) else lo
noncomputable def biV (a x : V) (lo hi : Nat) (key : V) (mid : Option V) : Vars := [(u "a", some a), (u "x", some x), (u "lo", some (.int lo)), (u "hi", some (.int hi)), (u "key", some key), (u "mid", mid)]
noncomputable def blN : Names := (fScope (stm 7)).names
theorem blR_no {ks : List Int} {x : Int} {g lo hi : Nat} (h : ¬ (lo : Int) < hi) : blR ks x g lo hi = lo := by
  cases g with
  | zero => rfl
  | succ g => exact if_neg fun z => h (Int.ofNat_lt.mpr z)
noncomputable def blW : Stmt := stAt (ifX (stAt (fBody (stm 7)) 2)) 0
theorem bl_w {n b : Nat} {O : Objs} {a : V} {l : List V} {ks : List Int} {x : Int} {Q : Fl → List Fr → Objs → Prop} (hl : l = ks.map .int) (ha : itemsOf O a = some l) (hsm : l.length < 300) (f : Nat) :
    ∀ (g lo hi : Nat) (mid : Option V), hi - lo < f → hi - lo ≤ g → hi ≤ l.length → (∀ m h, Q .next [⟨blN, biV a (.int x) (blR ks x g lo hi) h .none m, false⟩] O) →
      whileW (W G3 (n + 8)) (wT blW) (wB blW) b Q f [⟨blN, biV a (.int x) lo hi .none mid, false⟩] O := by
  induction f with
  | zero => exact fun _ _ _ _ h => absurd h (Nat.not_lt_zero _)
  | succ f ih =>
    intro g lo hi mid h1 h2 h3 q
    refine sd (p := (lo : Int) < hi) (fun h => ?_) fun h => blR_no h ▸ q mid hi
    cases g with
    | zero => exact (halve0 h h2).elim
    | succ g =>
      have H := halve h h1 h2 h3
      have e : blR ks x (g + 1) lo hi = _ := if_pos (Int.ofNat_lt.mp h)
      refine lf (at_fit (k := (lo + hi) / 2) ha hsm (int_at hl H.m)) (sd (p := (ks.getD ((lo + hi) / 2) 0 < x)) (fun h4 => ?_) fun h4 => ?_)
      · exact ih g ((lo + hi) / 2 + 1) hi (some (.int ((lo + hi) / 2 : Nat))) H.u1 H.u2 h3 fun m hh => (if_pos h4 ▸ e) ▸ q m hh
      · exact ih g lo ((lo + hi) / 2) (some (.int ((lo + hi) / 2 : Nat))) H.d1 H.d2 H.dn fun m hh => (if_neg h4 ▸ e) ▸ q m hh
theorem bl_call {n b : Nat} {O : Objs} {a : V} {l : List V} {ks : List Int} {x : Int} {Q : V → Objs → Prop} (hl : l = ks.map .int) (ha : itemsOf O a = some l) (hsm : l.length < 300) (q : Q (.int (blR ks x l.length 0 l.length)) O) :
    CALL (W G3 (n + 20)) (.cst (.ref 57)) [a, .int x] [] b Q O :=
  toC (lf (len_fit ha hsm) (toW (bl_w hl ha hsm 300 l.length 0 l.length none hsm (Nat.le_refl _) (Nat.le_refl _) fun m' h' => tk (Q := Q) q)))
theorem bl_call4 {n b : Nat} {O : Objs} {a : V} {l : List V} {ks : List Int} {x : Int} {Q : V → Objs → Prop} (hl : l = ks.map .int) (ha : itemsOf O a = some l) (hsm : l.length < 300) (q : Q (.int (blR ks x l.length 0 l.length)) O) :
    CALL (W G3 (n + 20)) (.cst (.ref 57)) [a, .int x, .int 0, .none] [] b Q O :=
  toC (lf (len_fit ha hsm) (toW (bl_w hl ha hsm 300 l.length 0 l.length none hsm (Nat.le_refl _) (Nat.le_refl _) fun m' h' => tk (Q := Q) q)))

noncomputable def blKW : Stmt := stAt (ifY (stAt (fBody (stm 7)) 2)) 0
theorem blK_w {n b : Nat} {O : Objs} {a : V} {l : List V} {ks : List Int} {x : Int} {Q : Fl → List Fr → Objs → Prop} {as : Arguments} {bd : PySem.Expr} {sc : Scope} (hK : ∀ i v, l[i]? = some v → ∀ {m c O Q}, Q (.int (ks.getD i 0)) O → CALL (W G3 (m + 8)) (.lam as bd sc) [v] [] c Q O) (ha : itemsOf O a = some l) (hsm : l.length < 300) (f : Nat) :
    ∀ (g lo hi : Nat) (mid : Option V), hi - lo < f → hi - lo ≤ g → hi ≤ l.length → (∀ m h, Q .next [⟨blN, biV a (.int x) (blR ks x g lo hi) h (.lam as bd sc) m, false⟩] O) →
      whileW (W G3 (n + 12)) (wT blKW) (wB blKW) b Q f [⟨blN, biV a (.int x) lo hi (.lam as bd sc) mid, false⟩] O := by
  induction f with
  | zero => exact fun _ _ _ _ h => absurd h (Nat.not_lt_zero _)
  | succ f ih =>
    intro g lo hi mid h1 h2 h3 q
    refine sd (p := (lo : Int) < hi) (fun h => ?_) fun h => blR_no h ▸ q mid hi
    cases g with
    | zero => exact (halve0 h h2).elim
    | succ g =>
      have H := halve h h1 h2 h3
      have e : blR ks x (g + 1) lo hi = _ := if_pos (Int.ofNat_lt.mp h)
      refine lf (at_fit (k := (lo + hi) / 2) ha hsm (List.getElem?_eq_getElem H.m)) (hK _ _ (List.getElem?_eq_getElem H.m) (sd (p := (ks.getD ((lo + hi) / 2) 0 < x)) (fun h4 => ?_) fun h4 => ?_))
      · exact ih g ((lo + hi) / 2 + 1) hi (some (.int ((lo + hi) / 2 : Nat))) H.u1 H.u2 h3 fun m hh => (if_pos h4 ▸ e) ▸ q m hh
      · exact ih g lo ((lo + hi) / 2) (some (.int ((lo + hi) / 2 : Nat))) H.d1 H.d2 H.dn fun m hh => (if_neg h4 ▸ e) ▸ q m hh
theorem blK_call {n b : Nat} {O : Objs} {a : V} {l : List V} {ks : List Int} {x : Int} {Q : V → Objs → Prop} {as : Arguments} {bd : PySem.Expr} {sc : Scope} (hK : ∀ i v, l[i]? = some v → ∀ {m c O Q}, Q (.int (ks.getD i 0)) O → CALL (W G3 (m + 8)) (.lam as bd sc) [v] [] c Q O) (ha : itemsOf O a = some l) (hsm : l.length < 300) (q : Q (.int (blR ks x l.length 0 l.length)) O) :
    CALL (W G3 (n + 20)) (.cst (.ref 57)) [a, .int x] [(u "key", .lam as bd sc)] b Q O :=
  toC (lf (len_fit ha hsm) (toW (blK_w hK ha hsm 300 l.length 0 l.length none hsm (Nat.le_refl _) (Nat.le_refl _) fun m' h' => tk (Q := Q) q)))
theorem blK_call4 {n b : Nat} {O : Objs} {a : V} {l : List V} {ks : List Int} {x : Int} {Q : V → Objs → Prop} {as : Arguments} {bd : PySem.Expr} {sc : Scope} (hK : ∀ i v, l[i]? = some v → ∀ {m c O Q}, Q (.int (ks.getD i 0)) O → CALL (W G3 (m + 8)) (.lam as bd sc) [v] [] c Q O) (ha : itemsOf O a = some l) (hsm : l.length < 300) (q : Q (.int (blR ks x l.length 0 l.length)) O) :
    CALL (W G3 (n + 20)) (.cst (.ref 57)) [a, .int x, .int 0, .none] [(u "key", .lam as bd sc)] b Q O :=
  toC (lf (len_fit ha hsm) (toW (blK_w hK ha hsm 300 l.length 0 l.length none hsm (Nat.le_refl _) (Nat.le_refl _) fun m' h' => tk (Q := Q) q)))

noncomputable def brR (ks : List Int) (x : Int) : Nat → Nat → Nat → Nat
  | 0, lo, _ => lo
  | n + 1, lo, hi => if lo < hi then (if x < ks.getD ((lo + hi) / 2) 0 then brR ks x n lo ((lo + hi) / 2) else brR ks x n ((lo + hi) / 2 + 1) hi) else lo
noncomputable def brN : Names := (fScope (stm 5)).names
theorem brR_no {ks : List Int} {x : Int} {g lo hi : Nat} (h : ¬ (lo : Int) < hi) : brR ks x g lo hi = lo := by
  cases g with
  | zero => rfl
  | succ g => exact if_neg fun z => h (Int.ofNat_lt.mpr z)
noncomputable def brW : Stmt := stAt (ifX (stAt (fBody (stm 5)) 2)) 0
theorem br_w {n b : Nat} {O : Objs} {a : V} {l : List V} {ks : List Int} {x : Int} {Q : Fl → List Fr → Objs → Prop} (hl : l = ks.map .int) (ha : itemsOf O a = some l) (hsm : l.length < 300) (f : Nat) :
    ∀ (g lo hi : Nat) (mid : Option V), hi - lo < f → hi - lo ≤ g → hi ≤ l.length → (∀ m h, Q .next [⟨brN, biV a (.int x) (brR ks x g lo hi) h .none m, false⟩] O) →
      whileW (W G3 (n + 8)) (wT brW) (wB brW) b Q f [⟨brN, biV a (.int x) lo hi .none mid, false⟩] O := by
  induction f with
  | zero => exact fun _ _ _ _ h => absurd h (Nat.not_lt_zero _)
  | succ f ih =>
    intro g lo hi mid h1 h2 h3 q
    refine sd (p := (lo : Int) < hi) (fun h => ?_) fun h => brR_no h ▸ q mid hi
    cases g with
    | zero => exact (halve0 h h2).elim
    | succ g =>
      have H := halve h h1 h2 h3
      have e : brR ks x (g + 1) lo hi = _ := if_pos (Int.ofNat_lt.mp h)
      refine lf (at_fit (k := (lo + hi) / 2) ha hsm (int_at hl H.m)) (sd (p := (x < ks.getD ((lo + hi) / 2) 0)) (fun h4 => ?_) fun h4 => ?_)
      · exact ih g lo ((lo + hi) / 2) (some (.int ((lo + hi) / 2 : Nat))) H.d1 H.d2 H.dn fun m hh => (if_pos h4 ▸ e) ▸ q m hh
      · exact ih g ((lo + hi) / 2 + 1) hi (some (.int ((lo + hi) / 2 : Nat))) H.u1 H.u2 h3 fun m hh => (if_neg h4 ▸ e) ▸ q m hh
theorem br_call {n b : Nat} {O : Objs} {a : V} {l : List V} {ks : List Int} {x : Int} {Q : V → Objs → Prop} (hl : l = ks.map .int) (ha : itemsOf O a = some l) (hsm : l.length < 300) (q : Q (.int (brR ks x l.length 0 l.length)) O) :
    CALL (W G3 (n + 20)) (.cst (.ref 39)) [a, .int x] [] b Q O :=
  toC (lf (len_fit ha hsm) (toW (br_w hl ha hsm 300 l.length 0 l.length none hsm (Nat.le_refl _) (Nat.le_refl _) fun m' h' => tk (Q := Q) q)))
theorem br_call4 {n b : Nat} {O : Objs} {a : V} {l : List V} {ks : List Int} {x : Int} {Q : V → Objs → Prop} (hl : l = ks.map .int) (ha : itemsOf O a = some l) (hsm : l.length < 300) (q : Q (.int (brR ks x l.length 0 l.length)) O) :
    CALL (W G3 (n + 20)) (.cst (.ref 39)) [a, .int x, .int 0, .none] [] b Q O :=
  toC (lf (len_fit ha hsm) (toW (br_w hl ha hsm 300 l.length 0 l.length none hsm (Nat.le_refl _) (Nat.le_refl _) fun m' h' => tk (Q := Q) q)))

noncomputable def brKW : Stmt := stAt (ifY (stAt (fBody (stm 5)) 2)) 0
theorem brK_w {n b : Nat} {O : Objs} {a : V} {l : List V} {ks : List Int} {x : Int} {Q : Fl → List Fr → Objs → Prop} {as : Arguments} {bd : PySem.Expr} {sc : Scope} (hK : ∀ i v, l[i]? = some v → ∀ {m c O Q}, Q (.int (ks.getD i 0)) O → CALL (W G3 (m + 8)) (.lam as bd sc) [v] [] c Q O) (ha : itemsOf O a = some l) (hsm : l.length < 300) (f : Nat) :
    ∀ (g lo hi : Nat) (mid : Option V), hi - lo < f → hi - lo ≤ g → hi ≤ l.length → (∀ m h, Q .next [⟨brN, biV a (.int x) (brR ks x g lo hi) h (.lam as bd sc) m, false⟩] O) →
      whileW (W G3 (n + 12)) (wT brKW) (wB brKW) b Q f [⟨brN, biV a (.int x) lo hi (.lam as bd sc) mid, false⟩] O := by
  induction f with
  | zero => exact fun _ _ _ _ h => absurd h (Nat.not_lt_zero _)
  | succ f ih =>
    intro g lo hi mid h1 h2 h3 q
    refine sd (p := (lo : Int) < hi) (fun h => ?_) fun h => brR_no h ▸ q mid hi
    cases g with
    | zero => exact (halve0 h h2).elim
    | succ g =>
      have H := halve h h1 h2 h3
      have e : brR ks x (g + 1) lo hi = _ := if_pos (Int.ofNat_lt.mp h)
      refine lf (at_fit (k := (lo + hi) / 2) ha hsm (List.getElem?_eq_getElem H.m)) (hK _ _ (List.getElem?_eq_getElem H.m) (sd (p := (x < ks.getD ((lo + hi) / 2) 0)) (fun h4 => ?_) fun h4 => ?_))
      · exact ih g lo ((lo + hi) / 2) (some (.int ((lo + hi) / 2 : Nat))) H.d1 H.d2 H.dn fun m hh => (if_pos h4 ▸ e) ▸ q m hh
      · exact ih g ((lo + hi) / 2 + 1) hi (some (.int ((lo + hi) / 2 : Nat))) H.u1 H.u2 h3 fun m hh => (if_neg h4 ▸ e) ▸ q m hh
theorem brK_call {n b : Nat} {O : Objs} {a : V} {l : List V} {ks : List Int} {x : Int} {Q : V → Objs → Prop} {as : Arguments} {bd : PySem.Expr} {sc : Scope} (hK : ∀ i v, l[i]? = some v → ∀ {m c O Q}, Q (.int (ks.getD i 0)) O → CALL (W G3 (m + 8)) (.lam as bd sc) [v] [] c Q O) (ha : itemsOf O a = some l) (hsm : l.length < 300) (q : Q (.int (brR ks x l.length 0 l.length)) O) :
    CALL (W G3 (n + 20)) (.cst (.ref 39)) [a, .int x] [(u "key", .lam as bd sc)] b Q O :=
  toC (lf (len_fit ha hsm) (toW (brK_w hK ha hsm 300 l.length 0 l.length none hsm (Nat.le_refl _) (Nat.le_refl _) fun m' h' => tk (Q := Q) q)))
theorem brK_call4 {n b : Nat} {O : Objs} {a : V} {l : List V} {ks : List Int} {x : Int} {Q : V → Objs → Prop} {as : Arguments} {bd : PySem.Expr} {sc : Scope} (hK : ∀ i v, l[i]? = some v → ∀ {m c O Q}, Q (.int (ks.getD i 0)) O → CALL (W G3 (m + 8)) (.lam as bd sc) [v] [] c Q O) (ha : itemsOf O a = some l) (hsm : l.length < 300) (q : Q (.int (brR ks x l.length 0 l.length)) O) :
    CALL (W G3 (n + 20)) (.cst (.ref 39)) [a, .int x, .int 0, .none] [(u "key", .lam as bd sc)] b Q O :=
  toC (lf (len_fit ha hsm) (toW (brK_w hK ha hsm 300 l.length 0 l.length none hsm (Nat.le_refl _) (Nat.le_refl _) fun m' h' => tk (Q := Q) q)))

theorem self_l {O : Objs} {k : Nat} {l : List V} {name : Str} {id : String} (h : listAt O k = some l) (hi : methId name .list = some id) : (selfTy G3 O (.ref k)).bind (methId name) = some id := bs (f := methId name) (v := MT.list) (by show (listAt O k).map _ = _; rw [h]; rfl) hi
theorem pure_ok {b k : Nat} {x : V} (h : x.pure = true) : writeOk b k x = true := Bool.or_eq_true_iff.mpr (.inr h)
theorem insert_fit {O : Objs} {k b i : Nat} {l : List V} {x : V} (h : listAt O k = some l) (hi : i ≤ l.length) (hs : l.length < 300) (hv : x.pure = true) : methV G3 (u "insert") (.ref k) [.int (i : Nat), x] b O = some (.none, O.set k (.list (l.take i ++ x :: l.drop i))) :=
  bs (f := fun l => methL (u "insert") k l [.int (i : Nat), x] b O) h (if_pos (Bool.and_eq_true_iff.mpr ⟨Bool.and_eq_true_iff.mpr ⟨Bool.and_eq_true_iff.mpr ⟨decide_eq_true (Int.natCast_nonneg i), decide_eq_true (Int.ofNat_le.mpr hi)⟩, pure_ok hv⟩, lenOk_3 hs⟩))
theorem append_fit {O : Objs} {k b : Nat} {l : List V} {x : V} (h : listAt O k = some l) (hs : l.length < 300) (hv : writeOk b k x = true) : methV G3 (u "append") (.ref k) [x] b O = some (.none, O.set k (.list (l ++ [x]))) :=
  bs (f := fun l => methL (u "append") k l [x] b O) h (if_pos (Bool.and_eq_true_iff.mpr ⟨hv, lenOk_3 hs⟩))
theorem tkS {Q : V → Objs → Prop} {v : V} {O : Objs} {k : Nat} {o : AObj} (q : Q v (O.set k o)) : Q v ((O.set k o).take O.length) := (show (O.set k o).take O.length = O.set k o from List.take_of_length_le (Nat.le_of_eq List.length_set)).symm ▸ q
theorem blR_le (ks : List Int) (x : Int) (n : Nat) : ∀ (lo hi : Nat), lo ≤ hi → blR ks x n lo hi ≤ hi := by
  induction n with
  | zero => exact fun _ _ h => h
  | succ n ih =>
    intro lo hi h
    unfold blR
    split
    · split
      · exact ih _ _ (by omega)
      · exact Nat.le_trans (ih _ _ (by omega)) (by omega)
    · exact h
theorem brR_le (ks : List Int) (x : Int) (n : Nat) : ∀ (lo hi : Nat), lo ≤ hi → brR ks x n lo hi ≤ hi := by
  induction n with
  | zero => exact fun _ _ h => h
  | succ n ih =>
    intro lo hi h
    unfold brR
    split
    · split
      · exact Nat.le_trans (ih _ _ (by omega)) (by omega)
      · exact ih _ _ (by omega)
    · exact h
theorem inl_call {n b k : Nat} {O : Objs} {l : List V} {ks : List Int} {y : Int} {Q : V → Objs → Prop} (hl : l = ks.map .int) (ha : listAt O k = some l) (hsm : l.length < 300) (q : Q .none (O.set k (.list (l.take (blR ks y l.length 0 l.length) ++ .int y :: l.drop (blR ks y l.length 0 l.length))))) :
    CALL (W G3 (n + 30)) (.cst (.ref 48)) [.ref k, .int y] [] b Q O :=
  toC (bl_call4 hl ha hsm (lf (self_l ha rfl) (lf (insert_fit ha (blR_le _ _ _ _ _ (Nat.zero_le _)) hsm rfl) (tkS (Q := Q) q))))
theorem inlK_call {n b k : Nat} {O : Objs} {l : List V} {ks : List Int} {x : V} {y : Int} {Q : V → Objs → Prop} {as : Arguments} {bd : PySem.Expr} {sc : Scope} (hx : ∀ {m c O Q}, Q (.int y) O → CALL (W G3 (m + 8)) (.lam as bd sc) [x] [] c Q O)
    (hK : ∀ i v, l[i]? = some v → ∀ {m c O Q}, Q (.int (ks.getD i 0)) O → CALL (W G3 (m + 8)) (.lam as bd sc) [v] [] c Q O) (ha : listAt O k = some l) (hsm : l.length < 300) (hv : x.pure = true) (q : Q .none (O.set k (.list (l.take (blR ks y l.length 0 l.length) ++ x :: l.drop (blR ks y l.length 0 l.length))))) :
    CALL (W G3 (n + 30)) (.cst (.ref 48)) [.ref k, x] [(u "key", .lam as bd sc)] b Q O :=
  toC (hx (blK_call4 hK ha hsm (lf (self_l ha rfl) (lf (insert_fit ha (blR_le _ _ _ _ _ (Nat.zero_le _)) hsm hv) (tkS (Q := Q) q)))))
theorem inr_call {n b k : Nat} {O : Objs} {l : List V} {ks : List Int} {y : Int} {Q : V → Objs → Prop} (hl : l = ks.map .int) (ha : listAt O k = some l) (hsm : l.length < 300) (q : Q .none (O.set k (.list (l.take (brR ks y l.length 0 l.length) ++ .int y :: l.drop (brR ks y l.length 0 l.length))))) :
    CALL (W G3 (n + 30)) (.cst (.ref 30)) [.ref k, .int y] [] b Q O :=
  toC (br_call4 hl ha hsm (lf (self_l ha rfl) (lf (insert_fit ha (brR_le _ _ _ _ _ (Nat.zero_le _)) hsm rfl) (tkS (Q := Q) q))))
theorem inrK_call {n b k : Nat} {O : Objs} {l : List V} {ks : List Int} {x : V} {y : Int} {Q : V → Objs → Prop} {as : Arguments} {bd : PySem.Expr} {sc : Scope} (hx : ∀ {m c O Q}, Q (.int y) O → CALL (W G3 (m + 8)) (.lam as bd sc) [x] [] c Q O)
    (hK : ∀ i v, l[i]? = some v → ∀ {m c O Q}, Q (.int (ks.getD i 0)) O → CALL (W G3 (m + 8)) (.lam as bd sc) [v] [] c Q O) (ha : listAt O k = some l) (hsm : l.length < 300) (hv : x.pure = true) (q : Q .none (O.set k (.list (l.take (brR ks y l.length 0 l.length) ++ x :: l.drop (brR ks y l.length 0 l.length))))) :
    CALL (W G3 (n + 30)) (.cst (.ref 30)) [.ref k, x] [(u "key", .lam as bd sc)] b Q O :=
  toC (hx (brK_call4 hK ha hsm (lf (self_l ha rfl) (lf (insert_fit ha (brR_le _ _ _ _ _ (Nat.zero_le _)) hsm hv) (tkS (Q := Q) q)))))

noncomputable def vgo (val b : Nat) : List Nat → Option (Nat × List Nat)
  | [] => if b &&& 64 = 0 then some (val, []) else none
  | c :: l => if b &&& 64 = 0 then some (val, c :: l) else if val < 1000000000 then vgo (val * 64 ||| (c &&& 63)) c l else none
noncomputable def varint : List Nat → Option (Nat × List Nat)
  | [] => none
  | b :: l => vgo (b &&& 63) b l
noncomputable def intL (l : List Nat) : List V := l.map fun c => V.int (c : Nat)
theorem iter_at {O : Objs} {k : Nat} {l : List V} (h : O[k]? = some (.iter l)) : iterAt O k = some l := by unfold iterAt; rw [h]
theorem next_fit {O : Objs} {k b : Nat} {v : V} {l : List V} (h : O[k]? = some (.iter (v :: l))) : callB (u "next") [.ref k] b O = some (v, O.set k (.iter l)) := by
  have e : callB (u "next") [.ref k] b O = (iterAt O k).bind fun l => match l with
    | v :: l => some (v, O.set k (.iter l))
    | [] => none := by kernel_rfl!
  exact e.trans (bs (v := v :: l) (iter_at h) rfl)
theorem iter_set {O : Objs} {k : Nat} {o o' : AObj} (h : O[k]? = some o) : (O.set k o')[k]? = some o' := List.getElem?_set_self (List.getElem?_eq_some_iff.mp h).1
theorem shl_fit {v : Nat} {O : Objs} (h : v < 1000000000) : augV O .LShift (.int (v : Nat)) (.int 6) = some (.int ((v * 64 : Nat) : Int)) :=
  if_pos (Bool.and_eq_true_iff.mpr ⟨Bool.and_eq_true_iff.mpr ⟨Bool.and_eq_true_iff.mpr ⟨decide_eq_true (Int.natCast_nonneg v), rfl⟩, rfl⟩, decide_eq_true (Nat.lt_trans h (by decide))⟩)
noncomputable def vaW : Stmt := stAt (fBody (stm 11)) 2
noncomputable def vaN : Names := (fScope (stm 11)).names
noncomputable def vaV (k c val : Nat) : Vars := [(u "iterator", some (.ref k)), (u "b", some (.int c)), (u "val", some (.int val))]
theorem set_self {O : Objs} {j : Nat} {o : AObj} (h : O[j]? = some o) : O.set j o = O := by
  apply List.ext_getElem?
  intro i
  by_cases hij : j = i
  · subst hij; rw [iter_set h, h]
  · rw [List.getElem?_set_ne hij]
theorem nat_ne {n : Nat} (h : ((n : Nat) : Int) ≠ 0) : ¬ n = 0 := fun e => h (congrArg Int.ofNat e)
theorem nat_eq {n : Nat} (h : ¬ ((n : Nat) : Int) ≠ 0) : n = 0 := Int.ofNat.inj (Classical.not_not.mp h)
theorem va_w {k b n : Nat} {Q : Fl → List Fr → Objs → Prop} {r : Nat × List Nat} (l : List Nat) : ∀ (f : Nat) (O : Objs) (val c : Nat), vgo val c l = some r → O[k]? = some (.iter (intL l)) → l.length < f → (∀ c', Q .next [⟨vaN, vaV k c' r.1, false⟩] (O.set k (.iter (intL r.2)))) →
      whileW (W G3 (n + 12)) (wT vaW) (wB vaW) b Q f [⟨vaN, vaV k c val, false⟩] O := by
  induction l with
  | nil =>
    intro f O val c h hk hf q
    cases f with
    | zero => exact absurd hf (Nat.not_lt_zero _)
    | succ f =>
      refine sd (p := ((c &&& 64 : Nat) : Int) ≠ 0) (fun h1 => ?_) fun h1 => ?_
      · cases (if_neg (nat_ne h1)).symm.trans h
      · cases (if_pos (nat_eq h1)).symm.trans h
        exact set_self hk ▸ q c
  | cons d l ih =>
    intro f O val c h hk hf q
    cases f with
    | zero => exact absurd hf (Nat.not_lt_zero _)
    | succ f =>
      refine sd (p := ((c &&& 64 : Nat) : Int) ≠ 0) (fun h1 => ?_) fun h1 => ?_
      · have h := (if_neg (nat_ne h1)).symm.trans h
        by_cases hv : val < 1000000000
        · exact lf (shl_fit hv) (lf (next_fit hk) (ih f _ _ d ((if_pos hv).symm.trans h) (iter_set hk) (Nat.lt_of_succ_lt_succ hf) fun c' => (List.set_set (l := O) _).symm ▸ q c'))
        · cases (if_neg hv).symm.trans h
      · cases (if_pos (nat_eq h1)).symm.trans h
        exact set_self hk ▸ q c
theorem tkSS {Q : V → Objs → Prop} {v : V} {O : Objs} {k : Nat} {o o' : AObj} (q : Q v (O.set k o)) : Q v (((O.set k o').set k o).take O.length) := (List.set_set (l := O) o').symm ▸ tkS q
theorem va_call {n b k : Nat} {O : Objs} {l : List Nat} {r : Nat × List Nat} {Q : V → Objs → Prop} (h : varint l = some r) (hk : O[k]? = some (.iter (intL l))) (hl : l.length < 300) (q : Q (.int (r.1 : Nat)) (O.set k (.iter (intL r.2)))) :
    CALL (W G3 (n + 20)) (.cst (.ref 72)) [.ref k] [] b Q O := by
  cases l with
  | nil => cases h
  | cons c l => exact toC (lf (next_fit hk) (toW (va_w l 300 _ (c &&& 63) c h (iter_set hk) (Nat.lt_of_succ_lt hl) fun c' => tkSS (Q := Q) q)))

noncomputable def b1L : List Int := [173, 847, 6150, 6155, 6156, 6157, 8203, 8204, 8205, 8288, 65279] ++ (List.range 16).map fun (k : Nat) => (65024 : Int) + k
theorem b1_in {c : Nat} (O : Objs) (hc : c < 2000000) : inV G3 O (.int c) (.cst (.ref 80)) = some (b1L.contains (c : Int)) :=
  (show inV G3 O (.int c) (.cst (.ref 80)) = (if 0 ≤ (c : Int) && (c : Int).toNat < 2 ^ 60 then some (b1L.contains (c : Int)) else none) by kernel_rfl!).trans (if_pos (Bool.and_eq_true_iff.mpr ⟨decide_eq_true (Int.natCast_nonneg c), decide_eq_true (Nat.lt_trans hc (by decide))⟩))
theorem b1_call {n b c : Nat} {O : Objs} {Q : V → Objs → Prop} (hc : c < 2000000) (q : Q (.bool (b1L.contains (c : Int))) O) : CALL (W G3 (n + 20)) (.cst (.ref 90)) [.str [c]] [] b Q O :=
  toC (lf (b1_in O hc) (tk (Q := Q) q))
noncomputable def b3L : List (Int × List Nat) := itemsB.map fun p => (p.1.1, p.1.2.cps.toList)
noncomputable def mapB3 (c : Nat) : List Nat := match b3L.lookup (c : Int) with
  | some x => x
  | none => (Txt.lower (S [c])).cps.toList
theorem b3_get {c : Nat} {b : Nat} (O : Objs) (hc : c < 2000000) : methV G3 (u "get") (.cst (.ref 91)) [.int c] b O = some (tGet b3L c .none, O) := by
  have e : methV G3 (u "get") (.cst (.ref 91)) [.int c] b O = (if 0 ≤ (c : Int) && (c : Int).toNat < 2 ^ 60 then some (tGet b3L c .none) else none).map fun v => (v, O) := by kernel_rfl!
  exact e.trans (congrArg (Option.map fun v => (v, O)) (if_pos (Bool.and_eq_true_iff.mpr ⟨decide_eq_true (Int.natCast_nonneg c), decide_eq_true (Nat.lt_trans hc (by decide))⟩)))
theorem b3_call {n b c : Nat} {O : Objs} {Q : V → Objs → Prop} (hc : c < 2000000) (hl : lenOk (Txt.lower (S [c])).length = true) (q : Q (.str (mapB3 c)) O) : CALL (W G3 (n + 20)) (.cst (.ref 136)) [.str [c]] [] b Q O := by
  refine toC (lf (b3_get O hc) ?_)
  unfold tGet
  unfold mapB3 at q
  cases hb : b3L.lookup (c : Int) with
  | some x => rw [hb] at q; exact tk (Q := Q) q
  | none =>
    rw [hb] at q
    refine lf (o := methV G3 (u "lower") (.str [c]) [] O.length O) (v := (.str (Txt.lower (S [c])).cps.toList, O)) (if_pos hl) ?_
    exact tk (Q := Q) q

theorem list_at {O : Objs} {k : Nat} {l : List V} (h : listAt O k = some l) : O[k]? = some (.list l) := by
  unfold listAt at h
  cases ho : O[k]? with
  | none => rw [ho] at h; cases h
  | some o =>
    rw [ho] at h
    cases o with
    | list l' => cases h; rfl
    | _ => cases h
theorem at_list {O : Objs} {k : Nat} {l : List V} (h : O[k]? = some (.list l)) : listAt O k = some l := by unfold listAt; rw [h]
theorem list_set {O : Objs} {k : Nat} {l l' : List V} (h : listAt O k = some l) : listAt (O.set k (.list l')) k = some l' := at_list (iter_set (list_at h))
theorem list_new (O : Objs) (l : List V) : listAt (O ++ [.list l]) O.length = some l := at_list (by rw [List.getElem?_append_right (Nat.le_refl _), Nat.sub_self]; rfl)
theorem low_ok {b k : Nat} {x : V} (h : b ≤ k) : writeOk b k x = true := Bool.or_eq_true_iff.mpr (.inl (decide_eq_true h))
noncomputable def hexT (n : Nat) : List Nat := 48 :: 120 :: (Nat.toDigits 16 n).map Char.toNat
noncomputable def flagL : List (Int × List Nat) := [(1, (u "OPTIMIZED").cps.toList), (2, (u "NEWLOCALS").cps.toList), (4, (u "VARARGS").cps.toList), (8, (u "VARKEYWORDS").cps.toList), (16, (u "NESTED").cps.toList), (32, (u "GENERATOR").cps.toList), (64, (u "NOFREE").cps.toList), (128, (u "COROUTINE").cps.toList), (256, (u "ITERABLE_COROUTINE").cps.toList), (512, (u "ASYNC_GENERATOR").cps.toList)]
noncomputable def nameF (f : Nat) : List Nat := match flagL.lookup (f : Int) with
  | some x => x
  | none => hexT f
noncomputable def pfGo : List Nat → Nat → List (List Nat) → List (List Nat)
  | [], fl, acc => acc ++ [hexT fl]
  | k :: r, fl, acc => if fl &&& 2 ^ k ≠ 0 then (if fl ^^^ 2 ^ k = 0 then acc ++ [nameF (2 ^ k)] else pfGo r (fl ^^^ 2 ^ k) (acc ++ [nameF (2 ^ k)])) else pfGo r fl acc
theorem pow_lt {k m : Nat} (h : k < m) : 2 ^ k < 2 ^ m := Nat.pow_lt_pow_of_lt (by decide) h
theorem hex_fit {f b : Nat} {O : Objs} (h : f < 2 ^ 64) : callB (u "hex") [.int (f : Nat)] b O = some (.str (hexT f), O) :=
  (show callB (u "hex") [.int (f : Nat)] b O = (if 0 ≤ (f : Int) && (f : Int).toNat < 2 ^ 64 then some (V.str (hexT f), O) else none) by kernel_rfl!).trans (if_pos (Bool.and_eq_true_iff.mpr ⟨decide_eq_true (Int.natCast_nonneg f), decide_eq_true h⟩))
theorem flag_get {f b : Nat} {O : Objs} (h : f < 2 ^ 60) : methV G3 (u "get") (.cst (.ref 58)) [.int f, .str (hexT f)] b O = some (.str (nameF f), O) := by
  have e : methV G3 (u "get") (.cst (.ref 58)) [.int f, .str (hexT f)] b O = (if 0 ≤ (f : Int) && (f : Int).toNat < 2 ^ 60 then some (tGet flagL f (.str (hexT f))) else none).map fun v => (v, O) := by kernel_rfl!
  have e2 : tGet flagL f (.str (hexT f)) = .str (nameF f) := by
    unfold tGet nameF
    cases flagL.lookup (f : Int) <;> rfl
  exact e.trans (congrArg (Option.map fun v => (v, O)) ((if_pos (Bool.and_eq_true_iff.mpr ⟨decide_eq_true (Int.natCast_nonneg f), decide_eq_true h⟩)).trans (congrArg some e2)))
theorem shl_one {k : Nat} {O : Objs} (h : k < 32) : binV O .LShift (.int 1) (.int k) = some (.int ((2 ^ k : Nat) : Int)) := by
  have e : binV O .LShift (.int 1) (.int k) = if 0 ≤ (1 : Int) && 0 ≤ (k : Int) && (k : Int) < 64 && intOk 1 then some (.int (1 * 2 ^ k)) else none := by kernel_rfl!
  have e2 : (1 : Int) * 2 ^ k = ((2 ^ k : Nat) : Int) := by rw [Int.one_mul, Int.natCast_pow]; rfl
  exact e.trans ((if_pos (Bool.and_eq_true_iff.mpr ⟨Bool.and_eq_true_iff.mpr ⟨Bool.and_eq_true_iff.mpr ⟨rfl, decide_eq_true (Int.natCast_nonneg k)⟩, decide_eq_true (Int.ofNat_lt.mpr (Nat.lt_trans h (by decide)))⟩, rfl⟩)).trans (congrArg (fun i => some (V.int i)) e2))
noncomputable def pfF : Stmt := stAt (fBody (stm 10)) 1
noncomputable def pfN : Names := (fScope (stm 10)).names
noncomputable def pfV (fl r : Nat) (i g : Option V) : Vars := [(u "flags", some (.int fl)), (u "names", some (.ref r)), (u "i", i), (u "flag", g)]
noncomputable def strL (l : List (List Nat)) : List V := l.map .str
theorem not_bool {c : Bool} (h : (!c) = true) : c = false := by cases c with
  | false => rfl
  | true => cases h
theorem not_boolF {c : Bool} (h : (!c) = false) : c = true := by cases c with
  | false => cases h
  | true => rfl
theorem strL_lt {l : List (List Nat)} {n : Nat} (h : l.length < n) : (strL l).length < n := (List.length_map (as := l) V.str).symm ▸ h
theorem strL_add (l : List (List Nat)) (x : List Nat) : strL l ++ [.str x] = strL (l ++ [x]) := by unfold strL; rw [List.map_append]; rfl
noncomputable def rngL (l : List Nat) : List V := l.map fun (k : Nat) => V.int k
theorem pf_loop {n b r : Nat} {Q : Fl → List Fr → Objs → Prop} (hb : b ≤ r) (ks : List Nat) : ∀ (f fl : Nat) (acc : List (List Nat)) (O : Objs) (i g : Option V), (∀ k ∈ ks, k < 32) → ks.length < f → fl < 2 ^ 36 → acc.length + ks.length < 250 → listAt O r = some (strL acc) →
      (∀ i g fl', Q .next [⟨pfN, pfV fl' r i g, false⟩] (O.set r (.list (strL (pfGo ks fl acc))))) → forW (W G3 (n + 14)) (foT pfF) (foB pfF) (foE pfF) b Q f (.items (rngL ks)) [⟨pfN, pfV fl r i g, false⟩] O := by
  induction ks with
  | nil =>
    intro f fl acc O i g hks hf hfl ha hl q
    cases f with
    | zero => exact absurd hf (Nat.not_lt_zero _)
    | succ f =>
      refine lf (self_l hl rfl) (lf (hex_fit (Nat.lt_trans hfl (by decide))) (lf (append_fit hl (strL_lt (Nat.lt_trans (Nat.lt_of_le_of_lt (Nat.le_add_right _ _) (by with_reducible assumption)) (by decide))) (low_ok hb)) (strL_add acc _ ▸ q i g fl)))
  | cons k ks ih =>
    intro f fl acc O i g hks hf hfl ha hl q
    replace ha : acc.length + (ks.length + 1) < 250 := ha
    cases f with
    | zero => exact absurd hf (Nat.not_lt_zero _)
    | succ f =>
      refine lf (shl_one (hks k (List.mem_cons_self ..))) (sd (p := ((fl &&& 2 ^ k : Nat) : Int) ≠ 0) (fun h1 => ?_) fun h1 => ?_)
      · have hp : 2 ^ k < 2 ^ 32 := pow_lt (hks k (List.mem_cons_self ..))
        refine lf (self_l hl rfl) (lf (hex_fit (Nat.lt_trans hp (by decide))) (lf (flag_get (Nat.lt_trans hp (by decide))) (lf (append_fit hl (strL_lt (Nat.lt_trans (Nat.lt_of_le_of_lt (Nat.le_add_right _ _) (by with_reducible assumption)) (by decide))) (low_ok hb)) ?_)))
        refine sl (t := !decide (((fl ^^^ 2 ^ k : Nat) : Int) ≠ 0)) (fun h2 => ?_) fun h2 => ?_
        · have e : pfGo (k :: ks) fl acc = _ := (if_pos (nat_ne h1)).trans (if_pos (nat_eq (of_decide_eq_false (not_bool h2))))
          exact strL_add acc _ ▸ e ▸ q (some (.int k)) (some (.int (2 ^ k : Nat))) (fl ^^^ 2 ^ k)
        · have e : pfGo (k :: ks) fl acc = _ := (if_pos (nat_ne h1)).trans (if_neg (nat_ne (of_decide_eq_true (not_boolF h2))))
          refine ih f (fl ^^^ 2 ^ k) (acc ++ [nameF (2 ^ k)]) _ (some (.int k)) (some (.int (2 ^ k : Nat))) (fun j hj => hks j (List.mem_cons_of_mem _ hj)) (Nat.lt_of_succ_lt_succ hf) (Nat.xor_lt_two_pow hfl (Nat.lt_trans hp (by decide))) (by rw [List.length_append]; show acc.length + 1 + ks.length < 250; omega) (strL_add acc _ ▸ list_set hl) fun i g fl' => ?_
          rw [List.set_set]
          exact e ▸ q i g fl'
      · exact ih f fl acc O (some (.int k)) (some (.int (2 ^ k : Nat))) (fun j hj => hks j (List.mem_cons_of_mem _ hj)) (Nat.lt_of_succ_lt_succ hf) hfl (by omega) hl fun i g fl' => (if_neg (fun z => h1 (fun e => z (Int.ofNat.inj e))) : pfGo (k :: ks) fl acc = _) ▸ q i g fl'
noncomputable def pfL (fl : Nat) : List (List Nat) := pfGo (List.range 32) fl []
noncomputable def pf (fl : Nat) : List Nat := (Txt.join (S [44, 32]) ((pfL fl).map S)).cps.toList
theorem strsV_strL (l : List (List Nat)) : strsV (strL l) = some l := by
  induction l with
  | nil => rfl
  | cons x l ih => exact congrArg (Option.map (x :: ·)) ih
theorem join_fit {x : List Nat} {v : V} {l : List (List Nat)} {b : Nat} {O : Objs} (h : itemsOf O v = some (strL l)) (hj : JoinOk (S x) (l.map S) = true) : methV G3 (u "join") (.str x) [v] b O = some (.str (Txt.join (S x) (l.map S)).cps.toList, O) :=
  (show methV G3 (u "join") (.str x) [v] b O = mJoin x [v] O by kernel_rfl!).trans (bs (f := fun l => (strsV l).bind fun ts => if JoinOk (S x) (ts.map S) then some (V.str (Txt.join (S x) (ts.map S)).cps.toList, O) else none) h (bs (f := fun ts => if JoinOk (S x) (ts.map S) then some (V.str (Txt.join (S x) (ts.map S)).cps.toList, O) else none) (strsV_strL l) (if_pos hj)))
theorem rsz (a c : Nat) : (Builtin.Range.rangeSize a c 1).toNat = c - a := by
  have e : Builtin.Range.rangeSize a c 1 = if (a : Int) < c then (((c : Int) - a - 1) / 1) + 1 else 0 := by rfl
  rcases Decidable.em ((a : Int) < c) with h | h
  · rw [e, if_pos h, Int.ediv_one, Int.sub_add_cancel, Int.toNat_sub]
  · rw [e, if_neg h]
    exact (Nat.sub_eq_zero_of_le (Int.ofNat_le.mp (Int.not_lt.mp h))).symm
theorem rng_src (n : Nat) : (rangeL 0 n 1).map V.int = rngL (List.range n) := by
  have e : (Builtin.Range.rangeSize 0 n 1).toNat = n := rsz 0 n
  rw [rangeL, e, List.map_map, rngL]
  exact List.map_congr_left fun k _ => congrArg V.int ((congrArg (0 + ·) (Int.mul_one k)).trans (Int.zero_add _))
theorem tkN {Q : V → Objs → Prop} {v : V} {O : Objs} {o o' : AObj} (q : Q v O) : Q v (((O ++ [o]).set O.length o').take O.length) := by
  rw [List.set_append_right _ _ (Nat.le_refl _), List.take_left]; exact q
theorem pf_call {n b fl : Nat} {O : Objs} {Q : V → Objs → Prop} (hfl : fl < 2 ^ 36) (hj : JoinOk (S [44, 32]) ((pfL fl).map S) = true) (q : Q (.str (pf fl)) O) : CALL (W G3 (n + 24)) (.cst (.ref 65)) [.int fl] [] b Q O := by
  have hw := fun Q => pf_loop (n := n + 8) (Q := Q) (Nat.le_refl O.length) (List.range 32) 300 fl [] (O ++ [.list []]) none none (fun k hk => List.mem_range.mp hk) (by decide) hfl (by decide) (list_new O _)
  rw [← rng_src 32] at hw
  exact toC (toF (hw _ fun i g fl' => lf (join_fit (list_set (list_new O [])) hj) (tkN (Q := Q) q)))

noncomputable def commonN (chosen : Nat) : List Nat → Nat → Nat
  | [], told => told
  | row :: rs, told => if row &&& chosen = chosen then commonN chosen rs (told &&& row) else commonN chosen rs told
noncomputable def coF : Stmt := stAt (fBody (stm 20)) 1
noncomputable def coN : Names := (fScope (stm 20)).names
noncomputable def coV (chosen : Nat) (a : V) (told : Nat) (row : Option V) : Vars := [(u "chosen", some (.int chosen)), (u "rows", some a), (u "told", some (.int told)), (u "row", row)]

inductive Thru (O : Objs) : Src → List V → Prop where
  | items (l : List V) : Thru O (.items l) l
  | live {n k : Nat} {l : List V} (h : listAt O n = some l) : Thru O (.live n k) (l.drop k)
theorem Thru.cons {O : Objs} {s : Src} {v : V} {l : List V} (t : Thru O s (v :: l)) : ∃ s', nextOf O s = some (some (v, s')) ∧ Thru O s' l := by
  generalize e : v :: l = l' at t
  cases t with
  | items l' => exact ⟨.items l, by rw [← e]; rfl, .items l⟩
  | @live n k l' h =>
    have h1 : l'[k]? = some v := by
      have := List.getElem?_drop (xs := l') (i := k) (j := 0)
      rw [← e] at this; exact this.symm
    refine ⟨.live n (k + 1), ?_, ?_⟩
    · show (listAt O n).map _ = _
      rw [h, Option.map_some, h1]; rfl
    · have : l = l'.drop (k + 1) := by rw [← List.drop_drop, ← e]; rfl
      exact this ▸ .live h
theorem Thru.nil {O : Objs} {s : Src} (t : Thru O s []) : nextOf O s = some none := by
  generalize e : ([] : List V) = l' at t
  cases t with
  | items l' => rw [← e]; rfl
  | @live n k l' h =>
    show (listAt O n).map _ = _
    rw [h, Option.map_some, List.getElem?_eq_none (List.drop_eq_nil_iff.mp e.symm)]; rfl
theorem src_fit {O : Objs} {a : V} {l : List V} (h : itemsOf O a = some l) : ∃ s, srcOf O a = some s ∧ Thru O s l := by
  cases a with
  | lst l' => cases h; exact ⟨_, rfl, .items _⟩
  | ref n => exact ⟨.live n 0, by show (listAt O n).map _ = _; rw [show listAt O n = some l from h]; rfl, .live (k := 0) h⟩
  | _ => cases h
theorem co_loop {n b chosen : Nat} {a : V} {O : Objs} {Q : Fl → List Fr → Objs → Prop} (rs : List Nat) : ∀ (f told : Nat) (row : Option V) (s : Src), Thru O s (intL rs) → rs.length < f →
      (∀ row, Q .next [⟨coN, coV chosen a (commonN chosen rs told) row, false⟩] O) → forW (W G3 (n + 14)) (foT coF) (foB coF) (foE coF) b Q f s [⟨coN, coV chosen a told row, false⟩] O := by
  induction rs with
  | nil =>
    intro f told row s t hf q
    cases f with
    | zero => exact absurd hf (Nat.not_lt_zero _)
    | succ f => exact lf t.nil (q row)
  | cons r rs ih =>
    intro f told row s t hf q
    cases f with
    | zero => exact absurd hf (Nat.not_lt_zero _)
    | succ f =>
      obtain ⟨s', e, t'⟩ := t.cons
      refine lf e (sd (p := ((r &&& chosen : Nat) : Int) = chosen) (fun h => ?_) fun h => ?_)
      · have e : commonN chosen (r :: rs) told = _ := if_pos (Int.ofNat.inj h)
        exact ih f (told &&& r) _ s' t' (Nat.lt_of_succ_lt_succ hf) fun row => e ▸ q row
      · have e : commonN chosen (r :: rs) told = _ := if_neg fun z => h (congrArg Int.ofNat z)
        exact ih f told _ s' t' (Nat.lt_of_succ_lt_succ hf) fun row => e ▸ q row
theorem co_call {n b chosen : Nat} {O : Objs} {a : V} {rs : List Nat} {Q : V → Objs → Prop} (hF : itemsOf O a = some (intL rs)) (hl : rs.length < 300) (q : Q (.int (commonN chosen rs 15)) O) : CALL (W G3 (n + 20)) (.cst (.ref 153)) [.int chosen, a] [] b Q O := by
  obtain ⟨s, e, t⟩ := src_fit hF
  exact toC (lf e (toF (co_loop (n := n + 4) rs 300 15 none s t hl fun row => tk (Q := Q) q)))

noncomputable def ellF (got : List Nat) : List (List Nat) → Option (Nat × List (List Nat))
  | [] => none
  | w :: r => if w.isEmpty then some (0, w :: r) else if Txt.startswith (S got) (S w) then some (w.length, r) else none
noncomputable def ellB (got : List Nat) (ws : List (List Nat)) : Option (Int × List (List Nat)) := match ws.getLast? with
  | none => none
  | some w => if w.isEmpty then some (got.length, ws) else if Txt.endswith (S got) (S w) then some ((got.length : Int) - w.length, ws.dropLast) else none
noncomputable def ellGo (got : List Nat) (ep : Int) : List (List Nat) → Int → Bool
  | [], _ => true
  | w :: r, sp => if findT got w (clipT got.length sp) (min (clipT got.length ep) got.length) < 0 then false else ellGo got ep r (findT got w (clipT got.length sp) (min (clipT got.length ep) got.length) + w.length)
noncomputable def ellIn (want : List Nat) : Bool := !(Builtin.Str.occurrences (S want) (S [46, 46, 46]) 0 want.length 1).isEmpty
noncomputable def ellW (want : List Nat) : List (List Nat) := (Txt.split (S want) (S [46, 46, 46])).map fun p => p.cps.toList
noncomputable def ellZ (got : List Nat) (ep : Int) (ws : List (List Nat)) (sp : Int) : Bool := if sp > ep then false else ellGo got ep ws sp
noncomputable def ellY (got : List Nat) (sp : Int) (ws : List (List Nat)) : Bool := match ellB got ws with
  | none => false
  | some p => ellZ got p.1 p.2 sp
noncomputable def ellM (want got : List Nat) : Bool := if ellIn want then (match ellF got (ellW want) with
    | none => false
    | some p => ellY got p.1 p.2)
  else decide (want = got)
theorem tr_str {O : Objs} {l : List Nat} (h : l.length < 1000000) : truthV O (.str l) = some (!l.isEmpty) := if_pos (lenOk_of h)
theorem len_str {O : Objs} {l : List Nat} {b : Nat} (h : l.length < 1000000) : callB (u "len") [.str l] b O = some (.int l.length, O) := by
  have e : callB (u "len") [.str l] b O = (if lenOk l.length then some (V.int l.length) else none).map fun r => (r, O) := by kernel_rfl!
  exact e.trans (congrArg (Option.map fun r => (r, O)) (if_pos (lenOk_of h)))
theorem split_fit {x y : List Nat} {b : Nat} {O : Objs} (h : (!y.isEmpty && lenOk x.length && lenOk (Builtin.Str.partsBetween (S x) (Builtin.Str.occurrences (S x) (S y) 0 x.length (x.length + 1)) y.length).length) = true) : methV G3 (u "split") (.str x) [.str y] b O = some (.ref O.length, O ++ [.list (strL ((Txt.split (S x) (S y)).map fun p => p.cps.toList))]) := by
  have e : methV G3 (u "split") (.str x) [.str y] b O = if !y.isEmpty && lenOk x.length && lenOk (Builtin.Str.partsBetween (S x) (Builtin.Str.occurrences (S x) (S y) 0 x.length (x.length + 1)) y.length).length then some (.ref O.length, O ++ [.list ((Txt.split (S x) (S y)).map fun p => .str p.cps.toList)]) else none := by kernel_rfl!
  rw [e, if_pos h, strL, List.map_map]; rfl

theorem set_take {O O1 : Objs} {k r : Nat} {x : AObj} (h : O1.take k = O) (hr : k ≤ r) : (O1.set r x).take k = O := (List.take_set_of_le hr).trans h
theorem new_take {O : Objs} {l : Objs} : (O ++ l).take O.length = O := List.take_left
theorem del0_fit {O : Objs} {r : Nat} {x : List Nat} {L : List (List Nat)} (h : listAt O r = some (strL (x :: L))) (hl : (x :: L).length < 300) : delV O (.ref r) (.int 0) = some (O.set r (.list (strL L))) :=
  bs (f := fun (l : List V) => if lenOk l.length && kOk 0 then (seqIndex? 0 l.length).map fun j => O.set r (.list (l.eraseIdx j)) else none) h (by
    rw [if_pos (show (lenOk (strL (x :: L)).length && kOk 0) = true from Bool.and_eq_true_iff.mpr ⟨lenOk_3 (strL_lt hl), rfl⟩)]
    have e : seqIndex? 0 (strL (x :: L)).length = some 0 := if_pos (Bool.and_eq_true_iff.mpr ⟨rfl, decide_eq_true (by rw [strL, List.length_map]; exact Int.ofNat_lt.mpr (Nat.succ_pos _))⟩)
    rw [e]; rfl)
theorem last_ix {n : Nat} (h : 0 < n) : seqIndex? (-1) n = some (n - 1) := by
  have e : (if (0 : Int) ≤ (-1 + (n : Int)) && decide (-1 + (n : Int) < n) then some (-1 + (n : Int)).toNat else none) = some (n - 1) := by
    rw [neg_one_add h]
    exact if_pos (Bool.and_eq_true_iff.mpr ⟨decide_eq_true (Int.natCast_nonneg _), decide_eq_true (Int.ofNat_lt.mpr (Nat.sub_lt h (by decide)))⟩)
  exact e
theorem last_fit {O : Objs} {r : Nat} {L : List (List Nat)} {x : List Nat} (h : listAt O r = some (strL L)) (e : L.getLast? = some x) : indexV O (.ref r) (.int (-1)) = some (.str x) :=
  bs (f := fun l => atV l (-1)) h (by
    have hl : 0 < (strL L).length := by
      cases L with
      | nil => cases e
      | cons => exact Nat.succ_pos _
    rw [atV, if_pos (by rfl), last_ix hl]
    show (strL L)[_]? = _
    rw [← List.getLast?_eq_getElem?, strL, List.getLast?_map, e]; rfl)
theorem del1_fit {O : Objs} {r : Nat} {x : List Nat} {L : List (List Nat)} (h : listAt O r = some (strL L)) (e : L.getLast? = some x) (hl : L.length < 300) : delV O (.ref r) (.int (-1)) = some (O.set r (.list (strL L.dropLast))) :=
  bs (f := fun (l : List V) => if lenOk l.length && kOk (-1) then (seqIndex? (-1) l.length).map fun j => O.set r (.list (l.eraseIdx j)) else none) h (by
    have h0 : 0 < (strL L).length := by
      cases L with
      | nil => cases e
      | cons => exact Nat.succ_pos _
    rw [if_pos (show (lenOk (strL L).length && kOk (-1)) = true from Bool.and_eq_true_iff.mpr ⟨lenOk_3 (strL_lt hl), rfl⟩), last_ix h0]
    show some (O.set r (.list ((strL L).eraseIdx _))) = _
    rw [List.eraseIdx_length_sub_one, strL, ← List.map_dropLast]; rfl)
noncomputable def elN : Names := (fScope (stm 2)).names
noncomputable def elF : Stmt := stAt (fBody (stm 2)) 9
noncomputable def elV (want got : List Nat) (r : Nat) (sp ep : Int) (w : Option V) : Vars := [(u "want", some (.str want)), (u "got", some (.str got)), (u "ws", some (.ref r)), (u "startpos", some (.int sp)), (u "endpos", some (.int ep)), (u "w", w)]
theorem next_live {O : Objs} {r k : Nat} {l : List V} {v : V} (h : listAt O r = some l) (hk : l[k]? = some v) : nextOf O (.live r k) = some (some (v, .live r (k + 1))) := by
  show (listAt O r).map _ = _
  rw [h, Option.map_some, hk]; rfl
theorem next_end {O : Objs} {r k : Nat} {l : List V} (h : listAt O r = some l) (hk : l[k]? = none) : nextOf O (.live r k) = some none := by
  show (listAt O r).map _ = _
  rw [h, Option.map_some, hk]; rfl
theorem src_live {O : Objs} {r : Nat} {l : List V} (h : listAt O r = some l) : srcOf O (.ref r) = some (.live r 0) := by
  show (listAt O r).map _ = _
  rw [h]; rfl
theorem drop_at {α : Type} {L : List α} {k : Nat} {x : α} {r : List α} (h : L.drop k = x :: r) : L[k]? = some x ∧ L.drop (k + 1) = r := by
  constructor
  · have := List.getElem?_drop (xs := L) (i := k) (j := 0)
    rw [h] at this; exact this.symm
  · rw [← List.drop_drop, h]; rfl
theorem el_loop {n b r : Nat} {want got : List Nat} {O : Objs} {L : List (List Nat)} {ep : Int} {Q : Fl → List Fr → Objs → Prop} (hl : listAt O r = some (strL L)) (hL : ∀ w ∈ L, w.length < 1000000) (rs : List (List Nat)) : ∀ (f k : Nat) (sp : Int) (w : Option V), L.drop k = rs → rs.length < f →
    (ellGo got ep rs sp = true → ∀ sp w, Q .next [⟨elN, elV want got r sp ep w, false⟩] O) → (ellGo got ep rs sp = false → ∀ F, Q (.ret (.bool false)) F O) → forW (W G3 (n + 14)) (foT elF) (foB elF) (foE elF) b Q f (.live r k) [⟨elN, elV want got r sp ep w, false⟩] O := by
  induction rs with
  | nil =>
    intro f k sp w hk hf q1 q2
    cases f with
    | zero => exact absurd hf (Nat.not_lt_zero _)
    | succ f => exact lf (next_end hl (by rw [strL, List.getElem?_map, List.getElem?_eq_none (List.drop_eq_nil_iff.mp hk)]; rfl)) (q1 rfl sp w)
  | cons x rs ih =>
    intro f k sp w hk hf q1 q2
    cases f with
    | zero => exact absurd hf (Nat.not_lt_zero _)
    | succ f =>
      obtain ⟨e1, e2⟩ := drop_at hk
      refine lf (next_live (v := .str x) hl (by rw [strL, List.getElem?_map, e1]; rfl)) ?_
      refine ((sd (p := findT got x (clipT got.length sp) (min (clipT got.length ep) got.length) < 0) (fun h => ?_) fun h => ?_))
      · exact q2 (if_pos h) _
      · refine lf (len_str (hL x (List.mem_of_getElem? e1))) (ih f (k + 1) _ _ e2 (Nat.lt_of_succ_lt_succ hf) (fun h2 => q1 ((if_neg h : ellGo got ep (x :: rs) sp = _).trans h2)) fun h2 => q2 ((if_neg h : ellGo got ep (x :: rs) sp = _).trans h2))
theorem bq {Q : V → Objs → Prop} {c d : Bool} {O O1 : Objs} {k : Nat} (e : c = d) (hT : O1.take k = O) (q : Q (.bool c) O) : Q (.bool d) (O1.take k) := by subst e; subst hT; exact q
theorem xn {J : WI} {F : List Fr} {b : Nat} {Q : Fl → List Fr → Objs → Prop} {O : Objs} (h : Q .next F O) : xs J [] F b Q O := h
theorem el_p3 {n b r k : Nat} {want got : List Nat} {O O1 : Objs} {L : List (List Nat)} {sp ep : Int} {w : Option V} {Q : V → Objs → Prop} (hl : listAt O1 r = some (strL L)) (hL : ∀ w ∈ L, w.length < 1000000) (hs : L.length < 300) (hT : O1.take k = O) (q : Q (.bool (ellZ got ep L sp)) O) :
    xs (W G3 (n + 16)) ((fBody (stm 2)).drop 8) [⟨elN, elV want got r sp ep w, false⟩] b (fun f _ O1 => match f with
      | .ret v => Lf (leave k v O1) fun r => Q r (O1.take k)
      | .next => Q .none (O1.take k)
      | _ => False) O1 := by
  refine sd (p := sp > ep) (fun h => ?_) fun h => ?_
  · have e : ellZ got ep L sp = false := if_pos h
    exact bq e hT q
  · have e : ellZ got ep L sp = ellGo got ep L sp := if_neg h
    refine lf (src_live hl) (toF (el_loop hl hL L 300 0 sp w rfl hs (fun h2 _ _ => ?_) fun h2 _ => ?_))
    · exact bq (e.trans h2) hT q
    · exact bq (e.trans h2) hT q
theorem el_p2 {n b r k : Nat} {want got : List Nat} {O O1 : Objs} {L : List (List Nat)} {sp : Int} {w : Option V} {Q : V → Objs → Prop} (hl : listAt O1 r = some (strL L)) (hL : ∀ w ∈ L, w.length < 1000000) (hs : L.length < 300) (hn : L ≠ []) (hT : O1.take k = O) (hr : k ≤ r) (q : Q (.bool (ellY got sp L)) O) :
    xs (W G3 (n + 18)) ((fBody (stm 2)).drop 6) [⟨elN, elV want got r sp got.length w, false⟩] b (fun f _ O1 => match f with
      | .ret v => Lf (leave k v O1) fun r => Q r (O1.take k)
      | .next => Q .none (O1.take k)
      | _ => False) O1 := by
  have hx : ∃ x, L.getLast? = some x := ⟨_, List.getLast?_eq_some_getLast hn⟩
  obtain ⟨x, hx⟩ := hx
  have hm := hL x (List.mem_of_getLast? hx)
  unfold ellY ellB at q
  rw [hx] at q
  refine lf (last_fit hl hx) (lf (tr_str hm) (sl (t := !x.isEmpty) (fun h => ?_) fun h => ?_))
  · dsimp only at q
    rw [if_neg (by rw [not_bool h]; decide)] at q
    refine (sl (t := Txt.endswith (S got) (S x)) (fun h2 => ?_) fun h2 => ?_)
    · rw [if_pos h2] at q
      exact lf (len_str hm) (lf (del1_fit hl hx hs) (xn (xn (el_p3 (n := n + 2) (list_set hl) (fun w hw => hL w (List.dropLast_subset L hw)) (Nat.lt_of_le_of_lt (by rw [List.length_dropLast]; exact Nat.sub_le _ _) hs) (set_take hT hr) q))))
    · rw [if_neg (by rw [h2]; decide)] at q
      exact bq rfl hT q
  · dsimp only at q
    rw [if_pos (not_boolF h)] at q
    exact xn (el_p3 (n := n + 2) hl hL hs hT q)
theorem el_call {n b : Nat} {O : Objs} {want got : List Nat} {Q : V → Objs → Prop} (hw : want.length < 1000) (hg : got.length < 1000)
    (hin : ellIn want = true → (2 ≤ (ellW want).length ∧ (ellW want).length < 300) ∧ (∀ w ∈ ellW want, w.length < 1000000) ∧ (Builtin.Str.partsBetween (S want) (Builtin.Str.occurrences (S want) (S [46, 46, 46]) 0 want.length (want.length + 1)) 3).length ≤ 1000000) (q : Q (.bool (ellM want got)) O) :
    CALL (W G3 (n + 20)) (.cst (.ref 21)) [.str want, .str got] [] b Q O := by
  refine toC (sl (t := !ellIn want) (fun h => ?_) fun h => ?_)
  · rw [ellM, if_neg (by rw [not_bool h]; decide)] at q
    exact tk (Q := Q) q
  · have h1 := not_boolF h
    obtain ⟨⟨h2, h3⟩, h4, h5⟩ := hin h1
    rw [ellM, if_pos h1] at q
    have hg1 := Nat.lt_trans hg (show 1000 < 1000000 by decide)
    refine lf (split_fit (Bool.and_eq_true_iff.mpr ⟨Bool.and_eq_true_iff.mpr ⟨rfl, lenOk_of (Nat.lt_trans hw (by decide))⟩, decide_eq_true h5⟩)) ?_
    generalize hW : (Txt.split (S want) (S [46, 46, 46])).map (fun p => p.cps.toList) = W0
    have hW : ellW want = W0 := hW
    rw [hW] at h2 h3 h4 q
    cases W0 with
    | nil => cases h2
    | cons x L =>
      have hm := h4 x (List.mem_cons_self ..)
      refine lf (len_fit (list_new O _) (strL_lt h3)) (gd (decide_eq_true (by rw [strL, List.length_map]; exact Int.ofNat_le.mpr h2)) (lf (len_str hg1) (lf (at_fit (k := 0) (x := .str x) (list_new O _) (strL_lt h3) rfl) (lf (tr_str hm) (sl (t := !x.isEmpty) (fun h6 => ?_) fun h6 => ?_)))))
      · rw [ellF, if_neg (by rw [not_bool h6]; decide)] at q
        refine (sl (t := Txt.startswith (S got) (S x)) (fun h7 => ?_) fun h7 => ?_)
        · rw [if_pos h7] at q
          refine lf (len_str hm) (lf (del0_fit (list_new O _) h3) (xn (xn (el_p2 (list_set (list_new O _)) (fun w hw => h4 w (List.mem_cons_of_mem _ hw)) (Nat.lt_of_succ_lt h3) (fun e => ?_) (set_take new_take (Nat.le_refl _)) (Nat.le_refl _) q))))
          subst e
          cases h2 with | step h2 => cases h2
        · rw [if_neg (by rw [h7]; decide)] at q
          exact bq rfl new_take q
      · rw [ellF, if_pos (not_boolF h6)] at q
        exact xn (el_p2 (list_new O _) h4 h3 (fun e => nomatch e) new_take (Nat.le_refl _) q)
set_option backward.match.sparseCases false
theorem slT {t : Bool} {A B : Prop} (h : t = true) (a : A) : (match (generalizing := false) t with | true => A | false => B) := by subst h; exact a
theorem slF {t : Bool} {A B : Prop} (h : t = false) (a : B) : (match (generalizing := false) t with | true => A | false => B) := by subst h; exact a

theorem orE {t : Bool} {A B C : Prop} (h1 : t = true → A) (h2 : t = false → B) : (match (generalizing := false) !t with | true => B | false => (match (generalizing := false) t with | true => A | false => C)) := by
  cases t
  · exact h2 rfl
  · exact h1 rfl

theorem listAt_app {O X : Objs} {n : Nat} {l : List V} (h : listAt O n = some l) : listAt (O ++ X) n = some l := by
  have e := list_at h
  exact at_list (by rw [List.getElem?_append_left (List.getElem?_eq_some_iff.mp e).1]; exact e)
theorem Thru.cons' {O : Objs} {s : Src} {v : V} {l : List V} (t : Thru O s (v :: l)) : ∃ s', (∀ X, nextOf (O ++ X) s = some (some (v, s'))) ∧ Thru O s' l := by
  generalize e : v :: l = l' at t
  cases t with
  | items l' => exact ⟨.items l, fun _ => by rw [← e]; rfl, .items l⟩
  | @live n k l' h =>
    obtain ⟨e1, e2⟩ := drop_at e.symm
    exact ⟨.live n (k + 1), fun _ => next_live (listAt_app h) e1, e2 ▸ .live h⟩
theorem Thru.nil' {O X : Objs} {s : Src} (t : Thru O s []) : nextOf (O ++ X) s = some none := by
  generalize e : ([] : List V) = l' at t
  cases t with
  | items l' => rw [← e]; rfl
  | @live n k l' h => exact next_end (listAt_app h) (List.getElem?_eq_none (List.drop_eq_nil_iff.mp e.symm))

noncomputable def Turn1 {α : Type} (J : WI) (ifs : List PySem.Expr) (elt : PySem.Expr) (O : Objs) (FR : Option α → List Fr) (p : α → Bool) (g : α → V) (a : α) : Prop :=
  ∀ acc (K1 : V → Objs → Prop) (K2 : Objs → Prop), (p a = true → K1 (g a) (O ++ [.list acc])) → (p a = false → K2 (O ++ [.list acc])) →
    wIfs J ifs (FR (some a)) O.length (fun t O1 => sel t (J.e elt (FR (some a)) O.length K1 O1) (K2 O1)) (O ++ [.list acc])
theorem push_fit {O : Objs} {acc : List V} {v : V} (h : acc.length < 300) : pushAt (O ++ [.list acc]) O.length v = some (O ++ [.list (acc ++ [v])]) := by
  unfold pushAt
  rw [list_new, Option.bind_some, if_pos (lenOk_3 h), List.set_append_right _ _ (Nat.le_refl _), Nat.sub_self]; rfl
theorem comp_go {α : Type} {J : WI} {tgt : PySem.Expr} {ifs : List PySem.Expr} {elt : PySem.Expr} {O : Objs} {FR : Option α → List Fr} {p : α → Bool} {g e : α → V} {Q : Objs → Prop} (set : ∀ t a, setTgt (FR t) tgt (e a) = some (FR (some a))) (l : List α) : ∀ (f : Nat) (t : Option α) (s : Src) (acc : List V),
    (∀ a ∈ l, Turn1 J ifs elt O FR p g a) → Thru O s (l.map e) → l.length < f → acc.length + l.length < 300 → Q (O ++ [.list (acc ++ (l.filter p).map g)]) → compW J tgt ifs elt O.length Q f s (FR t) (O ++ [.list acc]) := by
  induction l with
  | nil =>
    intro f t s acc st h hf ha q
    cases f with
    | zero => exact absurd hf (Nat.not_lt_zero _)
    | succ f => exact lf h.nil' (List.append_nil acc ▸ q)
  | cons a l ih =>
    intro f t s acc st h hf ha q
    replace ha : acc.length + (l.length + 1) < 300 := ha
    cases f with
    | zero => exact absurd hf (Nat.not_lt_zero _)
    | succ f =>
      obtain ⟨s', e1, h''⟩ := h.cons'
      refine lf (e1 _) (lf (set t a) (st a (List.mem_cons_self ..) acc _ _ (fun hp => ?_) fun hp => ?_))
      · refine lf (push_fit (Nat.lt_of_le_of_lt (Nat.le_add_right _ _) (by with_reducible assumption))) (ih f _ _ _ (fun x hx => st x (List.mem_cons_of_mem _ hx)) h'' (Nat.lt_of_succ_lt_succ hf) (by rw [List.length_append]; show acc.length + 1 + l.length < 300; omega) ?_)
        rw [List.filter_cons_of_pos hp, List.map_cons] at q
        rw [List.append_assoc]
        exact q
      · refine ih f _ _ _ (fun x hx => st x (List.mem_cons_of_mem _ hx)) h'' (Nat.lt_of_succ_lt_succ hf) (by omega) ?_
        rw [List.filter_cons_of_neg (by rw [hp]; decide)] at q
        exact q
theorem lc {α : Type} {J : WI} {tgt : PySem.Expr} {ifs : List PySem.Expr} {elt : PySem.Expr} {O : Objs} {s : Src} {Q : V → Objs → Prop} (l : List α) (FR : Option α → List Fr) (p : α → Bool) (g e : α → V) (ts : Thru O s (l.map e)) (set : ∀ t a, setTgt (FR t) tgt (e a) = some (FR (some a)))
    (st : ∀ a ∈ l, Turn1 J ifs elt O FR p g a) (hl : l.length < 300) (hp : pures ((l.filter p).map g) = true) (q : Q (.lst ((l.filter p).map g)) O) : COMP J tgt ifs elt O.length (lcEnd O.length Q) s (FR none) (O ++ [.list []]) := by
  refine ⟨?_⟩
  refine comp_go set l 300 none s [] st ts hl (by rw [List.length_nil, Nat.zero_add]; exact hl) ?_
  refine Lf.of (list_new O _) ?_
  rw [List.nil_append, hp]
  show Q _ ((O ++ [AObj.list _]).take O.length)
  rw [List.take_left]
  exact q
noncomputable def yes {α : Type} (_ : α) : Bool := true
theorem filter_yes {α : Type} (l : List α) : l.filter yes = l := List.filter_eq_self.mpr fun _ _ => rfl

theorem lcm {α : Type} {J : WI} {tgt : PySem.Expr} {ifs : List PySem.Expr} {elt : PySem.Expr} {O : Objs} {s : Src} {Q : V → Objs → Prop} (l : List α) (FR : Option α → List Fr) (g e : α → V) (ts : Thru O s (l.map e)) (set : ∀ t a, setTgt (FR t) tgt (e a) = some (FR (some a)))
    (st : ∀ a ∈ l, Turn1 J ifs elt O FR yes g a) (hl : l.length < 300) (hp : pures (l.map g) = true) (q : Q (.lst (l.map g)) O) : COMP J tgt ifs elt O.length (lcEnd O.length Q) s (FR none) (O ++ [.list []]) :=
  lc l FR yes g e ts set st hl (by rw [filter_yes]; exact hp) (by rw [filter_yes]; exact q)

theorem pow_fit {O : Objs} {d k : Nat} (hd : (((d : Int) == 2 || (d : Int) == 3 || (d : Int) == 4 || (d : Int) == 10 || (d : Int) == 64)) = true) (h : k < 600) : binV O .Pow (.int (d : Nat)) (.int (k : Nat)) = some (.int ((d ^ k : Nat) : Int)) := by
  have e : binV O .Pow (.int (d : Nat)) (.int (k : Nat)) = if ((d : Int) == 2 || (d : Int) == 3 || (d : Int) == 4 || (d : Int) == 10 || (d : Int) == 64) && 0 ≤ (k : Int) && (k : Int) < 600 then some (.int ((d : Int) ^ k)) else none := by kernel_rfl!
  exact e.trans ((if_pos (Bool.and_eq_true_iff.mpr ⟨Bool.and_eq_true_iff.mpr ⟨hd, decide_eq_true (Int.natCast_nonneg k)⟩, decide_eq_true (Int.ofNat_lt.mpr h)⟩)).trans (congrArg (fun i => some (V.int i)) (Int.natCast_pow d k).symm))
theorem intOk_nat {k : Nat} (h : k < 2 ^ 300) : intOk (k : Nat) = true := decide_eq_true (Nat.lt_trans h (Nat.pow_lt_pow_of_lt (by decide) (by decide)))
theorem div_fit {O : Objs} {a d : Nat} (h : 0 < d) (h2 : d < 2 ^ 300) : binV O .FloorDiv (.int (a : Nat)) (.int (d : Nat)) = some (.int ((a / d : Nat) : Int)) := by
  have e : binV O .FloorDiv (.int (a : Nat)) (.int (d : Nat)) = if (d : Int) > 0 && intOk (d : Nat) then some (.int ((a : Int) / (d : Int))) else none := by kernel_rfl!
  exact e.trans (if_pos (Bool.and_eq_true_iff.mpr ⟨decide_eq_true (Int.ofNat_lt.mpr h), intOk_nat h2⟩))
theorem rep_fit {O : Objs} {l : List V} {k : Nat} (h : k < 1000) (hl : l.length * k < 1000000) : binV O .Mult (.lst l) (.int (k : Nat)) = some (.lst (List.replicate k l).flatten) := by
  have e : binV O .Mult (.lst l) (.int (k : Nat)) = if 0 ≤ (k : Int) && (k : Int) < 1000 && lenOk (l.length * k) then some (.lst (List.replicate k l).flatten) else none := by kernel_rfl!
  exact e.trans (if_pos (Bool.and_eq_true_iff.mpr ⟨Bool.and_eq_true_iff.mpr ⟨decide_eq_true (Int.natCast_nonneg k), decide_eq_true (Int.ofNat_lt.mpr h)⟩, lenOk_of hl⟩))
theorem cat_fit {O : Objs} {l r : List V} (hl : l.length + r.length < 1000000) : binV O .Add (.lst l) (.lst r) = some (.lst (l ++ r)) := if_pos (lenOk_of hl)
theorem kq {K : V → Objs → Prop} {O : Objs} {i j : Int} (e : i = j) (k : K (.int j) O) : K (.int i) O := e ▸ k
theorem intL_length (l : List Nat) : (intL l).length = l.length := List.length_map ..
theorem intL_append (l r : List Nat) : intL (l ++ r) = intL l ++ intL r := List.map_append
theorem pures_intL : ∀ l : List Nat, pures (intL l) = true
  | [] => rfl
  | _ :: l => pures_intL l
mutual

noncomputable def flatV : Nat → V → Bool
  | 0, _ => false
  | n + 1, v => match v with
    | .tup l => l.all (flatV n)
    | .lst l => l.all (flatV n)
    | .ref _ => false
    | _ => true
end
theorem mapM_same {α : Type} {f : α → Option α} : ∀ {l : List α}, (∀ v ∈ l, f v = some v) → l.mapM f = some l
  | [], _ => rfl
  | v :: l, h => by
    rw [List.mapM_cons, h v (List.mem_cons_self ..), mapM_same fun x hx => h x (List.mem_cons_of_mem _ hx)]; rfl
theorem freeze_flat {O : Objs} {b : Nat} : ∀ (n : Nat) {v : V}, flatV n v = true → freeze O b n v = some v
  | n + 1, v, h => by
    cases v with
    | tup l => exact (congrArg (Option.map V.tup) (mapM_same fun v hv => freeze_flat n (List.all_eq_true.mp h v hv)))
    | lst l => exact (congrArg (Option.map V.lst) (mapM_same fun v hv => freeze_flat n (List.all_eq_true.mp h v hv)))
    | ref => cases h
    | _ => rfl

theorem lv {O : Objs} {b : Nat} {v : V} (h : flatV 4 v = true) : leave b v O = some v := freeze_flat 4 h
theorem flat_intL {n : Nat} (l : List Nat) : flatV (n + 2) (.lst (intL l)) = true := List.all_eq_true.mpr fun v hv => by
  obtain ⟨c, _, rfl⟩ := List.mem_map.mp hv; rfl

noncomputable def octK (number : Nat) (k : Nat) : Nat := number / 64 ^ k % 64 + if k = 0 then 0 else 64
noncomputable def octC (number : Nat) (k : Nat) : Bool := decide (k = 0) || decide (number ≥ 64 ^ k)
noncomputable def octP (number noughts : Nat) : List Nat := List.replicate noughts 64 ++ ([3, 2, 1, 0].filter (octC number)).map (octK number)
noncomputable def octN (number noughts high : Nat) : List Nat := (octP number noughts).map (· + high)
theorem octP_len (number noughts : Nat) : (octP number noughts).length ≤ noughts + 4 := by
  unfold octP
  rw [List.length_append, List.length_replicate, List.length_map]
  exact Nat.add_le_add_left (List.length_filter_le _ [3, 2, 1, 0]) _
theorem rep64 : ∀ n : Nat, (List.replicate n [V.int 64]).flatten = intL (List.replicate n 64)
  | 0 => rfl
  | n + 1 => by rw [List.replicate_succ, List.replicate_succ, List.flatten_cons, rep64 n]; rfl
noncomputable def FRi (nm : Names) (F : List Fr) (x : String) (t : Option Nat) : List Fr := ⟨nm, [(u ".0", none), (u x, t.map fun (k : Nat) => V.int k)], false⟩ :: F
theorem pures_i {α : Type} (f : α → Int) : ∀ l : List α, pures (l.map fun a => V.int (f a)) = true
  | [] => rfl
  | _ :: l => pures_i f l
theorem oc_call {n b number noughts high : Nat} {O : Objs} {Q : V → Objs → Prop} (h1 : number < 1000000) (h2 : noughts < 100) (h3 : high < 1000000) (q : Q (.lst (intL (octN number noughts high))) O) :
    CALL (W G3 (n + 24)) (.cst (.ref 158)) [.int number, .int noughts, .int high] [] b Q O := by
  have e3 : (([3, 2, 1, 0].filter (octC number)).map fun k => V.int (octK number k : Nat)) = intL (([3, 2, 1, 0].filter (octC number)).map (octK number)) := by unfold intL; rw [List.map_map]; rfl
  have e4 : (List.replicate noughts [V.int 64]).flatten ++ intL (([3, 2, 1, 0].filter (octC number)).map (octK number)) = intL (octP number noughts) := by rw [rep64, ← intL_append]; rfl
  have e6 : ((octP number noughts).map fun c => V.int ((c + high : Nat) : Int)) = intL (octN number noughts high) := by unfold octN intL; rw [List.map_map]; rfl
  have hpl := octP_len number noughts
  refine toC (lf (rep_fit (Nat.lt_trans (by with_reducible assumption) (by decide)) (by simp; exact Nat.lt_trans (by with_reducible assumption) (by decide))) (lc [3, 2, 1, 0] (FRi _ _ "k") (octC number) (fun k => .int (octK number k : Nat)) (fun (k : Nat) => .int k) (.items _) (fun _ _ => rfl) (fun k hk acc K1 K2 k1 k2 => ?_) (by decide) (pures_i _ _) ?_))
  · have hk4 : k < 4 := by
      simp only [List.mem_cons, List.not_mem_nil, or_false] at hk
      omega
    have hp0 : 0 < 64 ^ k := Nat.pow_pos (by decide)
    have hp1 : 64 ^ k < 2 ^ 300 := Nat.lt_of_lt_of_le (Nat.pow_lt_pow_of_lt (by decide) hk4) (by decide)
    by_cases h0 : k = 0
    · subst h0
      exact kq (j := (octK number 0 : Nat)) (by simp [octK]) (k1 rfl)
    · have h0' : ((k : Nat) : Int) ≠ 0 := fun e => h0 (Int.ofNat.inj e)
      have hv : octK number k = number / 64 ^ k % 64 + 64 := by rw [octK, if_neg h0]
      refine slT (t := !decide ((k : Int) = 0)) (by rw [decide_eq_false h0']; rfl) (lf (pow_fit rfl (Nat.lt_trans (by with_reducible assumption) (by decide))) (orE (t := decide ((number : Int) ≥ (64 ^ k : Nat))) (fun h => ?_) fun h => ?_))
      · refine lf (pow_fit rfl (Nat.lt_trans (by with_reducible assumption) (by decide))) (lf (div_fit hp0 hp1) (slT (t := decide ((k : Int) ≠ 0)) (decide_eq_true h0') ?_))
        exact kq (j := (octK number k : Nat)) (congrArg Nat.cast hv.symm) (k1 (Bool.or_eq_true_iff.mpr (.inr (decide_eq_true (Int.ofNat_le.mp (of_decide_eq_true h))))))
      · exact k2 (Bool.or_eq_false_iff.mpr ⟨decide_eq_false h0, decide_eq_false fun z => of_decide_eq_false h (Int.ofNat_le.mpr z)⟩)
  · rw [e3]
    refine lf (cat_fit (by rw [← List.length_append, e4, intL_length]; omega)) ?_
    rw [e4]
    refine lcm (octP number noughts) (FRi _ _ "octet") (fun c => .int ((c + high : Nat) : Int)) (fun (c : Nat) => .int c) (.items _) (fun _ _ => rfl) (fun c hc acc K1 K2 k1 k2 => k1 rfl) (by omega) (pures_i _ _) ?_
    rw [e6]
    exact lf (lv (flat_intL (n := 2) _)) (tk (Q := Q) q)
set_option backward.match.sparseCases true

theorem picked_run {α : Type} (l : List α) (a c : Nat) : picked l (sliceRange a c 1) = (l.drop a).take (c - a) := by
  rw [sliceRange_one]
  exact (congrArg (fun f => ((List.range (c - a)).map (a + ·)).filterMap f) (funext fun i => (List.getElem?_toArray ..).symm)).trans (pick_run l.toArray a (c - a))
theorem clip_in {n p : Nat} {d : Int} (h : p ≤ n) : clipV n 1 (some (p : Int)) d = p := by
  have e : clipV n 1 (some (p : Int)) d = max 0 (min (if (p : Int) < 0 then (p : Int) + n else p) n) := by kernel_rfl!
  rw [e, if_neg (Int.not_lt.mpr (Int.natCast_nonneg p)), Int.min_eq_left (Int.ofNat_le.mpr h), Int.max_eq_right (Int.natCast_nonneg p)]
theorem sl_from {n p : Nat} (h : p ≤ n) : sliceIdx (some (p : Int)) none none n = some (sliceRange p n 1) := congrArg (fun i => some (sliceRange i n 1)) (clip_in h)
theorem sl_to {n p : Nat} (h : p ≤ n) : sliceIdx none (some (p : Int)) none n = some (sliceRange (0 : Nat) p 1) := congrArg (fun i => some (sliceRange (0 : Nat) i 1)) (clip_in h)
theorem sl_fit {v lo hi : V} {l : List V} {a c : Option Int} {is : List Nat} {O : Objs} (h : itemsOf O v = some l) (hs : l.length < 300) (h1 : optInt lo = some a) (h2 : optInt hi = some c) (h3 : sliceIdx a c none l.length = some is) : sliceV O v lo hi .none = some (.lst (picked l is)) := by
  have e : (if lenOk l.length then (sliceIdx a c none l.length).map fun is => V.lst (picked l is) else none) = some (.lst (picked l is)) := by rw [if_pos (lenOk_3 hs), h3]; rfl
  refine bs h1 (bs h2 ?_)
  cases v with
  | lst l' => cases h; exact e
  | ref n => exact bs (f := fun l : List V => if lenOk l.length then (sliceIdx a c none l.length).map fun is => V.lst (picked l is) else none) (show listAt O n = some l from h) e
  | _ => cases h
theorem from_fit {v : V} {l : List V} {p : Nat} {O : Objs} (h : itemsOf O v = some l) (hs : l.length < 300) (hp : p ≤ l.length) : sliceV O v (.int (p : Nat)) .none .none = some (.lst (l.drop p)) := by
  have e := sl_fit (lo := .int (p : Nat)) (hi := .none) h hs rfl rfl (sl_from hp)
  rwa [picked_run, List.take_of_length_le (Nat.le_of_eq List.length_drop)] at e
theorem to_fit {v : V} {l : List V} {p : Nat} {O : Objs} (h : itemsOf O v = some l) (hs : l.length < 300) (hp : p ≤ l.length) : sliceV O v .none (.int (p : Nat)) .none = some (.lst (l.take p)) := by
  have e := sl_fit (lo := .none) (hi := .int (p : Nat)) h hs rfl rfl (sl_to hp)
  rwa [picked_run, List.drop_zero, Nat.sub_zero] at e
theorem an1 {t : Bool} {A B C : Prop} (h1 : t = true → C) (h2 : t = false → B) : (match (generalizing := false) t with | true => C | false => (match (generalizing := false) t with | true => A | false => B)) := by
  cases t
  · exact h2 rfl
  · exact h1 rfl
noncomputable def key0A (p : Pos) : Arguments := ⟨[], [⟨u "one", none, p⟩], none, [], [], none, []⟩
noncomputable def key0B (k : Nat) (p1 p2 p3 : Pos) : PySem.Expr := .Subscript (.Name (u "one") p1) (.Constant (.int 0) k p2) p3
noncomputable def key0S : Scope := { kind := .function, names := [(u "one", .local)], isGenerator := false, isCoroutine := false }
theorem key0 {m c k : Nat} {pa p1 p2 p3 : Pos} {i : Int} {v : V} {O : Objs} {Q : V → Objs → Prop} (q : Q (.int i) O) : CALL (W G3 (m + 8)) (.lam (key0A pa) (key0B k p1 p2 p3) key0S) [.tup [.int i, v]] [] c Q O := toC (tk (Q := Q) q)

noncomputable def pairL {α : Type} (f : α → Nat) (g : α → V) (l : List α) : List V := l.map fun a => .tup [.int (f a), g a]
noncomputable def keysL {α : Type} (f : α → Nat) (l : List α) : List Int := l.map fun a => (f a : Int)
theorem keyP {α : Type} {f : α → Nat} {g : α → V} {l : List α} {k : Nat} {pa p1 p2 p3 : Pos} : ∀ i v, (pairL f g l)[i]? = some v → ∀ {m c O Q}, Q (.int ((keysL f l).getD i 0)) O → CALL (W G3 (m + 8)) (.lam (key0A pa) (key0B k p1 p2 p3) key0S) [v] [] c Q O := by
  intro i v h m c O Q q
  unfold pairL at h
  unfold keysL at q
  rw [List.getD_eq_getElem?_getD, List.getElem?_map] at q
  rw [List.getElem?_map] at h
  cases hl : l[i]? with
  | none => rw [hl] at h; cases h
  | some a =>
    rw [hl] at h q
    cases h
    exact key0 q
theorem pairL_len {α : Type} {f : α → Nat} {g : α → V} (l : List α) : (pairL f g l).length = l.length := List.length_map ..
theorem pairL_lt {α : Type} {f : α → Nat} {g : α → V} {l : List α} {n : Nat} (h : l.length < n) : (pairL f g l).length < n := (pairL_len (f := f) (g := g) l).symm ▸ h
theorem pair_from {α : Type} {f : α → Nat} {g : α → V} {v : V} {l : List α} {p : Nat} {O : Objs} (h : itemsOf O v = some (pairL f g l)) (hs : l.length < 300) (hp : p ≤ l.length) : sliceV O v (.int (p : Nat)) .none .none = some (.lst (pairL f g (l.drop p))) := by
  have e := from_fit (p := p) h (pairL_lt hs) (by rw [pairL_len]; exact hp)
  rwa [pairL, ← List.map_drop] at e
theorem pair_to {α : Type} {f : α → Nat} {g : α → V} {v : V} {l : List α} {p : Nat} {O : Objs} (h : itemsOf O v = some (pairL f g l)) (hs : l.length < 300) (hp : p ≤ l.length) : sliceV O v .none (.int (p : Nat)) .none = some (.lst (pairL f g (l.take p))) := by
  have e := to_fit (p := p) h (pairL_lt hs) (by rw [pairL_len]; exact hp)
  rwa [pairL, ← List.map_take] at e
theorem vq {Q : V → Objs → Prop} {v : V} {O O1 : Objs} {k : Nat} (hT : O1.take k = O) (q : Q v O) : Q v (O1.take k) := by subst hT; exact q

noncomputable def wordsF (f : Nat) : List (List Nat) := (Txt.split (S (pf f)) (S [44, 32])).map fun p => p.cps.toList
structure FlagOk (f : Nat) : Prop where
  lt : f < 2 ^ 36
  join : JoinOk (S [44, 32]) ((pfL f).map S) = true
  len : (pf f).length ≤ 1000000
  parts : (Builtin.Str.partsBetween (S (pf f)) (Builtin.Str.occurrences (S (pf f)) (S [44, 32]) 0 (pf f).length ((pf f).length + 1)) 2).length ≤ 1000000
noncomputable def askC (ns : List (List Nat)) (f k : Nat) : Bool := (wordsF f).contains (ns.getD k [])
noncomputable def askN (ns : List (List Nat)) (f : Nat) : Nat := (([0, 1, 2, 3].filter (askC ns f)).map (2 ^ ·)).sum
theorem askN_lt (ns : List (List Nat)) (f : Nat) : askN ns f < 16 := by
  unfold askN
  simp only [List.filter_cons, List.filter_nil]
  cases askC ns f 0 <;> cases askC ns f 1 <;> cases askC ns f 2 <;> cases askC ns f 3 <;> decide
theorem intsV_intL : ∀ l : List Nat, intsV (intL l) = some (l.map fun (c : Nat) => (c : Int))
  | [] => rfl
  | _ :: l => congrArg (Option.map _) (intsV_intL l)
theorem sum_nats : ∀ l : List Nat, (l.map fun (c : Nat) => (c : Int)).sum = ((l.sum : Nat) : Int)
  | [] => rfl
  | c :: l => by rw [List.map_cons, List.sum_cons, sum_nats l, List.sum_cons]; rfl
theorem sum_fit {v : V} {l : List Nat} {b : Nat} {O : Objs} (h : itemsOf O v = some (intL l)) (hs : l.length < 300) (hb : l.sum < 2 ^ 62) : callB (u "sum") [v] b O = some (.int (l.sum : Nat), O) := by
  have e : callB (u "sum") [v] b O = (itemsOf O v).bind fun l => (intsV l).bind fun is => if is.all (fun i => decide (0 ≤ i)) && decide (is.sum.toNat < 2 ^ 62) && lenOk l.length then some (V.int is.sum, O) else none := by kernel_rfl!
  rw [e, h, Option.bind_some, intsV_intL, Option.bind_some, sum_nats]
  refine if_pos (Bool.and_eq_true_iff.mpr ⟨Bool.and_eq_true_iff.mpr ⟨List.all_eq_true.mpr fun i hi => ?_, decide_eq_true hb⟩, lenOk_3 (by rw [intL_length]; exact hs)⟩)
  obtain ⟨c, _, rfl⟩ := List.mem_map.mp hi
  exact decide_eq_true (Int.natCast_nonneg c)
theorem any_str (x : List Nat) : ∀ l : List (List Nat), anyEq (strL l) (.str x) = some (l.contains x)
  | [] => rfl
  | y :: l => by
    show (leafEq (.str y) (.str x)).bind _ = _
    rw [show leafEq (.str y) (.str x) = some (decide (y = x)) from rfl, Option.bind_some]
    show (anyEq (strL l) (.str x)).map _ = _
    rw [any_str x l, Option.map_some, List.contains_cons]
    congr 2
    exact Bool.eq_iff_iff.mpr ⟨fun h => beq_iff_eq.mpr (of_decide_eq_true h).symm, fun h => decide_eq_true (beq_iff_eq.mp h).symm⟩
theorem in_strs {v : V} {x : List Nat} {l : List (List Nat)} {O : Objs} (h : itemsOf O v = some (strL l)) : cmpV G3 O .In (.str x) v = some (l.contains x) := by
  cases v with
  | lst l' => cases h; exact any_str x l
  | ref n => exact bs (show listAt O n = some (strL l) from h) (any_str x l)
  | _ => cases h

structure ExS (O O1 : Objs) (r a : Nat) (l : List Nat) (as : List V) : Prop where
  rd : O1[r]? = some (.iter (intL l))
  ask : listAt O1 a = some as
  tk : O1.take O.length = O
  hr : O.length ≤ r
  ha : O.length ≤ a
  ne : r ≠ a
theorem set_ne {O : Objs} {i j : Nat} {o o' : AObj} (h : O[i]? = some o) (hn : j ≠ i) : (O.set j o')[i]? = some o := (List.getElem?_set_ne hn).trans h
theorem at_app {O X : Objs} {i : Nat} {o : AObj} (h : O[i]? = some o) : (O ++ X)[i]? = some o := by rw [List.getElem?_append_left (List.getElem?_eq_some_iff.mp h).1]; exact h
theorem app_take {O O1 X : Objs} {k : Nat} (h : O1.take k = O) (hk : k ≤ O1.length) : (O1 ++ X).take k = O := by rw [List.take_append_of_le_length hk]; exact h
theorem lt_len {O : Objs} {i k : Nat} {o : AObj} (h : O[i]? = some o) (hk : k ≤ i) : k ≤ O.length := Nat.le_of_lt (Nat.lt_of_le_of_lt hk (List.getElem?_eq_some_iff.mp h).1)
theorem low_at {O O1 : Objs} {i : Nat} {o : AObj} (h : O[i]? = some o) (ht : O1.take O.length = O) : O1[i]? = some o := by
  have hi := (List.getElem?_eq_some_iff.mp h).1
  have h : (O1.take O.length)[i]? = some o := by rw [ht]; exact h
  rwa [List.getElem?_take_of_lt hi] at h
noncomputable def exN : Names := (fScope (stm 22)).names
noncomputable def exF : Stmt := stAt (fBody (stm 22)) 1
noncomputable def exV (os ns bk : V) (r a : Nat) (t w row word : Option V) : Vars := [(u "octets", some os), (u "names", some ns), (u "book", some bk), (u "reader", some (.ref r)), (u "asked", some (.ref a)), (u "turn", t), (u "words", w), (u "row", row), (u "word", word)]
theorem ex_turn {n b r a : Nat} {O O1 : Objs} {os bk : V} {t w : Option V} {ns : List (List Nat)} {l : List Nat} {f : Nat × List Nat} {as : List V} {Q : Fl → List Fr → Objs → Prop} (S : ExS O O1 r a l as) (hn4 : ns.length = 4) (hv : varint l = some f) (hl : l.length < 300) (hf : FlagOk f.1) (has : as.length < 100)
    (q : ∀ O2 w, ExS O O2 r a f.2 (as ++ [.int (askN ns f.1 : Nat)]) → Q .next [⟨exN, exV os (.lst (strL ns)) bk r a t w none none, false⟩] O2) :
    xs (W G3 (n + 36)) (foB exF) [⟨exN, exV os (.lst (strL ns)) bk r a t w none none, false⟩] b Q O1 := by
  have e1 : (([0, 1, 2, 3].filter (askC ns f.1)).map fun k => V.int ((2 ^ k : Nat) : Int)) = intL (([0, 1, 2, 3].filter (askC ns f.1)).map (2 ^ ·)) := by unfold intL; rw [List.map_map]; rfl
  have hA := list_at S.ask
  have hA2 := set_ne (o' := .iter (intL f.2)) hA S.ne
  refine va_call hv S.rd hl (pf_call hf.lt hf.join (lf (split_fit (Bool.and_eq_true_iff.mpr ⟨Bool.and_eq_true_iff.mpr ⟨rfl, decide_eq_true hf.len⟩, decide_eq_true hf.parts⟩)) (lf (self_l (l := as) (at_list (at_app hA2)) rfl) (lc [0, 1, 2, 3] (FRi _ _ "k") (askC ns f.1) (fun k => .int ((2 ^ k : Nat) : Int)) (fun (k : Nat) => .int k) (.items _) (fun _ _ => rfl) (fun k hk acc K1 K2 k1 k2 => ?_) (by decide) (pures_i _ _) ?_))))
  · have hk4 : k < ns.length := by
      simp only [List.mem_cons, List.not_mem_nil, or_false] at hk
      omega
    refine lf (at_fit (x := .str (ns.getD k [])) (l := strL ns) rfl (strL_lt (Nat.lt_of_le_of_lt (Nat.le_of_eq (by with_reducible assumption)) (by decide))) (by rw [strL, List.getElem?_map, List.getD_eq_getElem?_getD, List.getElem?_eq_getElem hk4]; rfl)) (lf (in_strs (l := wordsF f.1) (listAt_app (list_new _ _))) (sl (fun h => ?_) fun h => ?_))
    · exact lf (pow_fit rfl (by omega)) (k1 h)
    · exact k2 h
  · rw [e1]
    have hs := askN_lt ns f.1
    refine lf (sum_fit rfl (by rw [List.length_map]; exact Nat.lt_of_le_of_lt (List.length_filter_le _ _) (by decide)) (Nat.lt_trans hs (by decide))) (lf (append_fit (l := as) (at_list (at_app hA2)) (Nat.lt_trans (by with_reducible assumption) (by decide)) (pure_ok rfl)) (q _ _ ⟨?_, ?_, ?_, S.hr, S.ha, S.ne⟩))
    · exact set_ne (at_app (iter_set S.rd)) (Ne.symm S.ne)
    · exact list_set (at_list (at_app hA2))
    · refine set_take (app_take (set_take S.tk S.hr) ?_) S.ha
      rw [List.length_set]; exact lt_len S.rd S.hr
noncomputable def bookV (bk : List (Nat × List Nat)) : List V := pairL (·.1) (fun p => .str p.2) bk
noncomputable def expP (a0 a1 : Nat) (p : Nat × List Nat) : Bool := decide (p.1 &&& a0 = a0) && !decide (p.1 &&& a1 = a1)
noncomputable def expF (a0 a1 : Nat) (l : List (Nat × List Nat)) : V := match l.find? (expP a0 a1) with
  | some p => .int p.1
  | none => .none
noncomputable def expN (bk : List (Nat × List Nat)) (a0 a1 : Nat) : V := expF a0 a1 (bk.drop (blR (keysL (·.1) bk) a0 bk.length 0 bk.length))
noncomputable def exG : Stmt := stAt (fBody (stm 22)) 2
theorem ex_loop {n b r a a0 a1 : Nat} {O1 : Objs} {os bk ns : V} {t w : Option V} {Q : Fl → List Fr → Objs → Prop} (ha : listAt O1 a = some [.int (a0 : Nat), .int (a1 : Nat)]) (l : List (Nat × List Nat)) : ∀ (f : Nat) (row word : Option V), l.length < f → (l.find? (expP a0 a1) = none → ∀ row word, Q .next [⟨exN, exV os ns bk r a t w row word, false⟩] O1) → (∀ p, l.find? (expP a0 a1) = some p → ∀ F, Q (.ret (.int p.1)) F O1) →
    forW (W G3 (n + 20)) (foT exG) (foB exG) (foE exG) b Q f (.items (bookV l)) [⟨exN, exV os ns bk r a t w row word, false⟩] O1 := by
  induction l with
  | nil =>
    intro f row word hf q1 q2
    cases f with
    | zero => exact absurd hf (Nat.not_lt_zero _)
    | succ f => exact q1 rfl row word
  | cons p l ih =>
    intro f row word hf q1 q2
    cases f with
    | zero => exact absurd hf (Nat.not_lt_zero _)
    | succ f =>
      have i0 := at_fit (v := .ref a) (k := 0) ha (show 2 < 300 by decide) rfl
      have i1 := at_fit (v := .ref a) (k := 1) ha (show 2 < 300 by decide) rfl
      have no : expP a0 a1 p = false → forW (W G3 (n + 20)) (foT exG) (foB exG) (foE exG) b Q f (.items (bookV l)) [⟨exN, exV os ns bk r a t w (some (.int p.1)) (some (.str p.2)), false⟩] O1 := fun h => ih f _ _ (Nat.lt_of_succ_lt_succ hf) (fun h2 => q1 (by rw [List.find?_cons, h]; exact h2)) fun p' h2 => q2 p' (by rw [List.find?_cons, h]; exact h2)
      refine lf i0 (lf i0 (an1 (t := decide (((p.1 &&& a0 : Nat) : Int) = a0)) (fun h1 => lf i1 (lf i1 (an1 (t := !decide (((p.1 &&& a1 : Nat) : Int) = a1)) (fun h2 => ?_) fun h2 => ?_))) fun h1 => ?_))
      · have e : expP a0 a1 p = true := Bool.and_eq_true_iff.mpr ⟨decide_eq_true (Int.ofNat.inj (of_decide_eq_true h1)), by
          rw [decide_eq_false fun z => of_decide_eq_false (not_bool h2) (congrArg Int.ofNat z)]; rfl⟩
        exact q2 p (by rw [List.find?_cons, e]) _
      · refine xn (no (Bool.and_eq_false_iff.mpr (.inr ?_)))
        rw [decide_eq_true (Int.ofNat.inj (of_decide_eq_true (not_boolF h2)))]; rfl
      · exact xn (no (Bool.and_eq_false_iff.mpr (.inl (decide_eq_false fun z => of_decide_eq_false h1 (congrArg Int.ofNat z)))))
theorem ex_two {n b r a : Nat} {O O1 : Objs} {os bk : V} {ns : List (List Nat)} {l : List Nat} {f0 f1 : Nat × List Nat} {Q : Fl → List Fr → Objs → Prop} (S : ExS O O1 r a l []) (hn4 : ns.length = 4) (h0 : varint l = some f0) (h1 : varint f0.2 = some f1) (hl : l.length < 300) (hl2 : f0.2.length < 300) (hf0 : FlagOk f0.1) (hf1 : FlagOk f1.1)
    (q : ∀ O2 t w, ExS O O2 r a f1.2 [.int (askN ns f0.1 : Nat), .int (askN ns f1.1 : Nat)] → Q .next [⟨exN, exV os (.lst (strL ns)) bk r a t w none none, false⟩] O2) :
    forW (W G3 (n + 36)) (foT exF) (foB exF) (foE exF) b Q 300 (.items (rngL (List.range 2))) [⟨exN, exV os (.lst (strL ns)) bk r a none none none none, false⟩] O1 :=
  show xs _ _ _ _ _ _ from ex_turn S hn4 h0 hl hf0 (by decide) fun O2 w S2 => show xs _ _ _ _ _ _ from ex_turn S2 hn4 h1 hl2 hf1 (Nat.succ_lt_succ (by decide)) fun O3 w S3 => q O3 _ w S3
theorem ex_call {n b kb : Nat} {O : Objs} {ns : List (List Nat)} {os : List Nat} {f0 f1 : Nat × List Nat} {bk : List (Nat × List Nat)} {Q : V → Objs → Prop} (hn4 : ns.length = 4) (h0 : varint os = some f0) (h1 : varint f0.2 = some f1) (hl : os.length < 300) (hl2 : f0.2.length < 300) (hf0 : FlagOk f0.1) (hf1 : FlagOk f1.1)
    (hk : listAt O kb = some (bookV bk)) (hbk : bk.length < 300) {v : V} (hv : expN bk (askN ns f0.1) (askN ns f1.1) = v) (q : Q v O) :
    CALL (W G3 (n + 40)) (.cst (.ref 163)) [.lst (intL os), .lst (strL ns), .ref kb] [] b Q O := by
  subst hv
  have hw := fun Q q => ex_two (n := n + 2) (b := O.length) (Q := Q) (os := .lst (intL os)) (bk := .ref kb) (O := O) (O1 := O ++ [AObj.iter (intL os)] ++ [AObj.list []]) (r := O.length) (a := (O ++ [AObj.iter (intL os)]).length) ⟨at_app (by rw [List.getElem?_append_right (Nat.le_refl _), Nat.sub_self]; rfl), list_new _ _, by rw [List.append_assoc]; exact new_take, Nat.le_refl _, by simp, by simp⟩ hn4 h0 h1 hl hl2 hf0 hf1 q
  rw [← rng_src 2] at hw
  refine toC (toF (hw _ fun O3 t w S3 => ?_))
  have hb3 : itemsOf O3 (.ref kb) = some (pairL (·.1) (fun p => .str p.2) bk) := at_list (low_at (list_at hk) S3.tk)
  have i0 := at_fit (v := .ref (O ++ [AObj.iter (intL os)]).length) (k := 0) S3.ask (show 2 < 300 by decide) rfl
  have hle : blR (keysL (·.1) bk) (askN ns f0.1) bk.length 0 bk.length ≤ bk.length := blR_le _ _ _ _ _ (Nat.zero_le _)
  refine lf i0 (blK_call (ks := keysL (·.1) bk) keyP hb3 (pairL_lt hbk) (lf (pair_from hb3 hbk (by rw [pairL_len]; exact hle)) (toF (ex_loop (n := n + 18) S3.ask _ 300 none none (by rw [List.length_drop]; omega) (fun h row word => ?_) fun p h F => ?_))))
  · unfold expN expF at q
    rw [pairL_len] at h
    rw [h] at q
    exact vq (Q := Q) S3.tk q
  · unfold expN expF at q
    rw [pairL_len] at h
    rw [h] at q
    exact vq (Q := Q) S3.tk q

noncomputable def zL (l : List Nat) : List Int := l.map fun (c : Nat) => (c : Int)
theorem intL_z (l : List Nat) : intL l = (zL l).map .int := by unfold intL zL; rw [List.map_map]; rfl
noncomputable def ruleV (R : List (Nat × Nat)) : List V := pairL (·.1) (fun p => .int (p.2 : Nat)) R
noncomputable def zR (R : List (Nat × Nat)) : List Int := keysL (·.1) R
noncomputable def insL (Sh : List Nat) (r : Nat) : List Nat := Sh.take (blR (zL Sh) r Sh.length 0 Sh.length) ++ r :: Sh.drop (blR (zL Sh) r Sh.length 0 Sh.length)
noncomputable def insRt (Sh : List Nat) (r : Nat) : List Nat := Sh.take (brR (zL Sh) r Sh.length 0 Sh.length) ++ r :: Sh.drop (brR (zL Sh) r Sh.length 0 Sh.length)
noncomputable def addSh (Sh : List Nat) (r : Nat) : List Nat := if Sh.length % 2 = 1 then insL Sh r else insRt Sh r
noncomputable def insRule (R : List (Nat × Nat)) (x : Nat × Nat) : List (Nat × Nat) := R.take (brR (zR R) x.1 R.length 0 R.length) ++ x :: R.drop (brR (zR R) x.1 R.length 0 R.length)
theorem intL_ins (Sh : List Nat) (p r : Nat) : (intL Sh).take p ++ V.int (r : Nat) :: (intL Sh).drop p = intL (Sh.take p ++ r :: Sh.drop p) := by rw [intL, ← List.map_take, ← List.map_drop, intL, List.map_append]; rfl
theorem pairL_ins {α : Type} {f : α → Nat} {g : α → V} (R : List α) (p : Nat) (x : α) : (pairL f g R).take p ++ V.tup [.int (f x), g x] :: (pairL f g R).drop p = pairL f g (R.take p ++ x :: R.drop p) := by rw [pairL, ← List.map_take, ← List.map_drop, pairL, List.map_append]; rfl
section
variable {n b k r : Nat} {O : Objs} {a : V} {Sh : List Nat}
theorem bl_int {Q : V → Objs → Prop} (ha : itemsOf O a = some (intL Sh)) (hs : Sh.length < 300) (q : Q (.int (blR (zL Sh) r Sh.length 0 Sh.length)) O) : CALL (W G3 (n + 20)) (.cst (.ref 57)) [a, .int (r : Nat)] [] b Q O :=
  bl_call (intL_z Sh) ha (by rw [intL_length]; exact hs) (by rw [intL_length]; exact q)
theorem br_int {Q : V → Objs → Prop} (ha : itemsOf O a = some (intL Sh)) (hs : Sh.length < 300) (q : Q (.int (brR (zL Sh) r Sh.length 0 Sh.length)) O) : CALL (W G3 (n + 20)) (.cst (.ref 39)) [a, .int (r : Nat)] [] b Q O :=
  br_call (intL_z Sh) ha (by rw [intL_length]; exact hs) (by rw [intL_length]; exact q)
theorem inl_int {Q : V → Objs → Prop} (ha : listAt O k = some (intL Sh)) (hs : Sh.length < 300) (q : Q .none (O.set k (.list (intL (insL Sh r))))) : CALL (W G3 (n + 30)) (.cst (.ref 48)) [.ref k, .int (r : Nat)] [] b Q O :=
  inl_call (intL_z Sh) ha (by rw [intL_length]; exact hs) (by rw [intL_length, intL_ins]; exact q)
theorem inr_int {Q : V → Objs → Prop} (ha : listAt O k = some (intL Sh)) (hs : Sh.length < 300) (q : Q .none (O.set k (.list (intL (insRt Sh r))))) : CALL (W G3 (n + 30)) (.cst (.ref 30)) [.ref k, .int (r : Nat)] [] b Q O :=
  inr_call (intL_z Sh) ha (by rw [intL_length]; exact hs) (by rw [intL_length, intL_ins]; exact q)
theorem inl_pair {α : Type} {f : α → Nat} {g : α → V} {R : List α} {x : α} {i : Nat} {pa p1 p2 p3 : Pos} {Q : V → Objs → Prop} (ha : listAt O k = some (pairL f g R)) (hs : R.length < 300) (hg : (g x).pure = true) (q : Q .none (O.set k (.list (pairL f g (R.take (blR (keysL f R) (f x) R.length 0 R.length) ++ x :: R.drop (blR (keysL f R) (f x) R.length 0 R.length)))))) :
    CALL (W G3 (n + 30)) (.cst (.ref 48)) [.ref k, .tup [.int (f x), g x]] [(u "key", .lam (key0A pa) (key0B i p1 p2 p3) key0S)] b Q O :=
  inlK_call (ks := keysL f R) (y := f x) key0 keyP ha (pairL_lt hs) (Bool.and_eq_true_iff.mpr ⟨hg, rfl⟩) (by rw [pairL_len, pairL_ins]; exact q)
theorem inr_pair {α : Type} {f : α → Nat} {g : α → V} {R : List α} {x : α} {i : Nat} {pa p1 p2 p3 : Pos} {Q : V → Objs → Prop} (ha : listAt O k = some (pairL f g R)) (hs : R.length < 300) (hg : (g x).pure = true) (q : Q .none (O.set k (.list (pairL f g (R.take (brR (keysL f R) (f x) R.length 0 R.length) ++ x :: R.drop (brR (keysL f R) (f x) R.length 0 R.length)))))) :
    CALL (W G3 (n + 30)) (.cst (.ref 30)) [.ref k, .tup [.int (f x), g x]] [(u "key", .lam (key0A pa) (key0B i p1 p2 p3) key0S)] b Q O :=
  inrK_call (ks := keysL f R) (y := f x) key0 keyP ha (pairL_lt hs) (Bool.and_eq_true_iff.mpr ⟨hg, rfl⟩) (by rw [pairL_len, pairL_ins]; exact q)
theorem bl_pair {α : Type} {f : α → Nat} {g : α → V} {R : List α} {i : Nat} {x : Nat} {pa p1 p2 p3 : Pos} {Q : V → Objs → Prop} (ha : itemsOf O a = some (pairL f g R)) (hs : R.length < 300) (q : Q (.int (blR (keysL f R) x R.length 0 R.length)) O) :
    CALL (W G3 (n + 20)) (.cst (.ref 57)) [a, .int (x : Nat)] [(u "key", .lam (key0A pa) (key0B i p1 p2 p3) key0S)] b Q O :=
  blK_call (ks := keysL f R) keyP ha (pairL_lt hs) (by rw [pairL_len]; exact q)
end

noncomputable def askX (bk : List (Nat × List Nat)) (c t : Nat) : Option Nat := ((bk.drop (blR (keysL (·.1) bk) c bk.length 0 bk.length)).find? (expP c t)).map (·.1)
noncomputable def natV (o : Option Nat) : V := match o with
  | some r => .int (r : Nat)
  | none => .none
theorem expN_ask (bk : List (Nat × List Nat)) (c t : Nat) : expN bk c t = natV (askX bk c t) := by
  unfold expN expF askX
  cases (bk.drop (blR (keysL (·.1) bk) c bk.length 0 bk.length)).find? (expP c t) <;> rfl
noncomputable def inGo (bk : List (Nat × List Nat)) (c : Nat) : Nat → List (Nat × Nat) → List Nat → Option (List (Nat × Nat) × List Nat)
  | 0, R, Sh => some (R, Sh)
  | t + 1, R, Sh => if commonN c Sh 15 = c then some (R, Sh) else match askX bk c (commonN c Sh 15) with
    | none => some (insRule R (c, commonN c Sh 15), Sh)
    | some r => if blR (zL Sh) r Sh.length 0 Sh.length = brR (zL Sh) r Sh.length 0 Sh.length then inGo bk c t R (addSh Sh r) else none
theorem ins_len {α : Type} {l : List α} {p : Nat} {x : α} (h : p ≤ l.length) : (l.take p ++ x :: l.drop p).length = l.length + 1 := by
  rw [List.length_append, List.length_cons, List.length_take, List.length_drop, Nat.min_eq_left h, Nat.add_succ, Nat.add_sub_cancel' h]
theorem addSh_len (Sh : List Nat) (r : Nat) : (addSh Sh r).length = Sh.length + 1 := by
  unfold addSh
  split
  · exact ins_len (blR_le _ _ _ _ _ (Nat.zero_le _))
  · exact ins_len (brR_le _ _ _ _ _ (Nat.zero_le _))
theorem insRule_len (R : List (Nat × Nat)) (x : Nat × Nat) : (insRule R x).length = R.length + 1 := ins_len (brR_le _ _ _ _ _ (Nat.zero_le _))
theorem commonN_lt (c : Nat) : ∀ (l : List Nat) (t : Nat), t < 16 → commonN c l t < 16
  | [], t, h => h
  | r :: l, t, h => by
    unfold commonN
    split
    · exact commonN_lt c l _ (Nat.lt_of_le_of_lt Nat.and_le_left h)
    · exact commonN_lt c l _ h

structure Hears (ns : List (List Nat)) (base no hi : Nat) : Prop where
  n4 : ns.length = 4
  hbase : base < 12
  hno : no < 100
  hhi : hi < 1000
  flag : ∀ x, x < 16 → FlagOk (x * 2 ^ base)
  ask : ∀ x, x < 16 → askN ns (x * 2 ^ base) = x
  two : ∀ x y, x < 16 → y < 16 → varint (octN (x * 2 ^ base) no hi ++ octN (y * 2 ^ base) no hi) = some (x * 2 ^ base, octN (y * 2 ^ base) no hi)
  one : ∀ y, y < 16 → varint (octN (y * 2 ^ base) no hi) = some (y * 2 ^ base, [])
theorem octN_len (x no hi : Nat) : (octN x no hi).length ≤ no + 4 := by
  unfold octN
  rw [List.length_map]
  exact octP_len x no
theorem mul_fit {O : Objs} {a d : Nat} (h : a < 2 ^ 300) (h2 : d < 2 ^ 300) : binV O .Mult (.int (a : Nat)) (.int (d : Nat)) = some (.int ((a * d : Nat) : Int)) := by
  have e : binV O .Mult (.int (a : Nat)) (.int (d : Nat)) = if intOk (a : Nat) && intOk (d : Nat) then some (.int ((a : Int) * (d : Int))) else none := by kernel_rfl!
  exact e.trans (if_pos (Bool.and_eq_true_iff.mpr ⟨intOk_nat h, intOk_nat h2⟩))
theorem cat_int {O : Objs} {l r : List Nat} (h : (l ++ r).length < 300) : binV O .Add (.lst (intL l)) (.lst (intL r)) = some (.lst (intL (l ++ r))) := by
  rw [intL_append]
  refine cat_fit (Nat.lt_trans ?_ (show 300 < 1000000 by decide))
  rw [intL_length, intL_length, ← List.length_append]; exact h

structure XpS (O O1 : Objs) (rr sh : Nat) (R : List (Nat × Nat)) (Sh : List Nat) : Prop where
  ru : listAt O1 rr = some (ruleV R)
  sw : listAt O1 sh = some (intL Sh)
  tk : O1.take O.length = O
  hr : O.length ≤ rr
  hs : O.length ≤ sh
  ne : rr ≠ sh
theorem listAt_ne {O : Objs} {i j : Nat} {l : List V} {o : AObj} (h : listAt O i = some l) (hn : j ≠ i) : listAt (O.set j o) i = some l := at_list (set_ne (list_at h) hn)
theorem XpS.setSh {O O1 : Objs} {rr sh : Nat} {R : List (Nat × Nat)} {Sh Sh' : List Nat} (S : XpS O O1 rr sh R Sh) : XpS O (O1.set sh (.list (intL Sh'))) rr sh R Sh' := ⟨listAt_ne S.ru (Ne.symm S.ne), list_set S.sw, set_take S.tk S.hs, S.hr, S.hs, S.ne⟩
theorem XpS.setR {O O1 : Objs} {rr sh : Nat} {R R' : List (Nat × Nat)} {Sh : List Nat} (S : XpS O O1 rr sh R Sh) : XpS O (O1.set rr (.list (ruleV R'))) rr sh R' Sh := ⟨list_set S.ru, listAt_ne S.sw S.ne, set_take S.tk S.hr, S.hr, S.hs, S.ne⟩
noncomputable def xpN : Names := (fScope (stm 23)).names
noncomputable def xpF : Stmt := stAt (fBody (stm 23)) 1
noncomputable def inF : Stmt := stAt (ifX (stAt (foB xpF) 1)) 0
noncomputable def xpV (kb : Nat) (ns : List (List Nat)) (base no hi rr sh : Nat) (ch ah tn td rw : Option V) : Vars := [(u "book", some (.ref kb)), (u "names", some (.lst (strL ns))), (u "base", some (.int (base : Nat))), (u "noughts", some (.int (no : Nat))), (u "high", some (.int (hi : Nat))), (u "rules", some (.ref rr)), (u "shown", some (.ref sh)),
  (u "chosen", ch), (u "ahead", ah), (u "turn", tn), (u "told", td), (u "row", rw)]
theorem xp_in {n b kb rr sh c base no hi : Nat} {O : Objs} {ns : List (List Nat)} {bk : List (Nat × List Nat)} {ah : Option V} {Q : Fl → List Fr → Objs → Prop} (H : Hears ns base no hi) (hk : listAt O kb = some (bookV bk)) (hbk : bk.length < 300) (hc : c < 16) (ts : List Nat) : ∀ (f : Nat) (R : List (Nat × Nat)) (Sh : List Nat) (O1 : Objs) (tn td rw : Option V), XpS O O1 rr sh R Sh → ts.length < f → R.length < 200 → Sh.length + ts.length < 250 →
    (∀ R' Sh', inGo bk c ts.length R Sh = some (R', Sh') → ∀ O2 tn td rw, XpS O O2 rr sh R' Sh' → Q .next [⟨xpN, xpV kb ns base no hi rr sh (some (.int c)) ah tn td rw, false⟩] O2) → (inGo bk c ts.length R Sh = none → ∀ F O2, O2.take O.length = O → Q (.ret .none) F O2) →
    forW (W G3 (n + 50)) (foT inF) (foB inF) (foE inF) b Q f (.items (rngL ts)) [⟨xpN, xpV kb ns base no hi rr sh (some (.int c)) ah tn td rw, false⟩] O1 := by
  induction ts with
  | nil =>
    intro f R Sh O1 tn td rw S hf hR hSh q1 q2
    cases f with
    | zero => exact absurd hf (Nat.not_lt_zero _)
    | succ f => exact q1 R Sh rfl O1 tn td rw S
  | cons t ts ih =>
    intro f R Sh O1 tn td rw S hf hR hSh q1 q2
    replace hSh : Sh.length + (ts.length + 1) < 250 := hSh
    cases f with
    | zero => exact absurd hf (Nat.not_lt_zero _)
    | succ f =>
      have hlt := commonN_lt c Sh 15 (by decide)
      have hp : 2 ^ base < 2 ^ 12 := Nat.pow_lt_pow_of_lt (by decide) H.hbase
      have hp3 : 2 ^ base < 2 ^ 300 := Nat.lt_trans hp (by decide)
      have big : ∀ x, x < 16 → x * 2 ^ base < 1000000 := fun x hx => Nat.lt_of_le_of_lt (Nat.mul_le_mul (Nat.le_of_lt hx) (Nat.le_of_lt hp)) (by decide)
      have hk1 : listAt O1 kb = some (bookV bk) := at_list (low_at (list_at hk) S.tk)
      have hl1 := octN_len (c * 2 ^ base) no hi
      have hl2 := octN_len (commonN c Sh 15 * 2 ^ base) no hi
      have hno := H.hno
      have hlB : (octN (commonN c Sh 15 * 2 ^ base) no hi).length < 300 := by omega
      have hlA : (octN (c * 2 ^ base) no hi ++ octN (commonN c Sh 15 * 2 ^ base) no hi).length < 300 := by rw [List.length_append]; omega
      refine co_call (a := .ref sh) (rs := Sh) S.sw (Nat.lt_trans (Nat.lt_of_le_of_lt (Nat.le_add_right _ _) (by with_reducible assumption)) (by decide)) (sd (p := ((commonN c Sh 15 : Nat) : Int) = c) (fun h => ?_) fun h => ?_)
      · exact q1 R Sh (if_pos (Int.ofNat.inj h)) O1 _ _ _ S
      · have h' : ¬ commonN c Sh 15 = c := fun z => h (congrArg Int.ofNat z)
        have go : inGo bk c (ts.length + 1) R Sh = _ := if_neg h'
        refine lf (pow_fit (d := 2) rfl (Nat.lt_trans H.hbase (by decide))) (lf (mul_fit (Nat.lt_trans hc (by decide)) hp3) (oc_call (big c hc) hno (Nat.lt_trans H.hhi (by decide)) (lf (pow_fit (d := 2) rfl (Nat.lt_trans H.hbase (by decide))) (lf (mul_fit (Nat.lt_trans hlt (by decide)) hp3) (oc_call (big _ hlt) hno (Nat.lt_trans H.hhi (by decide)) (lf (cat_int hlA) ?_))))))
        cases hx : askX bk c (commonN c Sh 15) with
        | none =>
          refine ex_call H.n4 (H.two c _ hc hlt) (H.one _ hlt) hlA hlB (H.flag c hc) (H.flag _ hlt) hk1 hbk (v := .none) (by rw [H.ask c hc, H.ask _ hlt, expN_ask, hx]; rfl) ?_
          have go2 : inGo bk c (ts.length + 1) R Sh = some (insRule R (c, commonN c Sh 15), Sh) := by rw [go, hx]
          exact inr_pair (R := R) (x := (c, commonN c Sh 15)) S.ru (Nat.lt_trans (by with_reducible assumption) (by decide)) rfl (q1 _ _ go2 _ _ _ _ S.setR)
        | some r =>
          refine ex_call H.n4 (H.two c _ hc hlt) (H.one _ hlt) hlA hlB (H.flag c hc) (H.flag _ hlt) hk1 hbk (v := .int (r : Nat)) (by rw [H.ask c hc, H.ask _ hlt, expN_ask, hx]; rfl) ?_
          refine bl_int (a := .ref sh) S.sw (Nat.lt_trans (Nat.lt_of_le_of_lt (Nat.le_add_right _ _) (by with_reducible assumption)) (by decide)) (br_int (a := .ref sh) S.sw (Nat.lt_trans (Nat.lt_of_le_of_lt (Nat.le_add_right _ _) (by with_reducible assumption)) (by decide)) (sl (t := !decide (((blR (zL Sh) r Sh.length 0 Sh.length : Nat) : Int) = (brR (zL Sh) r Sh.length 0 Sh.length : Nat))) (fun h2 => ?_) fun h2 => ?_))
          · refine q2 ?_ _ O1 S.tk
            rw [show inGo bk c (t :: ts).length R Sh = _ from go, hx]
            exact if_neg fun z => of_decide_eq_false (not_bool h2) (congrArg Int.ofNat z)
          · have go2 : inGo bk c (ts.length + 1) R Sh = inGo bk c ts.length R (addSh Sh r) := by
              rw [go, hx]
              exact if_pos (Int.ofNat.inj (of_decide_eq_true (not_boolF h2)))
            refine lf (len_fit (v := .ref sh) S.sw (by rw [intL_length]; exact Nat.lt_trans (Nat.lt_of_le_of_lt (Nat.le_add_right _ _) (by with_reducible assumption)) (by decide))) (sd (p := (((intL Sh).length : Nat) : Int) % 2 ≠ 0) (fun h3 => ?_) fun h3 => ?_)
            · have e : addSh Sh r = insL Sh r := if_pos (by rw [intL_length] at h3; exact odd_of h3)
              have S2 : XpS O (O1.set sh (.list (intL (insL Sh r)))) rr sh R (addSh Sh r) := e.symm ▸ S.setSh
              refine inl_int S.sw (Nat.lt_trans (Nat.lt_of_le_of_lt (Nat.le_add_right _ _) (by with_reducible assumption)) (by decide)) ?_
              refine Gd.of rfl (xn ?_)
              exact ih f R (addSh Sh r) _ _ _ _ S2 (Nat.lt_of_succ_lt_succ hf) hR (by rw [addSh_len]; omega) (fun R' Sh' g => q1 R' Sh' (go2.trans g)) fun g => q2 (go2.trans g)
            · have e : addSh Sh r = insRt Sh r := if_neg (by rw [intL_length] at h3; exact even_of h3)
              have S2 : XpS O (O1.set sh (.list (intL (insRt Sh r)))) rr sh R (addSh Sh r) := e.symm ▸ S.setSh
              refine inr_int S.sw (Nat.lt_trans (Nat.lt_of_le_of_lt (Nat.le_add_right _ _) (by with_reducible assumption)) (by decide)) ?_
              refine Gd.of rfl (xn ?_)
              exact ih f R (addSh Sh r) _ _ _ _ S2 (Nat.lt_of_succ_lt_succ hf) hR (by rw [addSh_len]; omega) (fun R' Sh' g => q1 R' Sh' (go2.trans g)) fun g => q2 (go2.trans g)

noncomputable def blocked (c : Nat) (x : Nat × Nat) : Bool := decide (x.1 &&& c = x.1) && !decide (x.2 &&& c = x.2)
noncomputable def aheadR (R : List (Nat × Nat)) (c : Nat) : List (Nat × Nat) := R.take (blR (zR R) c R.length 0 R.length)
noncomputable def exStep (bk : List (Nat × List Nat)) (c : Nat) (R : List (Nat × Nat)) (Sh : List Nat) : Option (List (Nat × Nat) × List Nat) := if ((aheadR R c).filter (blocked c)).isEmpty then inGo bk c 8 R Sh else some (R, Sh)
noncomputable def exGo (bk : List (Nat × List Nat)) : List Nat → List (Nat × Nat) → List Nat → Option (List (Nat × Nat) × List Nat)
  | [], R, Sh => some (R, Sh)
  | c :: cs, R, Sh => match exStep bk c R Sh with
    | none => none
    | some p => exGo bk cs p.1 p.2
theorem inGo_len (bk : List (Nat × List Nat)) (c : Nat) : ∀ (t : Nat) (R : List (Nat × Nat)) (Sh : List Nat) (R' : List (Nat × Nat)) (Sh' : List Nat), inGo bk c t R Sh = some (R', Sh') → R'.length ≤ R.length + 1 ∧ Sh'.length ≤ Sh.length + t
  | 0, R, Sh, R', Sh', h => by cases h; exact ⟨Nat.le_succ _, Nat.le_refl _⟩
  | t + 1, R, Sh, R', Sh', h => by
    unfold inGo at h
    split at h
    · cases h; exact ⟨Nat.le_succ _, Nat.le_add_right _ _⟩
    · split at h
      · cases h
        exact ⟨Nat.le_of_eq (insRule_len _ _), Nat.le_add_right _ _⟩
      · split at h
        · have := inGo_len bk c t R _ R' Sh' h
          rw [addSh_len] at this
          exact ⟨this.1, Nat.le_trans this.2 (Nat.le_of_eq (by rw [Nat.add_assoc, Nat.add_comm 1 t]))⟩
        · cases h
theorem exStep_len {bk : List (Nat × List Nat)} {c : Nat} {R : List (Nat × Nat)} {Sh : List Nat} {R' : List (Nat × Nat)} {Sh' : List Nat} (h : exStep bk c R Sh = some (R', Sh')) : R'.length ≤ R.length + 1 ∧ Sh'.length ≤ Sh.length + 8 := by
  unfold exStep at h
  split at h
  · exact inGo_len bk c 8 R Sh R' Sh' h
  · cases h; exact ⟨Nat.le_succ _, Nat.le_add_right _ _⟩
theorem eq_nil {O : Objs} (l : List V) : cmpV G3 O .Eq (.lst l) (.lst []) = some l.isEmpty := by cases l <;> rfl
noncomputable def FRg {α : Type} (e : α → V) (nm : Names) (F : List Fr) (x : String) (t : Option α) : List Fr := ⟨nm, [(u ".0", none), (u x, t.map e)], false⟩ :: F
theorem pures_pair {α : Type} {f : α → Nat} {g : α → V} (hg : ∀ a, (g a).pure = true) : ∀ l : List α, pures (pairL f g l) = true
  | [] => rfl
  | a :: l => Bool.and_eq_true_iff.mpr ⟨Bool.and_eq_true_iff.mpr ⟨hg a, rfl⟩, pures_pair hg l⟩
theorem xp_out {n b kb rr sh base no hi : Nat} {O : Objs} {ns : List (List Nat)} {bk : List (Nat × List Nat)} {Q : Fl → List Fr → Objs → Prop} (H : Hears ns base no hi) (hk : listAt O kb = some (bookV bk)) (hbk : bk.length < 300) (cs : List Nat) : ∀ (f : Nat) (R : List (Nat × Nat)) (Sh : List Nat) (O1 : Objs) (ch ah tn td rw : Option V), XpS O O1 rr sh R Sh → cs.length < f → (∀ c ∈ cs, c < 16) → R.length + cs.length < 100 → Sh.length + 8 * cs.length < 200 →
    (∀ R' Sh', exGo bk cs R Sh = some (R', Sh') → ∀ O2 ch ah tn td rw, XpS O O2 rr sh R' Sh' → Q .next [⟨xpN, xpV kb ns base no hi rr sh ch ah tn td rw, false⟩] O2) → (exGo bk cs R Sh = none → ∀ F O2, O2.take O.length = O → Q (.ret .none) F O2) →
    forW (W G3 (n + 54)) (foT xpF) (foB xpF) (foE xpF) b Q f (.items (rngL cs)) [⟨xpN, xpV kb ns base no hi rr sh ch ah tn td rw, false⟩] O1 := by
  induction cs with
  | nil =>
    intro f R Sh O1 ch ah tn td rw S hf hc hR hSh q1 q2
    cases f with
    | zero => exact absurd hf (Nat.not_lt_zero _)
    | succ f => exact q1 R Sh rfl O1 ch ah tn td rw S
  | cons c cs ih =>
    intro f R Sh O1 ch ah tn td rw S hf hc hR hSh q1 q2
    replace hSh : Sh.length + 8 * (cs.length + 1) < 200 := hSh
    replace hR : R.length + (cs.length + 1) < 100 := hR
    cases f with
    | zero => exact absurd hf (Nat.not_lt_zero _)
    | succ f =>
      have hc0 := hc c (List.mem_cons_self ..)
      have hcs : ∀ x ∈ cs, x < 16 := fun x hx => hc x (List.mem_cons_of_mem _ hx)
      have hR3 : R.length < 300 := by exact Nat.lt_trans (Nat.lt_of_le_of_lt (Nat.le_add_right _ _) (by with_reducible assumption)) (by decide)
      have hle : blR (zR R) c R.length 0 R.length ≤ R.length := blR_le _ _ _ _ _ (Nat.zero_le _)
      have next : ∀ R' Sh', exStep bk c R Sh = some (R', Sh') → ∀ O2 ah tn td rw, XpS O O2 rr sh R' Sh' → forW (W G3 (n + 54)) (foT xpF) (foB xpF) (foE xpF) b Q f (.items (rngL cs)) [⟨xpN, xpV kb ns base no hi rr sh (some (.int (c : Nat))) ah tn td rw, false⟩] O2 := fun R' Sh' e O2 ah tn td rw S2 => by
        have hl := exStep_len e
        refine ih f R' Sh' O2 _ ah tn td rw S2 (Nat.lt_of_succ_lt_succ hf) hcs (by omega) (by omega) (fun R2 Sh2 g => q1 R2 Sh2 ?_) fun g => q2 ?_
        · show (match exStep bk c R Sh with | none => none | some p => exGo bk cs p.1 p.2) = _
          rw [e]; exact g
        · show (match exStep bk c R Sh with | none => none | some p => exGo bk cs p.1 p.2) = _
          rw [e]; exact g
      refine bl_pair (R := R) (a := .ref rr) S.ru hR3 (lf (pair_to (v := .ref rr) S.ru hR3 hle) (lc (aheadR R c) (FRg (fun x => .tup [.int (x.1 : Nat), .int (x.2 : Nat)]) _ _ "one") (blocked c) (fun x => .tup [.int (x.1 : Nat), .int (x.2 : Nat)]) (fun x => .tup [.int (x.1 : Nat), .int (x.2 : Nat)]) (.items _) (fun _ _ => rfl) (fun x hx acc K1 K2 k1 k2 => ?_) ?_ ?_ ?_))
      · refine an1 (t := decide (((x.1 &&& c : Nat) : Int) = x.1)) (fun h1 => an1 (t := !decide (((x.2 &&& c : Nat) : Int) = x.2)) (fun h2 => k1 ?_) fun h2 => k2 ?_) fun h1 => k2 ?_
        · exact Bool.and_eq_true_iff.mpr ⟨decide_eq_true (Int.ofNat.inj (of_decide_eq_true h1)), by rw [decide_eq_false fun z => of_decide_eq_false (not_bool h2) (congrArg Int.ofNat z)]; rfl⟩
        · exact Bool.and_eq_false_iff.mpr (.inr (by rw [decide_eq_true (Int.ofNat.inj (of_decide_eq_true (not_boolF h2)))]; rfl))
        · exact Bool.and_eq_false_iff.mpr (.inl (decide_eq_false fun z => of_decide_eq_false h1 (congrArg Int.ofNat z)))
      · exact Nat.lt_of_le_of_lt (List.length_take_le _ _) (Nat.lt_of_le_of_lt (by with_reducible assumption) (by with_reducible assumption))
      · exact pures_pair (f := fun x : Nat × Nat => x.1) (g := fun x => .int (x.2 : Nat)) (fun _ => rfl) _
      · refine lf (eq_nil _) (sl (fun h => ?_) fun h => ?_)
        · rw [List.isEmpty_map] at h
          have e : exStep bk c R Sh = inGo bk c 8 R Sh := if_pos h
          have hw := fun Q q1 q2 => xp_in (n := n + 2) (b := b) (ah := some (.lst (ruleV (aheadR R c)))) (Q := Q) H hk hbk hc0 (List.range 8) 300 R Sh O1 tn td rw S (by decide) (Nat.lt_trans (Nat.lt_of_le_of_lt (Nat.le_add_right _ _) (by with_reducible assumption)) (by decide)) (by rw [List.length_range]; omega) q1 q2
          rw [← rng_src 8] at hw
          refine toF (hw _ (fun R' Sh' g O2 tn td rw S2 => ?_) fun g F O2 hT => ?_)
          · rw [List.length_range] at g
            refine xn ?_
            exact next R' Sh' (e.trans g) O2 _ tn td rw S2
          · rw [List.length_range] at g
            refine q2 ?_ F O2 hT
            show (match exStep bk c R Sh with | none => none | some p => exGo bk cs p.1 p.2) = _
            rw [e, g]
        · rw [List.isEmpty_map] at h
          have e : exStep bk c R Sh = some (R, Sh) := if_neg (by rw [h]; decide)
          refine xn ?_
          exact next R Sh e O1 _ tn td rw S
noncomputable def expV (r : Option (List (Nat × Nat) × List Nat)) : V := match r with
  | some p => .tup [.lst (ruleV p.1), .lst (intL p.2)]
  | none => .none
theorem flat_ruleV (R : List (Nat × Nat)) : flatV 3 (.lst (ruleV R)) = true := List.all_eq_true.mpr fun v hv => by
  obtain ⟨c, _, rfl⟩ := List.mem_map.mp hv; rfl
theorem freeze_ref {O : Objs} {k b n : Nat} {l : List V} (h : listAt O k = some l) (hk : b ≤ k) (hf : flatV (n + 1) (.lst l) = true) : freeze O b (n + 1) (.ref k) = some (.lst l) := by
  have e : freeze O b (n + 1) (.ref k) = if k < b then some (.ref k) else (listAt O k).bind fun l => (l.mapM (freeze O b n)).map .lst := by kernel_rfl!
  rw [e, if_neg (Nat.not_lt.mpr hk), h]
  exact freeze_flat (n + 1) hf
theorem xp_call {n b kb : Nat} {O : Objs} {ns : List (List Nat)} {base no hi : Nat} {bk : List (Nat × List Nat)} {Q : V → Objs → Prop} (H : Hears ns base no hi) (hk : listAt O kb = some (bookV bk)) (hbk : bk.length < 300) {v : V} (hv : expV (exGo bk (List.range 16) [] []) = v) (q : Q v O) :
    CALL (W G3 (n + 70)) (.cst (.ref 168)) [.ref kb, .lst (strL ns), .int base, .int no, .int hi] [] b Q O := by
  subst hv
  have S : XpS O (O ++ [AObj.list []] ++ [AObj.list []]) O.length (O ++ [AObj.list []]).length [] [] := ⟨listAt_app (list_new O []), list_new _ _, by rw [List.append_assoc]; exact new_take, Nat.le_refl _, by simp, by simp⟩
  have hw := fun Q q1 q2 => xp_out (n := n + 14) (b := O.length) (Q := Q) H hk hbk (List.range 16) 300 [] [] _ none none none none none S (by decide) (fun c hc => List.mem_range.mp hc) (by decide) (by decide) q1 q2
  rw [← rng_src 16] at hw
  refine toC (toF (hw _ (fun R' Sh' g O2 ch ah tn td rw S2 => ?_) fun g F O2 hT => ?_))
  · rw [g] at q
    have e : leave O.length (.tup [.ref O.length, .ref (O ++ [AObj.list []]).length]) O2 = some (.tup [.lst (ruleV R'), .lst (intL Sh')]) := by
      have e : leave O.length (.tup [.ref O.length, .ref (O ++ [AObj.list []]).length]) O2 = ([V.ref O.length, .ref (O ++ [AObj.list []]).length].mapM (freeze O2 O.length 3)).map .tup := by kernel_rfl!
      rw [e, List.mapM_cons, freeze_ref S2.ru S2.hr (flat_ruleV R'), List.mapM_cons, freeze_ref S2.sw S2.hs (flat_intL (n := 1) Sh')]; rfl
    exact lf e (vq (Q := Q) S2.tk q)
  · rw [g] at q
    exact vq (Q := Q) hT q

theorem intOk_lt {a : Nat} (h : a < 1000000) : intOk (a : Nat) = true := intOk_nat (Nat.lt_trans h (by decide))
theorem range1_fit {i : Int} {a b : Nat} {O : Objs} (e : i = (a : Nat)) (h : a < 1000000) : callY (u "range") [.int i] b O = some (.rng 0 (a : Nat) 1, O) := by
  subst e
  exact (show callY (u "range") [.int (a : Nat)] b O = (if intOk (a : Nat) then some (.rng 0 (a : Nat) 1, O) else none) by kernel_rfl!).trans (if_pos (intOk_lt h))
theorem range2_fit {i j : Int} {a c b : Nat} {O : Objs} (e : i = (a : Nat)) (e2 : j = (c : Nat)) (h : a < 1000000) (h2 : c < 1000000) : callY (u "range") [.int i, .int j] b O = some (.rng (a : Nat) (c : Nat) 1, O) := by
  subst e; subst e2
  exact (show callY (u "range") [.int (a : Nat), .int (c : Nat)] b O = (if intOk (a : Nat) && intOk (c : Nat) then some (.rng (a : Nat) (c : Nat) 1, O) else none) by kernel_rfl!).trans (if_pos (Bool.and_eq_true_iff.mpr ⟨intOk_lt h, intOk_lt h2⟩))
theorem rangeL_two (a c : Nat) : rangeL a c 1 = (List.range' a (c - a)).map fun (k : Nat) => (k : Int) := by
  rw [rangeL, rsz, List.range'_eq_map_range, List.map_map]
  exact List.map_congr_left fun k _ => congrArg ((a : Int) + ·) (Int.mul_one k)
theorem rng_ok {a c : Nat} (ha : a < 1000000) (hc : c < 1000000) : rngOk a c 1 = true := Bool.or_eq_true_iff.mpr (.inl (Bool.and_eq_true_iff.mpr ⟨Bool.and_eq_true_iff.mpr ⟨decide_eq_true (Nat.lt_trans ha (by decide)), decide_eq_true (Nat.lt_trans hc (by decide))⟩, rfl⟩))
theorem src2_fit {a c : Nat} {O : Objs} (ha : a < 1000000) (h : c < 1000000) : srcOf O (.rng (a : Nat) (c : Nat) 1) = some (.items (rngL (List.range' a (c - a)))) := by
  have e : srcOf O (.rng (a : Nat) (c : Nat) 1) = if rngOk a c 1 && lenOk (rangeL a c 1).length then some (.items ((rangeL a c 1).map .int)) else none := by kernel_rfl!
  rw [e, rng_ok ha h, rangeL_two, List.length_map, List.length_range', List.map_map]
  exact if_pos (Bool.and_eq_true_iff.mpr ⟨rfl, lenOk_of (by omega)⟩)
theorem src1_fit {a : Nat} {O : Objs} (h : a < 1000000) : srcOf O (.rng 0 (a : Nat) 1) = some (.items (rngL (List.range a))) := by
  have e := src2_fit (a := 0) (c := a) (O := O) (by decide) h
  rwa [Nat.sub_zero, ← List.range_eq_range'] at e
theorem tr_lst {O : Objs} {l : List V} (h : l.length < 300) : truthV O (.lst l) = some (!l.isEmpty) := if_pos (lenOk_3 h)
theorem last_nat {O : Objs} {l : List Nat} {p : Nat} (h : l.getLast? = some p) : indexV O (.lst (intL l)) (.int (-1)) = some (.int (p : Nat)) := by
  have h0 : 0 < (intL l).length := by
    cases l with
    | nil => cases h
    | cons => exact Nat.succ_pos _
  show atV (intL l) (-1) = _
  rw [atV, if_pos (by rfl), last_ix h0]
  show (intL l)[_]? = _
  rw [← List.getLast?_eq_getElem?, intL, List.getLast?_map, h]; rfl
noncomputable def sub (l : List Nat) (a c : Nat) : List Nat := (l.drop a).take (c - a)
theorem sl_two {n a c : Nat} (h : a ≤ n) (h2 : c ≤ n) : sliceIdx (some (a : Int)) (some (c : Int)) none n = some (sliceRange a c 1) := by
  show some (sliceRange (clipV n 1 (some (a : Int)) _) (clipV n 1 (some (c : Int)) _) 1) = _
  rw [clip_in h, clip_in h2]
theorem cut_fit {O : Objs} {l : List Nat} {i j : Int} {a c : Nat} (e1 : i = (a : Nat)) (e2 : j = (c : Nat)) (h : l.length < 300) (ha : a ≤ l.length) (hc : c ≤ l.length) : sliceV O (.str l) (.int i) (.int j) .none = some (.str (sub l a c)) := by
  subst e1; subst e2
  refine bs (f := fun lo => (optInt (.int (c : Nat))).bind fun hi => (optInt .none).bind fun st => if lenOk l.length && st.isNone then (sliceIdx lo hi st l.length).map fun is => V.str (picked l is) else none) (v := some (a : Int)) rfl ?_
  refine (if_pos (show (lenOk l.length && true) = true from Bool.and_eq_true_iff.mpr ⟨lenOk_3 h, rfl⟩)).trans ?_
  rw [sl_two ha hc, Option.map_some, picked_run]; rfl
theorem cat_str {O : Objs} {x y : List Nat} (h : x.length + y.length < 1000000) : binV O .Add (.str x) (.str y) = some (.str (x ++ y)) := if_pos (lenOk_of h)
theorem cat_ref {O : Objs} {n : Nat} {l r : List V} (h : listAt O n = some l) (hl : l.length + r.length < 300) : binV O .Add (.ref n) (.lst r) = some (.lst (l ++ r)) := bs (f := fun l => addL O l (.lst r)) h (if_pos (lenOk_3 hl))
theorem minV_nat (x y : Nat) : minV (x : Int) (y : Int) = ((min x y : Nat) : Int) := by unfold minV; split <;> omega
theorem nat_fit {v : V} {l : List Nat} {k : Nat} {O : Objs} (h : itemsOf O v = some (intL l)) (hs : l.length < 300) (hk : k < l.length) : indexV O v (.int (k : Nat)) = some (.int (l.getD k 0 : Nat)) :=
  at_fit h (by rw [intL_length]; exact hs) (by rw [intL, List.getElem?_map, List.getElem?_eq_getElem hk, List.getD_eq_getElem?_getD, List.getElem?_eq_getElem hk]; rfl)

noncomputable def ownFits (text : List Nat) (begin low front c : Nat) : List Nat := (List.range' low (min (front + 2) (text.length + 1) - low)).filter fun p => Txt.endswith (S (sub text begin front ++ [c])) (S (sub text begin p))
noncomputable def ownBegins (gaps : List Nat) (front : Nat) : List Nat := (List.range (front + 1)).filter fun k => decide (gaps.getD k 0 ≠ 0)
noncomputable def ownBL (gaps : List Nat) (front : Nat) : Nat × Nat := match (ownBegins gaps front).getLast? with
  | some p => (p, p)
  | none => (0, front + 1)
noncomputable def ownLast (lost : Nat) (l : List Nat) : Nat := (l.getLast?).getD lost
noncomputable def ownRow (text gaps letters : List Nat) (front : Nat) : List Nat := letters.map fun c => ownLast (text.length + 1) (ownFits text (ownBL gaps front).1 (ownBL gaps front).2 front c)
noncomputable def ownT (text gaps letters : List Nat) : List (List Nat) := (List.range (text.length + 1)).map (ownRow text gaps letters) ++ [[text.length + 1, text.length + 1]]
noncomputable def rowsV (T : List (List Nat)) : List V := T.map fun r => V.lst (intL r)
noncomputable def owN : Names := (fScope (stm 19)).names
noncomputable def owF : Stmt := stAt (fBody (stm 19)) 1
noncomputable def owV (text gaps letters : List Nat) (tb : Nat) (fr bs bg lw ft : Option V) : Vars := [(u "text", some (.str text)), (u "gaps", some (.lst (intL gaps))), (u "letters", some (.str letters)), (u "table", some (.ref tb)), (u "lost", some (.int ((text.length + 1 : Nat) : Int))), (u "front", fr), (u "begins", bs), (u "begin", bg), (u "low", lw), (u "fits", ft)]
theorem bl_le (gaps : List Nat) (front : Nat) : (ownBL gaps front).1 ≤ front ∧ (ownBL gaps front).2 ≤ front + 1 := by
  unfold ownBL
  cases h : (ownBegins gaps front).getLast? with
  | none => exact ⟨Nat.zero_le _, Nat.le_refl _⟩
  | some p =>
    have := List.mem_range.mp (List.mem_filter.mp (List.mem_of_getLast? h)).1
    exact ⟨Nat.le_of_lt_succ this, Nat.le_of_lt this⟩
theorem intL_empty (l : List Nat) : (intL l).isEmpty = l.isEmpty := List.isEmpty_map
theorem pures_lst {α : Type} (f : α → List Nat) : ∀ l : List α, pures (l.map fun a => V.lst (intL (f a))) = true
  | [] => rfl
  | a :: l => Bool.and_eq_true_iff.mpr ⟨pures_intL (f a), pures_lst f l⟩

theorem ow_fits {n b tb front begin low : Nat} {O1 : Objs} {text gaps letters : List Nat} {T : List V} {bs ft : Option V} {Q : Fl → List Fr → Objs → Prop} (ht : text.length < 100) (hl : letters.length < 100) (hf : front ≤ text.length) (hbg : begin ≤ front) (hlw : low ≤ front + 1) (hT : listAt O1 tb = some T) (hTl : T.length < 200) (hb : b ≤ tb)
    (q : ∀ ft, Q .next [⟨owN, owV text gaps letters tb (some (.int front)) bs (some (.int begin)) (some (.int low)) ft, false⟩] (O1.set tb (.list (T ++ [.lst (intL (letters.map fun c => ownLast (text.length + 1) (ownFits text begin low front c)))])))) :
    xs (W G3 (n + 40)) ((foB owF).drop 2) [⟨owN, owV text gaps letters tb (some (.int front)) bs (some (.int begin)) (some (.int low)) ft, false⟩] b Q O1 := by
  have hmn : minV ((front + 2 : Nat) : Int) ((text.length + 1 : Nat) : Int) = ((min (front + 2) (text.length + 1) : Nat) : Int) := minV_nat _ _
  have hmn2 : min (front + 2) (text.length + 1) ≤ text.length + 1 := Nat.min_le_right _ _
  refine lcm letters (FRg (fun c => .str [c]) _ _ "letter") (fun c => .lst (intL (ownFits text begin low front c))) (fun c => .str [c]) (.items _) (fun _ _ => rfl) (fun c hc acc K1 K2 k1 k2 => ?_) (Nat.lt_trans (by with_reducible assumption) (by decide)) ?_ ?_
  · have e1 : ((List.range' low (min (front + 2) (text.length + 1) - low)).filter fun p => Txt.endswith (S (sub text begin front ++ [c])) (S (sub text begin p))).map (fun (k : Nat) => V.int k) = intL (ownFits text begin low front c) := rfl
    have hln : (List.range' low (min (front + 2) (text.length + 1) - low)).length < 300 := by rw [List.length_range']; omega
    refine lf (range2_fit rfl hmn (by omega) (by omega)) (lf (src2_fit (by omega) (by omega)) (lc _ (FRi _ _ "place") (fun p => Txt.endswith (S (sub text begin front ++ [c])) (S (sub text begin p))) (fun (k : Nat) => V.int k) (fun (k : Nat) => V.int k) (.items _) (fun _ _ => rfl) (fun p hp acc K1 K2 k1 k2 => ?_) hln (e1 ▸ pures_intL _) (e1 ▸ k1 rfl)))
    have hp := List.mem_range'_1.mp hp
    have hp2 : p ≤ text.length := by omega
    have hsb : (sub text begin front).length ≤ text.length := Nat.le_trans (List.length_take_le _ _) (by omega)
    exact lf (cut_fit rfl rfl (Nat.lt_trans (by with_reducible assumption) (by decide)) (Nat.le_trans (by with_reducible assumption) (by with_reducible assumption)) hf) (lf (cat_str (by simp; omega)) (lf (cut_fit rfl rfl (Nat.lt_trans (by with_reducible assumption) (by decide)) (Nat.le_trans (by with_reducible assumption) (by with_reducible assumption)) hp2) (sl k1 k2)))
  · exact pures_lst _ _
  · have e1 : letters.map (fun c => V.lst (intL (ownFits text begin low front c))) = (letters.map (ownFits text begin low front)).map fun r => V.lst (intL r) := by rw [List.map_map]; rfl
    have e2 : ((letters.map (ownFits text begin low front)).map fun r => V.int (ownLast (text.length + 1) r : Nat)) = intL (letters.map fun c => ownLast (text.length + 1) (ownFits text begin low front c)) := by rw [List.map_map, intL, List.map_map]; rfl
    rw [e1]
    refine lf (self_l hT rfl) (lcm (letters.map (ownFits text begin low front)) (FRg (fun r => .lst (intL r)) _ _ "row") (fun r => V.int (ownLast (text.length + 1) r : Nat)) (fun r => .lst (intL r)) (.items _) (fun _ _ => rfl) (fun r hr acc K1 K2 k1 k2 => ?_) (by rw [List.length_map]; exact Nat.lt_trans (by with_reducible assumption) (by decide)) (pures_i _ _) ?_)
    · obtain ⟨c, hc, rfl⟩ := List.mem_map.mp hr
      have hln : (intL (ownFits text begin low front c)).length < 300 := by
        rw [intL_length]
        exact Nat.lt_of_le_of_lt (List.length_filter_le _ _) (by rw [List.length_range']; omega)
      refine lf (tr_lst hln) (sl (fun h => ?_) fun h => ?_)
      · rw [intL_empty] at h
        cases hq : (ownFits text begin low front c).getLast? with
        | none => rw [List.getLast?_eq_none_iff.mp hq] at h; cases h
        | some p => exact lf (last_nat hq) (kq (congrArg Nat.cast (show p = ownLast (text.length + 1) (ownFits text begin low front c) by rw [ownLast, hq]; rfl)) (k1 rfl))
      · rw [intL_empty] at h
        exact kq (congrArg Nat.cast (show text.length + 1 = ownLast (text.length + 1) (ownFits text begin low front c) by rw [List.isEmpty_iff.mp (not_boolF h)]; rfl)) (k1 rfl)
    · rw [e2]
      exact lf (append_fit hT (Nat.lt_trans (by with_reducible assumption) (by decide)) (low_ok hb)) (q _)
theorem ow_body {n b tb front : Nat} {O1 : Objs} {text gaps letters : List Nat} {T : List V} {bs bg lw ft : Option V} {Q : Fl → List Fr → Objs → Prop} (ht : text.length < 100) (hg : gaps.length = text.length + 1) (hl : letters.length < 100) (hf : front ≤ text.length) (hT : listAt O1 tb = some T) (hTl : T.length < 200) (hb : b ≤ tb)
    (q : ∀ bs bg lw ft, Q .next [⟨owN, owV text gaps letters tb (some (.int front)) bs bg lw ft, false⟩] (O1.set tb (.list (T ++ [.lst (intL (ownRow text gaps letters front))])))) :
    xs (W G3 (n + 40)) (foB owF) [⟨owN, owV text gaps letters tb (some (.int front)) bs bg lw ft, false⟩] b Q O1 := by
  have e1 : ((List.range (front + 1)).filter fun k => decide (gaps.getD k 0 ≠ 0)).map (fun (k : Nat) => V.int k) = intL (ownBegins gaps front) := rfl
  have hbl : (intL (ownBegins gaps front)).length < 300 := by
    rw [intL_length]
    exact Nat.lt_of_le_of_lt (List.length_filter_le _ _) (by rw [List.length_range]; omega)
  have hB := bl_le gaps front
  refine lf (range1_fit (a := front + 1) rfl (by omega)) (lf (src1_fit (by omega)) (lc (List.range (front + 1)) (FRi _ _ "place") (fun k => decide (gaps.getD k 0 ≠ 0)) (fun (k : Nat) => V.int k) (fun (k : Nat) => V.int k) (.items _) (fun _ _ => rfl) (fun k hk acc K1 K2 k1 k2 => ?_) (by rw [List.length_range]; omega) (e1 ▸ pures_intL _) ?_))
  · have hk := List.mem_range.mp hk
    refine lf (nat_fit (l := gaps) rfl (by omega) (by omega)) (sd (p := (((gaps.getD k 0 : Nat) : Int) ≠ 0)) (fun h => k1 ?_) fun h => k2 ?_)
    · exact decide_eq_true fun z => h (congrArg Int.ofNat z)
    · exact decide_eq_false fun z => h fun z2 => z (Int.ofNat.inj z2)
  · rw [e1]
    refine lf (tr_lst hbl) (sl (fun h => ?_) fun h => ?_)
    · rw [intL_empty] at h
      cases hq : (ownBegins gaps front).getLast? with
      | none => rw [List.getLast?_eq_none_iff.mp hq] at h; cases h
      | some p =>
        have e2 : ownBL gaps front = (p, p) := by rw [ownBL, hq]
        unfold ownRow at q
        rw [e2] at q hB
        exact lf (last_nat hq) (lf (last_nat hq) (ow_fits ht hl hf hB.1 hB.2 hT hTl hb (q _ _ _)))
    · rw [intL_empty] at h
      have e2 : ownBL gaps front = (0, front + 1) := by rw [ownBL, List.isEmpty_iff.mp (not_boolF h)]; rfl
      unfold ownRow at q
      rw [e2] at q hB
      exact ow_fits ht hl hf hB.1 hB.2 hT hTl hb (q _ _ _)
theorem ow_loop {n b tb k : Nat} {O : Objs} {text gaps letters : List Nat} {Q : Fl → List Fr → Objs → Prop} (ht : text.length < 100) (hg : gaps.length = text.length + 1) (hl : letters.length < 100) (hb : b ≤ tb) (hk : k ≤ tb) (fs : List Nat) : ∀ (f : Nat) (O1 : Objs) (T : List (List Nat)) (fr bs bg lw ft : Option V), fs.length < f → (∀ x ∈ fs, x ≤ text.length) → T.length + fs.length < 200 → listAt O1 tb = some (rowsV T) → O1.take k = O →
    (∀ O2 fr bs bg lw ft, listAt O2 tb = some (rowsV (T ++ fs.map (ownRow text gaps letters))) → O2.take k = O → Q .next [⟨owN, owV text gaps letters tb fr bs bg lw ft, false⟩] O2) →
    forW (W G3 (n + 40)) (foT owF) (foB owF) (foE owF) b Q f (.items (rngL fs)) [⟨owN, owV text gaps letters tb fr bs bg lw ft, false⟩] O1 := by
  induction fs with
  | nil =>
    intro f O1 T fr bs bg lw ft hf hx hT hl1 ht1 q
    cases f with
    | zero => exact absurd hf (Nat.not_lt_zero _)
    | succ f => exact q O1 fr bs bg lw ft ((List.append_nil T).symm ▸ hl1) ht1
  | cons x fs ih =>
    intro f O1 T fr bs bg lw ft hf hx hT hl1 ht1 q
    replace hT : T.length + (fs.length + 1) < 200 := hT
    cases f with
    | zero => exact absurd hf (Nat.not_lt_zero _)
    | succ f =>
      have e : rowsV T ++ [V.lst (intL (ownRow text gaps letters x))] = rowsV (T ++ [ownRow text gaps letters x]) := by rw [rowsV, rowsV, List.map_append]; rfl
      show xs _ _ _ _ _ _
      refine ow_body ht hg hl (hx x (List.mem_cons_self ..)) hl1 (by rw [rowsV, List.length_map]; exact Nat.lt_of_le_of_lt (Nat.le_add_right _ _) (by with_reducible assumption)) hb fun bs bg lw ft => ?_
      refine ih f _ (T ++ [ownRow text gaps letters x]) _ bs bg lw ft (Nat.lt_of_succ_lt_succ hf) (fun y hy => hx y (List.mem_cons_of_mem _ hy)) (by rw [List.length_append]; show T.length + 1 + fs.length < 200; omega) (e ▸ list_set hl1) (set_take ht1 hk) fun O2 fr bs bg lw ft h1 h2 => q O2 fr bs bg lw ft ?_ h2
      rw [List.append_assoc] at h1
      exact h1
theorem flat_rowsV (T : List (List Nat)) : flatV 4 (.lst (rowsV T)) = true := List.all_eq_true.mpr fun v hv => by
  obtain ⟨c, _, rfl⟩ := List.mem_map.mp hv; exact flat_intL (n := 1) c
theorem ow_call {n b : Nat} {O : Objs} {text gaps letters : List Nat} {Q : V → Objs → Prop} (ht : text.length < 100) (hg : gaps.length = text.length + 1) (hl : letters.length < 100) (q : Q (.lst (rowsV (ownT text gaps letters))) O) :
    CALL (W G3 (n + 50)) (.cst (.ref 146)) [.str text, .lst (intL gaps), .str letters] [] b Q O := by
  have hw := fun Q q => ow_loop (n := n + 8) (k := O.length) (O := O) (Q := Q) ht hg hl (Nat.le_refl O.length) (Nat.le_refl _) (List.range (text.length + 1)) 300 (O ++ [AObj.list []]) [] none none none none none (by rw [List.length_range]; omega) (fun x hx => Nat.le_of_lt_succ (List.mem_range.mp hx)) (by rw [List.length_range, List.length_nil]; omega) (list_new O _) new_take q
  refine toC (lf (len_str (Nat.lt_trans (by with_reducible assumption) (by decide))) (lf (range1_fit (a := text.length + 1) rfl (by omega)) (lf (src1_fit (by omega)) (toF (hw _ fun O2 fr bs bg lw ft h1 h2 => ?_)))))
  have e : rowsV ([] ++ (List.range (text.length + 1)).map (ownRow text gaps letters)) ++ [V.lst (intL [text.length + 1, text.length + 1])] = rowsV (ownT text gaps letters) := by rw [rowsV, List.nil_append, ownT, rowsV, List.map_append]; rfl
  have ec : binV O2 .Add (.ref O.length) (.lst [V.lst (intL [text.length + 1, text.length + 1])]) = some (.lst (rowsV (ownT text gaps letters))) := by
    rw [← e]
    exact cat_ref h1 (by rw [rowsV, List.length_map, List.nil_append, List.length_map, List.length_range]; show text.length + 1 + 1 < 300; omega)
  exact lf ec (lf (lv (flat_rowsV (ownT text gaps letters))) (vq (Q := Q) h2 q))
set_option backward.match.sparseCases false

noncomputable def splT (x y : List Nat) : List (List Nat) := (Txt.split (S x) (S y)).map fun p => p.cps.toList
noncomputable def joiT (x : List Nat) (l : List (List Nat)) : List Nat := (Txt.join (S x) (l.map S)).cps.toList
noncomputable def splOk (x y : List Nat) : Bool := !y.isEmpty && decide (x.length ≤ 1000000) && decide ((Builtin.Str.partsBetween (S x) (Builtin.Str.occurrences (S x) (S y) 0 x.length (x.length + 1)) y.length).length ≤ 1000000)
noncomputable def joiOk (x : List Nat) (l : List (List Nat)) : Bool := JoinOk (S x) (l.map S)
noncomputable def signs (word : List Nat) : List (List Nat) := word.map fun c => [c]
noncomputable def typ2 (word first second twice both : List Nat) : List Nat := joiT both (splT (joiT twice (splT word (first ++ first))) (first ++ second))
noncomputable def typ0 (word mark : List Nat) : List Nat := joiT mark (signs word) ++ mark
noncomputable def typA (word : List Nat) (base : Nat) : List Nat := word.map fun c => base + c - 97
noncomputable def typN (word : List Nat) (style : Nat) (first second twice both mark : List Nat) (alphabet : Nat) : List Nat :=
  if style % 2 = 1 then typA word (if style = 1 then 65 else alphabet) else if style = 2 then typ2 word first second twice both else typ0 word mark
noncomputable def inB1 (c : Nat) : Bool := b1L.contains (c : Int)
noncomputable def prepL (typed : List Nat) : List (List Nat) := (typed.filter fun c => !inB1 c).map mapB3
noncomputable def prepN (word : List Nat) (style : Nat) (first second twice both mark : List Nat) (alphabet : Nat) : List Nat := joiT [] (prepL (typN word style first second twice both mark alphabet))
noncomputable def signOk (c : Nat) : Bool := decide (c < 2000000) && lenOk (Txt.lower (S [c])).length
structure PrepOk (word : List Nat) (style : Nat) (first second twice both mark : List Nat) (alphabet : Nat) : Prop where
  hw : word.length < 200
  hs : style < 4
  two : style = 2 → first.length + second.length ≤ 1000 ∧ first.length + first.length ≤ 1000 ∧ splOk word (first ++ first) = true ∧ joiOk twice (splT word (first ++ first)) = true ∧ splOk (joiT twice (splT word (first ++ first))) (first ++ second) = true ∧ joiOk both (splT (joiT twice (splT word (first ++ first))) (first ++ second)) = true
  nul : style ≠ 2 → joiOk mark (signs word) = true ∧ (joiT mark (signs word)).length + mark.length ≤ 1000
  odd : style % 2 = 1 → ∀ c ∈ word, 97 ≤ c ∧ c < 1000 ∧ (style = 1 ∨ 60000 ≤ alphabet ∧ alphabet < 900000)
  sg : ∀ c ∈ typN word style first second twice both mark alphabet, signOk c = true
  len : (typN word style first second twice both mark alphabet).length < 290
  fin : joiOk [] (prepL (typN word style first second twice both mark alphabet)) = true
theorem by_contra_b {b : Bool} (h : (b == false) = false) : b = true := by cases b with
  | true => rfl
  | false => cases h
noncomputable def prN : Names := (fScope (stm 18)).names
noncomputable def prV (word : List Nat) (style : Nat) (first second twice both mark : List Nat) (alphabet : Nat) (ty : Option V) : Vars := [(u "word", some (.str word)), (u "style", some (.int style)), (u "first", some (.str first)), (u "second", some (.str second)), (u "twice", some (.str twice)), (u "both", some (.str both)), (u "mark", some (.str mark)), (u "alphabet", some (.int alphabet)), (u "typed", ty)]
theorem list_str {b : Nat} {O : Objs} {l : List Nat} (h : l.length < 300) : callY (u "list") [.str l] b O = some (.ref O.length, O ++ [.list (strL (signs l))]) := by
  have e : callY (u "list") [.str l] b O = if lenOk (l.map fun c => V.str [c]).length then some (.ref O.length, O ++ [.list (l.map fun c => V.str [c])]) else none := by kernel_rfl!
  rw [e, if_pos (lenOk_3 (by rw [List.length_map]; exact h)), strL, signs, List.map_map]; rfl
theorem chr_fit {b : Nat} {O : Objs} {i : Int} {k : Nat} (e : i = (k : Nat)) (h : k < 55000 ∨ 60000 ≤ k ∧ k < 1000000) : callB (u "chr") [.int i] b O = some (.str [k], O) := by
  subst e
  have e : callB (u "chr") [.int (k : Nat)] b O = if 0 ≤ (k : Int) && (decide (k < 55000) || Nat.ble 60000 k && decide (k < 1000000)) then some (.str [k], O) else none := by kernel_rfl!
  refine e.trans (if_pos (Bool.and_eq_true_iff.mpr ⟨decide_eq_true (Int.natCast_nonneg k), Bool.or_eq_true_iff.mpr (h.imp decide_eq_true fun h => Bool.and_eq_true_iff.mpr ⟨Nat.ble_eq.mpr h.1, decide_eq_true h.2⟩)⟩))
theorem spl_fit {x y : List Nat} {b : Nat} {O : Objs} (h : splOk x y = true) : methV G3 (u "split") (.str x) [.str y] b O = some (.ref O.length, O ++ [.list (strL (splT x y))]) := split_fit h
theorem joi_fit {x : List Nat} {v : V} {l : List (List Nat)} {b : Nat} {O : Objs} (h : itemsOf O v = some (strL l)) (hj : joiOk x l = true) : methV G3 (u "join") (.str x) [v] b O = some (.str (joiT x l), O) := join_fit h hj
theorem pures_s {α : Type} (f : α → List Nat) : ∀ l : List α, pures (l.map fun a => V.str (f a)) = true
  | [] => rfl
  | _ :: l => pures_s f l
theorem pr_last {n b k : Nat} {O O1 : Objs} {word : List Nat} {style : Nat} {first second twice both mark : List Nat} {alphabet : Nat} {tv : V} {t : List Nat} {Q : V → Objs → Prop} (htv : srcOf O1 tv = some (.items (t.map fun c => .str [c]))) (hsg : ∀ c ∈ t, signOk c = true) (hl : t.length < 290) (hf : joiOk [] (prepL t) = true) (hT : O1.take k = O) (q : Q (.str (joiT [] (prepL t))) O) :
    xs (W G3 (n + 40)) ((fBody (stm 18)).drop 2) [⟨prN, prV word style first second twice both mark alphabet (some tv), false⟩] b (fun f _ O1 => match f with
      | .ret v => Lf (leave k v O1) fun r => Q r (O1.take k)
      | .next => Q .none (O1.take k)
      | _ => False) O1 := by
  have e1 : ((t.filter fun c => !inB1 c).map fun c => V.str (mapB3 c)) = strL (prepL t) := by rw [prepL, strL, List.map_map]; rfl
  refine lf htv (lc t (FRg (fun c => .str [c]) _ _ "sign") (fun c => !inB1 c) (fun c => .str (mapB3 c)) (fun c => .str [c]) (.items _) (fun _ _ => rfl) (fun c hc acc K1 K2 k1 k2 => ?_) (Nat.lt_trans (by with_reducible assumption) (by decide)) (pures_s _ _) ?_)
  · have h := Bool.and_eq_true_iff.mp (hsg c hc)
    refine b1_call (of_decide_eq_true h.1) (sl (t := b1L.contains (c : Int) == false) (fun h2 => b3_call (of_decide_eq_true h.1) h.2 (k1 ?_)) fun h2 => k2 ?_)
    · exact congrArg (!·) (show inB1 c = false from eq_of_beq h2)
    · exact congrArg (!·) (show inB1 c = true from by_contra_b h2)
  · rw [e1]
    exact lf (joi_fit rfl hf) (vq (Q := Q) hT q)
theorem ch_up {c : Nat} (h : 97 ≤ c ∧ c < 1000) : (65 : Int) + c - 97 = ((65 + c - 97 : Nat) : Int) ∧ 65 + c - 97 < 55000 := by omega
theorem ch_al {a c : Nat} (h : 97 ≤ c ∧ c < 1000) (h2 : 60000 ≤ a ∧ a < 900000) : (a : Int) + c - 97 = ((a + c - 97 : Nat) : Int) ∧ 60000 ≤ a + c - 97 ∧ a + c - 97 < 1000000 := by omega
theorem pr_mid {n b k : Nat} {O O1 : Objs} {word : List Nat} {style : Nat} {first second twice both mark : List Nat} {alphabet : Nat} {t0 : List Nat} {Q : V → Objs → Prop} (H : PrepOk word style first second twice both mark alphabet) (h0 : style % 2 ≠ 1 → typN word style first second twice both mark alphabet = t0) (hT : O1.take k = O) (q : Q (.str (prepN word style first second twice both mark alphabet)) O) :
    xs (W G3 (n + 41)) ((fBody (stm 18)).drop 1) [⟨prN, prV word style first second twice both mark alphabet (some (.str t0)), false⟩] b (fun f _ O1 => match f with
      | .ret v => Lf (leave k v O1) fun r => Q r (O1.take k)
      | .next => Q .none (O1.take k)
      | _ => False) O1 := by
  have hw := H.hw
  refine sd (p := ((style : Int) % 2 ≠ 0)) (fun h => ?_) fun h => ?_
  · have ho : style % 2 = 1 := odd_of h
    have et : typN word style first second twice both mark alphabet = typA word (if style = 1 then 65 else alphabet) := if_pos ho
    have e1 : (word.map fun c => V.str [(if style = 1 then 65 else alphabet) + c - 97]) = (typA word (if style = 1 then 65 else alphabet)).map fun c => V.str [c] := by rw [typA, List.map_map]; rfl
    refine lcm word (FRg (fun c => .str [c]) _ _ "sign") (fun c => .str [(if style = 1 then 65 else alphabet) + c - 97]) (fun c => .str [c]) (.items _) (fun _ _ => rfl) (fun c hc acc K1 K2 k1 k2 => ?_) (Nat.lt_trans (by with_reducible assumption) (by decide)) (pures_s _ _) ?_
    · have hb := H.odd ho c hc
      by_cases h1 : style = 1
      · subst h1
        exact lf (chr_fit (k := 65 + c - 97) (ch_up ⟨hb.1, hb.2.1⟩).1 (.inl (ch_up ⟨hb.1, hb.2.1⟩).2)) (k1 rfl)
      · have hc := ch_al ⟨hb.1, hb.2.1⟩ (hb.2.2.resolve_left h1)
        refine slF (t := decide ((style : Int) = 1)) (decide_eq_false fun z => h1 (Int.ofNat.inj z)) (lf (chr_fit (k := alphabet + c - 97) hc.1 (.inr hc.2)) ?_)
        rw [if_neg h1] at k1
        exact k1 rfl
    · rw [e1]
      refine Lf.of rfl (xn ?_)
      exact pr_last (n := n + 1) rfl (et ▸ H.sg) (et ▸ H.len) (et ▸ H.fin) hT (et ▸ q)
  · have et := h0 (even_of h)
    refine xn ?_
    exact pr_last (n := n + 1) rfl (et ▸ H.sg) (et ▸ H.len) (et ▸ H.fin) hT (et ▸ q)
theorem pr_call {n b : Nat} {O : Objs} {word : List Nat} {style : Nat} {first second twice both mark : List Nat} {alphabet : Nat} {Q : V → Objs → Prop} (H : PrepOk word style first second twice both mark alphabet) (q : Q (.str (prepN word style first second twice both mark alphabet)) O) :
    CALL (W G3 (n + 43)) (.cst (.ref 141)) [.str word, .int style, .str first, .str second, .str twice, .str both, .str mark, .int alphabet] [] b Q O := by
  have hw := H.hw
  by_cases h2 : style = 2
  · subst h2
    obtain ⟨a1, a2, a3, a4, a5, a6⟩ := H.two rfl
    refine toC (lf (cat_str (Nat.lt_of_le_of_lt (by with_reducible assumption) (by decide))) (lf (spl_fit a3) (lf (joi_fit (list_new _ _) a4) (lf (cat_str (Nat.lt_of_le_of_lt (by with_reducible assumption) (by decide))) (lf (spl_fit a5) (lf (joi_fit (list_new _ _) a6) ?_))))))
    exact pr_mid (n := n + 1) H (fun _ => rfl) (by rw [List.append_assoc]; exact new_take) q
  · obtain ⟨a1, a2⟩ := H.nul h2
    refine toC (slF (t := decide ((style : Int) = 2)) (decide_eq_false (by omega)) (lf (list_str (Nat.lt_trans (by with_reducible assumption) (by decide))) (lf (joi_fit (list_new _ _) a1) (lf (cat_str (Nat.lt_of_le_of_lt (by with_reducible assumption) (by decide))) ?_))))
    exact pr_mid (n := n + 1) H (fun h => (if_neg h).trans (if_neg h2)) new_take q
set_option backward.match.sparseCases true
theorem slN {A B : Prop} (h : B) : sel false A B := h
theorem slY {A B : Prop} (h : A) : sel true A B := h

theorem pyEqs_refl {f : V → V → Option Bool} : ∀ l : List V, (∀ v ∈ l, f v v = some true) → pyEqs f l l = some true
  | [], _ => rfl
  | v :: l, h => bs (h v (List.mem_cons_self ..)) (by rw [pyEqs_refl l fun x hx => h x (List.mem_cons_of_mem _ hx)]; rfl)
theorem eq_refl {O : Objs} {a c : V} {l : List V} (ha : itemsOf O a = some l) (hc : itemsOf O c = some l) (hl : ∀ v ∈ l, pyEq O 8 v v = some true) : pyEq O 9 a c = some true := by
  have e : eqL O (pyEq O 8) l c = some true := bs hc ((if_pos (beq_self_eq_true _)).trans (pyEqs_refl l hl))
  cases a with
  | lst l' => cases ha; exact e
  | ref n => exact bs (show listAt O n = some l from ha) e
  | _ => cases ha
theorem eq_int (O : Objs) (n : Nat) (i : Int) : pyEq O (n + 1) (.int i) (.int i) = some true := congrArg some (decide_eq_true rfl)
theorem eq_str (O : Objs) (n : Nat) (i : List Nat) : pyEq O (n + 1) (.str i) (.str i) = some true := congrArg some (decide_eq_true rfl)
theorem eq_pair {O : Objs} {n : Nat} {x y : V} (hx : pyEq O n x x = some true) (hy : pyEq O n y y = some true) : pyEq O (n + 1) (.tup [x, y]) (.tup [x, y]) = some true :=
  show pyEqs (pyEq O n) [x, y] [x, y] = some true from pyEqs_refl [x, y] fun v hv => by
    rcases List.mem_cons.mp hv with rfl | hv
    · exact hx
    · cases List.mem_singleton.mp hv; exact hy
theorem eq_fit {O : Objs} {a c : V} {l : List V} (ha : itemsOf O a = some l) (hc : itemsOf O c = some l) (hl : ∀ v ∈ l, pyEq O 8 v v = some true) : cmpV G3 O .Eq a c = some true := eq_refl ha hc hl
theorem ne_fit {O : Objs} {a c : V} {l : List V} (ha : itemsOf O a = some l) (hc : itemsOf O c = some l) (hl : ∀ v ∈ l, pyEq O 8 v v = some true) : cmpV G3 O .NotEq a c = some false := congrArg (Option.map (!·)) (eq_refl ha hc hl)
theorem eq_intL (O : Objs) (l : List Nat) : ∀ v ∈ intL l, pyEq O 8 v v = some true := fun v hv => by
  obtain ⟨c, _, rfl⟩ := List.mem_map.mp hv; exact eq_int O 7 _
theorem eq_strL (O : Objs) (l : List (List Nat)) : ∀ v ∈ strL l, pyEq O 8 v v = some true := fun v hv => by
  obtain ⟨c, _, rfl⟩ := List.mem_map.mp hv; exact eq_str O 7 _
theorem eq_pairL {α : Type} {f : α → Nat} {g : α → V} (O : Objs) (hg : ∀ a, pyEq O 7 (g a) (g a) = some true) (l : List α) : ∀ v ∈ pairL f g l, pyEq O 8 v v = some true := fun v hv => by
  obtain ⟨c, _, rfl⟩ := List.mem_map.mp hv; exact eq_pair (eq_int O 6 _) (hg c)

noncomputable def lwN : Names := (fScope (stm 24)).names
noncomputable def lwB : List Stmt := fBody (stm 24)
noncomputable def lwV (scr k_ ce pa ms mk al wo a_ he du te ga pt ta fr ro bo co pr wh bs nm fi ex ru sh : Option V) : Vars := [(u "script", scr), (u "k", k_), (u "cells", ce), (u "pair", pa), (u "marks", ms), (u "mark", mk), (u "alphabet", al), (u "words", wo), (u "at", a_), (u "heard", he), (u "due", du), (u "text", te), (u "gaps", ga), (u "pattern", pt), (u "table", ta), (u "fronts", fr), (u "rows", ro), (u "book", bo), (u "common", co), (u "parts", pr), (u "whole", wh), (u "base", bs), (u "names", nm), (u "first", fi), (u "explored", ex), (u "rules", ru), (u "shown", sh)]
noncomputable def lwF (scr k_ ce pa ms mk al wo a_ he du te ga pt ta fr ro bo co pr wh bs nm fi ex ru sh : Option V) : List Fr := [⟨lwN, lwV scr k_ ce pa ms mk al wo a_ he du te ga pt ta fr ro bo co pr wh bs nm fi ex ru sh, false⟩]

noncomputable def Well (O : Objs) (Q : Fl → List Fr → Objs → Prop) : Prop := ∀ F O1, O1.take O.length = O → Q (.ret (.bool true)) F O1
noncomputable def comN (rows : List Nat) : List Nat := (List.range 16).map fun c => commonN c rows 15
section
variable {n b : Nat} {O O1 : Objs} {Q : Fl → List Fr → Objs → Prop} {scr k_ ce pa ms mk al wo a_ he du te ga pt ta fr ro bo co pr wh bs nm fi ex ru sh : Option V}
theorem com_v (Sh : List Nat) : ((List.range 16).map fun c => V.int (commonN c Sh 15 : Nat)) = intL (comN Sh) := by rw [comN, intL, List.map_map]; rfl
theorem lw_23 {R : List (Nat × Nat)} {Sh com : List Nat} (hSl : Sh.length < 200) (hcom : comN Sh = com) (hT : O1.take O.length = O) (q : Well O Q) :
    xs (W G3 (n + 80)) (lwB.drop 23) (lwF scr k_ ce pa ms mk al wo a_ he du te ga pt ta fr ro bo (some (.lst (intL com))) pr wh (some (.lst (ruleV R))) nm fi ex (some (.lst (ruleV R))) (some (.lst (intL Sh)))) b Q O1 := by
  refine lf (eq_fit rfl rfl (eq_pairL (f := fun x : Nat × Nat => x.1) (g := fun x => .int (x.2 : Nat)) _ (fun x => eq_int _ 6 _) R)) (lcm (List.range 16) (FRi _ _ "chosen") (fun c => V.int (commonN c Sh 15 : Nat)) (fun (c : Nat) => .int c) (.items _) (fun _ _ => rfl) (fun c hc acc K1 K2 k1 k2 => co_call (rs := Sh) rfl (Nat.lt_trans (by with_reducible assumption) (by decide)) (k1 rfl)) (by decide) (pures_i _ _) ?_)
  rw [com_v, hcom]
  exact lf (eq_fit rfl rfl (eq_intL _ com)) (q _ _ hT)
theorem s_22 {Sh : List Nat} (hSl : Sh.length < 200) (hx : ∀ i, i < Sh.length → blR (zL Sh) (Sh.getD i 0) Sh.length 0 Sh.length = i ∧ brR (zL Sh) (Sh.getD i 0) Sh.length 0 Sh.length = i + 1) (q : Q .next (lwF scr k_ ce pa ms mk al wo a_ he du te ga pt ta fr ro bo co pr wh bs nm fi ex ru (some (.lst (intL Sh)))) O1) :
    (W G3 (n + 80)).s (stAt lwB 22) (lwF scr k_ ce pa ms mk al wo a_ he du te ga pt ta fr ro bo co pr wh bs nm fi ex ru (some (.lst (intL Sh)))) b Q O1 := by
  have e : (Sh.map fun (r : Nat) => V.tup [.int (blR (zL Sh) r Sh.length 0 Sh.length : Nat), .int (brR (zL Sh) r Sh.length 0 Sh.length : Nat)]) = (List.range Sh.length).map fun (i : Nat) => V.tup [.int i, .int ((i + 1 : Nat) : Int)] := by
    apply List.ext_getElem (by rw [List.length_map, List.length_map, List.length_range])
    intro i h1 h2
    rw [List.length_map] at h1
    have h := hx i h1
    rw [List.getD_eq_getElem?_getD, List.getElem?_eq_getElem h1, Option.getD_some] at h
    rw [List.getElem_map, List.getElem_map, List.getElem_range, h.1, h.2]
  refine lcm Sh (FRi _ _ "row") (fun (r : Nat) => V.tup [.int (blR (zL Sh) r Sh.length 0 Sh.length : Nat), .int (brR (zL Sh) r Sh.length 0 Sh.length : Nat)]) (fun (c : Nat) => .int c) (.items _) (fun _ _ => rfl) (fun c hc acc K1 K2 k1 k2 => bl_int (a := .lst (intL Sh)) rfl (Nat.lt_trans (by with_reducible assumption) (by decide)) (br_int (a := .lst (intL Sh)) rfl (Nat.lt_trans (by with_reducible assumption) (by decide)) (k1 rfl))) (Nat.lt_trans (by with_reducible assumption) (by decide)) ?_ ?_
  · rw [e]; exact pures_pair (f := fun i : Nat => i) (g := fun i => .int ((i + 1 : Nat) : Int)) (fun _ => rfl) _
  · refine lf (len_fit (v := .lst (intL Sh)) rfl (by rw [intL_length]; exact Nat.lt_trans (by with_reducible assumption) (by decide))) (lf (range1_fit (a := Sh.length) (by rw [intL_length]) (Nat.lt_trans (by with_reducible assumption) (by decide))) (lf (src1_fit (Nat.lt_trans (by with_reducible assumption) (by decide))) (lcm (List.range Sh.length) (FRi _ _ "at") (fun (i : Nat) => V.tup [.int i, .int ((i + 1 : Nat) : Int)]) (fun (c : Nat) => .int c) (.items _) (fun _ _ => rfl) (fun c hc acc K1 K2 k1 k2 => k1 rfl) (by rw [List.length_range]; exact Nat.lt_trans (by with_reducible assumption) (by decide)) (pures_pair (f := fun i : Nat => i) (g := fun i => .int ((i + 1 : Nat) : Int)) (fun _ => rfl) _) ?_)))
    rw [e]
    refine lf (ne_fit rfl rfl (eq_pairL (f := fun i : Nat => i) (g := fun i => .int ((i + 1 : Nat) : Int)) _ (fun _ => eq_int _ 6 _) _)) q
theorem s_21 {R S : V} (q : Q .next (lwF scr k_ ce pa ms mk al wo a_ he du te ga pt ta fr ro bo co pr wh bs nm fi (some (.tup [R, S])) (some R) (some S)) O1) :
    (W G3 (n + 80)).s (stAt lwB 21) (lwF scr k_ ce pa ms mk al wo a_ he du te ga pt ta fr ro bo co pr wh bs nm fi (some (.tup [R, S])) ru sh) b Q O1 := q
noncomputable def kV (p : Nat × Int) : V := .tup [.int p.1, .int p.2]
noncomputable def signN (j : Nat) : Int := if j % 2 = 1 then -(j : Int) else j
noncomputable def keysN (R : List Nat) : List (Nat × Int) := (List.range 15).map fun j => (R.getD j 0, signN j)
noncomputable def behind (W : List (List Nat)) (p : Nat × Int) : Nat × List Nat := (p.1, W.getD p.2.natAbs [])
theorem neg_fit {k : Nat} (h : k < 1000000) : negV (.int (k : Nat)) = some (.int (-(k : Int))) := if_pos (intOk_lt h)
theorem abs_fit {i : Int} {b : Nat} {O : Objs} (h : i.natAbs < 1000000) : callB (u "abs") [.int i] b O = some (.int (i.natAbs : Nat), O) :=
  (show callB (u "abs") [.int i] b O = (if intOk i then some (V.int (i.natAbs : Nat), O) else none) by kernel_rfl!).trans (if_pos (decide_eq_true (Nat.lt_trans (Nat.lt_trans h (show 1000000 < 2 ^ 300 by decide)) (Nat.pow_lt_pow_of_lt (by decide) (by decide)))))
theorem sort_fit {l r : List V} {b : Nat} {O : Objs} (h2 : 2 ≤ l.length) (h64 : l.length < 64) (h : sortV l = some r) : callB (u "sorted") [.lst l] b O = some (.lst r, O) := by
  have e : callB (u "sorted") [.lst l] b O = if 2 ≤ l.length && l.length < 64 then (sortV l).map fun r => (V.lst r, O) else none := by kernel_rfl!
  rw [e, if_pos (Bool.and_eq_true_iff.mpr ⟨decide_eq_true h2, decide_eq_true h64⟩), h]; rfl
theorem str_fit {v : V} {l : List (List Nat)} {k : Nat} {O : Objs} (h : itemsOf O v = some (strL l)) (hs : l.length < 300) (hk : k < l.length) : indexV O v (.int (k : Nat)) = some (.str (l.getD k [])) :=
  at_fit h (strL_lt hs) (by rw [strL, List.getElem?_map, List.getElem?_eq_getElem hk, List.getD_eq_getElem?_getD, List.getElem?_eq_getElem hk]; rfl)
theorem kq2 {K : V → Objs → Prop} {O : Objs} {x : V} {i j : Int} (e : i = j) (k : K (.tup [x, .int j]) O) : K (.tup [x, .int i]) O := e ▸ k
theorem sq {K : V → Objs → Prop} {O : Objs} {i j : List Nat} (e : i = j) (k : K (.str j) O) : K (.str i) O := e ▸ k
theorem s_20 {kb : Nat} {R : List Nat} {W0 : List (List Nat)} {bk : List (Nat × List Nat)} {sk : List (Nat × Int)} {ev : List V} (hk : listAt O1 kb = some (bookV bk)) (hRl : R.length = 15) (hWl : W0.length = 15) (hsort : sortV ((keysN R).map kV) = some (sk.map kV)) (hsl : sk.length < 200) (hsa : ∀ p ∈ sk, p.2.natAbs < 15) (hbk : bk = sk.map (behind W0))
    (q : Q .next (lwF scr k_ ce pa ms mk al (some (.lst (strL W0))) a_ he du te ga pt ta fr (some (.lst (intL R))) (some (.ref kb)) co pr wh bs nm fi (some (.tup ev)) ru sh) O1) :
    (W G3 (n + 80)).s (stAt lwB 20) (lwF scr k_ ce pa ms mk al (some (.lst (strL W0))) a_ he du te ga pt ta fr (some (.lst (intL R))) (some (.ref kb)) co pr wh bs nm fi (some (.tup ev)) ru sh) b Q O1 := by
  have e9 : ((List.range 15).map fun j => V.tup [.int (R.getD j 0 : Nat), .int (signN j)]) = (keysN R).map kV := by rw [keysN, List.map_map]; rfl
  have e8 : (sk.map fun p => V.tup [.int (p.1 : Nat), .str (W0.getD p.2.natAbs [])]) = bookV bk := by rw [hbk, bookV, pairL, List.map_map]; rfl
  refine lcm (List.range 15) (FRi _ _ "at") (fun j => V.tup [.int (R.getD j 0 : Nat), .int (signN j)]) (fun (c : Nat) => .int c) (.items _) (fun _ _ => rfl) (fun j hj acc K1 K2 k1 k2 => ?_) (by decide) (pures_pair (f := fun j => R.getD j 0) (g := fun j => .int (signN j)) (fun _ => rfl) _) ?_
  · have hj := List.mem_range.mp hj
    refine lf (nat_fit (l := R) rfl (Nat.lt_of_le_of_lt (Nat.le_of_eq (by with_reducible assumption)) (by decide)) (Nat.lt_of_lt_of_le (by with_reducible assumption) (Nat.le_of_eq (Eq.symm (by with_reducible assumption))))) (sd (p := ((j : Int) % 2 ≠ 0)) (fun h => ?_) fun h => ?_)
    · have e : signN j = -(j : Int) := if_pos (by omega)
      exact lf (neg_fit (Nat.lt_trans (by with_reducible assumption) (by decide))) (kq2 e.symm (k1 rfl))
    · have e : signN j = (j : Int) := if_neg (by omega)
      exact kq2 e.symm (k1 rfl)
  · rw [e9]
    refine lf (sort_fit (by rw [List.length_map, keysN, List.length_map]; decide) (by rw [List.length_map, keysN, List.length_map]; decide) hsort) ?_
    refine lcm sk (fun t => ⟨_, [(u ".0", none), (u "row", t.map fun p => .int (p.1 : Nat)), (u "at", t.map fun p => .int p.2)], false⟩ :: _) (fun p => V.tup [.int (p.1 : Nat), .str (W0.getD p.2.natAbs [])]) kV (.items _) (fun _ _ => rfl) (fun p hp acc K1 K2 k1 k2 => ?_) (Nat.lt_trans (by with_reducible assumption) (by decide)) (pures_pair (f := fun p : Nat × Int => p.1) (g := fun p => .str (W0.getD p.2.natAbs [])) (fun _ => rfl) _) ?_
    · have ha := hsa p hp
      exact lf (abs_fit (Nat.lt_trans (by with_reducible assumption) (by decide))) (lf (str_fit (l := W0) rfl (Nat.lt_of_le_of_lt (Nat.le_of_eq (by with_reducible assumption)) (by decide)) (Nat.lt_of_lt_of_le (by with_reducible assumption) (Nat.le_of_eq (Eq.symm (by with_reducible assumption))))) (k1 rfl))
    · rw [e8]
      exact lf (ne_fit (a := .ref kb) hk rfl (eq_pairL (f := fun x : Nat × List Nat => x.1) (g := fun x => .str x.2) _ (fun _ => eq_str _ 6 _) bk)) q
theorem s_19 {kb f : Nat} {C : List Nat} {ns : List (List Nat)} {bk : List (Nat × List Nat)} (h8 : C.length = 8) (H : Hears ns f (C.getD 7 0 % 3) (C.getD 7 0 / 3 % 2 * 128)) (hk : listAt O1 kb = some (bookV bk)) (hbk : bk.length < 300)
    {v : V} (hv : expV (exGo bk (List.range 16) [] []) = v) (q : Q .next (lwF scr k_ (some (.lst (intL C))) pa ms mk al wo a_ he du te ga pt ta fr ro (some (.ref kb)) co pr wh bs (some (.lst (strL ns))) (some (.int (f : Nat))) (some v) ru sh) O1) :
    (W G3 (n + 80)).s (stAt lwB 19) (lwF scr k_ (some (.lst (intL C))) pa ms mk al wo a_ he du te ga pt ta fr ro (some (.ref kb)) co pr wh bs (some (.lst (strL ns))) (some (.int (f : Nat))) ex ru sh) b Q O1 := by
  have h7 : C.getD 7 0 / 3 % 2 < 2 := Nat.mod_lt _ (by decide)
  exact lf (nat_fit (l := C) (k := 7) rfl (Nat.lt_of_le_of_lt (Nat.le_of_eq (by with_reducible assumption)) (by decide)) (by rw [(by with_reducible assumption : List.length _ = _)]; decide)) (lf (nat_fit (l := C) (k := 7) rfl (Nat.lt_of_le_of_lt (Nat.le_of_eq (by with_reducible assumption)) (by decide)) (by rw [(by with_reducible assumption : List.length _ = _)]; decide)) (lf (mul_fit (a := C.getD 7 0 / 3 % 2) (d := 128) (Nat.lt_trans h7 (by decide)) (by decide)) (xp_call (no := C.getD 7 0 % 3) (hi := C.getD 7 0 / 3 % 2 * 128) H hk hbk hv q)))
noncomputable def name4 (nm : List (List Nat)) (f k : Nat) : List Nat := if f + k < 10 then nm.getD (f + k) [] else hexT (2 ^ (f + k))
noncomputable def names4 (nm : List (List Nat)) (f : Nat) : List (List Nat) := [0, 1, 2, 3].map (name4 nm f)
theorem s_18 {nb f : Nat} {nl : List (List Nat)} (hn : listAt O1 nb = some (strL nl)) (h10 : nl.length = 10) (hf : f < 12) (q : Q .next (lwF scr k_ ce pa ms mk al wo a_ he du te ga pt ta fr ro bo co pr wh bs (some (.lst (strL (names4 nl f)))) (some (.int (f : Nat))) ex ru sh) O1) :
    (W G3 (n + 80)).s (stAt lwB 18) (lwF scr k_ ce pa ms mk al wo a_ he du te ga pt ta fr ro bo co pr wh bs (some (.ref nb)) (some (.int (f : Nat))) ex ru sh) b Q O1 := by
  refine lcm [0, 1, 2, 3] (FRi _ _ "k") (fun k => V.str (name4 nl f k)) (fun (c : Nat) => .int c) (.items _) (fun _ _ => rfl) (fun k hk acc K1 K2 k1 k2 => ?_) (by decide) (pures_s _ _) q
  have hk4 : k < 4 := by
    simp only [List.mem_cons, List.not_mem_nil, or_false] at hk
    omega
  refine sd (p := ((f : Int) + k < 10)) (fun h => ?_) fun h => ?_
  · have h : f + k < 10 := by omega
    have e : name4 nl f k = nl.getD (f + k) [] := if_pos h
    exact lf (str_fit (v := .ref nb) (k := f + k) (listAt_app hn) (Nat.lt_of_le_of_lt (Nat.le_of_eq (by with_reducible assumption)) (by decide)) (Nat.lt_of_lt_of_le (by with_reducible assumption) (Nat.le_of_eq (Eq.symm (by with_reducible assumption))))) (sq e.symm (k1 rfl))
  · have h : ¬ f + k < 10 := by omega
    have e : name4 nl f k = hexT (2 ^ (f + k)) := if_neg h
    exact lf (pow_fit (d := 2) (k := f + k) rfl (by omega)) (lf (hex_fit (f := 2 ^ (f + k)) (pow_lt (by omega))) (sq e.symm (k1 rfl)))
theorem s_17 {C : List Nat} (h8 : C.length = 8) (q : Q .next (lwF scr k_ (some (.lst (intL C))) pa ms mk al wo a_ he du te ga pt ta fr ro bo co pr wh bs nm (some (.int (C.getD 6 0 % 12 : Nat))) ex ru sh) O1) :
    (W G3 (n + 80)).s (stAt lwB 17) (lwF scr k_ (some (.lst (intL C))) pa ms mk al wo a_ he du te ga pt ta fr ro bo co pr wh bs nm fi ex ru sh) b Q O1 :=
  lf (nat_fit (l := C) (k := 6) rfl (Nat.lt_of_le_of_lt (Nat.le_of_eq (by with_reducible assumption)) (by decide)) (by rw [(by with_reducible assumption : List.length _ = _)]; decide)) q
noncomputable def nmL : List (List Nat) := ["OPTIMIZED", "NEWLOCALS", "VARARGS", "VARKEYWORDS", "NESTED", "GENERATOR", "NOFREE", "COROUTINE", "ITERABLE_COROUTINE", "ASYNC_GENERATOR"].map fun s => (Str.ofString s).cps.toList
theorem words_nm (b : Nat) (O : Objs) : methV G3 (u "split") (.str (Str.ofString "OPTIMIZED NEWLOCALS VARARGS VARKEYWORDS NESTED GENERATOR NOFREE COROUTINE ITERABLE_COROUTINE ASYNC_GENERATOR").cps.toList) [] b O = some (.ref O.length, O ++ [.list (strL nmL)]) := by kernel_rfl!
theorem s_16 (q : Q .next (lwF scr k_ ce pa ms mk al wo a_ he du te ga pt ta fr ro bo co pr wh bs (some (.ref O1.length)) fi ex ru sh) (O1 ++ [.list (strL nmL)])) :
    (W G3 (n + 80)).s (stAt lwB 16) (lwF scr k_ ce pa ms mk al wo a_ he du te ga pt ta fr ro bo co pr wh bs nm fi ex ru sh) b Q O1 :=
  lf (words_nm b O1) q
end

theorem any_nat (x : Nat) : ∀ l : List Nat, anyEq (intL l) (.int x) = some (l.contains x)
  | [] => rfl
  | y :: l => by
    show (leafEq (.int (y : Nat)) (.int x)).bind _ = _
    rw [show leafEq (.int (y : Nat)) (.int x) = some (decide ((y : Int) = x)) from rfl, Option.bind_some]
    show (anyEq (intL l) (.int x)).map _ = _
    rw [any_nat x l, Option.map_some, List.contains_cons]
    congr 2
    exact Bool.eq_iff_iff.mpr ⟨fun h => beq_iff_eq.mpr (Int.ofNat.inj (of_decide_eq_true h)).symm, fun h => decide_eq_true (congrArg Int.ofNat (beq_iff_eq.mp h).symm)⟩
theorem in_nats {O : Objs} {x : Nat} {l : List Nat} : cmpV G3 O .In (.int x) (.lst (intL l)) = some (l.contains x) := any_nat x l
theorem init_fit {O : Objs} {l : List V} (h1 : 1 ≤ l.length) (hs : l.length < 300) : sliceV O (.lst l) .none (.int (-1)) .none = some (.lst (l.take (l.length - 1))) := by
  have e : sliceIdx none (some (-1)) none l.length = some (sliceRange (0 : Nat) (l.length - 1 : Nat) 1) := by
    have e2 : clipV l.length 1 (some (-1)) l.length = ((l.length - 1 : Nat) : Int) := by
      show max 0 (min (-1 + (l.length : Int)) l.length) = _
      rw [neg_one_add h1, Int.min_eq_left (Int.ofNat_le.mpr (Nat.sub_le ..)), Int.max_eq_right (Int.natCast_nonneg _)]
    exact congrArg (fun i => some (sliceRange (0 : Nat) i 1)) e2
  have e3 := sl_fit (lo := .none) (hi := .int (-1)) (O := O) (v := .lst l) rfl hs rfl rfl e
  rwa [picked_run, List.drop_zero, Nat.sub_zero] at e3
noncomputable def partN (c : Nat) : List Nat := (List.range (c + 1)).filter fun p => decide (p &&& c = p)
noncomputable def partsN : List (List Nat) := (List.range 16).map partN
noncomputable def wholeP (com : List Nat) (c p : Nat) : Bool := !decide (com.getD p 0 = com.getD c 0) && !decide (com.getD p 0 &&& c = com.getD p 0)
noncomputable def wholeN (com : List Nat) : List Nat := (List.range 16).filter fun c => ((partN c).filter (wholeP com c)).isEmpty
noncomputable def baseP (com wh : List Nat) (c p : Nat) : Bool := wh.contains p && decide (com.getD p 0 = com.getD c 0)
noncomputable def baseC (com wh : List Nat) (c : Nat) : Bool := !decide (com.getD c 0 = c) && (((partN c).take ((partN c).length - 1)).filter (baseP com wh c)).isEmpty
noncomputable def baseN (com wh : List Nat) : List (Nat × Nat) := (wh.filter (baseC com wh)).map fun c => (c, com.getD c 0)
theorem partN_lt {c p : Nat} (hp : p ∈ partN c) : p < c + 1 := List.mem_range.mp (List.mem_filter.mp hp).1
theorem partN_len (c : Nat) : (partN c).length ≤ c + 1 := Nat.le_trans (List.length_filter_le _ _) (Nat.le_of_eq List.length_range)
theorem partN_self (c : Nat) : 1 ≤ (partN c).length := List.length_pos_of_mem (a := c) (List.mem_filter.mpr ⟨List.mem_range.mpr (Nat.lt_succ_self c), decide_eq_true (Nat.and_self c)⟩)
theorem parts_fit {c : Nat} {O : Objs} (hc : c < 16) : indexV O (.lst (rowsV partsN)) (.int (c : Nat)) = some (.lst (intL (partN c))) :=
  at_fit (l := rowsV partsN) rfl (by decide) (by rw [rowsV, partsN, List.map_map, List.getElem?_map, List.getElem?_range hc]; rfl)
theorem deq (a c : Nat) : decide ((a : Int) = (c : Nat)) = decide (a = c) := Bool.eq_iff_iff.mpr ⟨fun h => decide_eq_true (Int.ofNat.inj (of_decide_eq_true h)), fun h => decide_eq_true (congrArg Int.ofNat (of_decide_eq_true h))⟩
theorem and_t {a b : Bool} (h : a = true) (h2 : b = true) : (a && b) = true := by rw [h, h2]; rfl
theorem and_l {a b : Bool} (h : a = false) : (a && b) = false := by rw [h]; rfl
theorem and_r {a b : Bool} (h : b = false) : (a && b) = false := by rw [h, Bool.and_false]
section
variable {n b : Nat} {O O1 : Objs} {Q : Fl → List Fr → Objs → Prop} {scr k_ ce pa ms mk al wo a_ he du te ga pt ta fr ro bo co pr wh bs nm fi ex ru sh : Option V}
theorem s_15 {com w : List Nat} (hl : com.length = 16) (hwl : w.length < 100) (hwi : ∀ c ∈ w, c < 16) (q : Q .next (lwF scr k_ ce pa ms mk al wo a_ he du te ga pt ta fr ro bo (some (.lst (intL com))) (some (.lst (rowsV partsN))) (some (.lst (intL w))) (some (.lst (ruleV (baseN com w)))) nm fi ex ru sh) O1) :
    (W G3 (n + 80)).s (stAt lwB 15) (lwF scr k_ ce pa ms mk al wo a_ he du te ga pt ta fr ro bo (some (.lst (intL com))) (some (.lst (rowsV partsN))) (some (.lst (intL w))) bs nm fi ex ru sh) b Q O1 := by
  have e1 : (w.filter (baseC com w)).map (fun c => V.tup [.int (c : Nat), .int (com.getD c 0 : Nat)]) = ruleV (baseN com w) := by rw [baseN, ruleV, pairL, List.map_map]; rfl
  refine lc w (FRi _ _ "chosen") (baseC com w) (fun c => V.tup [.int (c : Nat), .int (com.getD c 0 : Nat)]) (fun (c : Nat) => .int c) (.items _) (fun _ _ => rfl) (fun c hc acc K1 K2 k1 k2 => ?_) (Nat.lt_trans (by with_reducible assumption) (by decide)) (pures_pair (f := fun c : Nat => c) (g := fun c => .int (com.getD c 0 : Nat)) (fun _ => rfl) _) ?_
  · have hc := hwi c hc
    have i1 : ∀ {O : Objs}, indexV O (.lst (intL com)) (.int (c : Nat)) = some (.int (com.getD c 0 : Nat)) := nat_fit (l := com) rfl (Nat.lt_of_le_of_lt (Nat.le_of_eq (by with_reducible assumption)) (by decide)) (Nat.lt_of_lt_of_le (by with_reducible assumption) (Nat.le_of_eq (Eq.symm (by with_reducible assumption))))
    have hpl := partN_len c
    refine lf i1 (an1 (t := !decide (((com.getD c 0 : Nat) : Int) = c)) (fun h1 => ?_) fun h1 => k2 (and_l (by rwa [deq] at h1)))
    have e2 : (intL (partN c)).take ((intL (partN c)).length - 1) = intL ((partN c).take ((partN c).length - 1)) := by rw [intL_length, intL, ← List.map_take]; rfl
    have hi : ∀ {O : Objs}, sliceV O (.lst (intL (partN c))) .none (.int (-1)) .none = some (.lst (intL ((partN c).take ((partN c).length - 1)))) := e2 ▸ init_fit (by rw [intL_length]; exact partN_self c) (by rw [intL_length]; omega)
    refine lf (parts_fit hc) (lf hi (lc ((partN c).take ((partN c).length - 1)) (FRi _ _ "part") (baseP com w c) (fun (p : Nat) => V.int p) (fun (p : Nat) => .int p) (.items _) (fun _ _ => rfl) (fun p hp acc K1 K2 k1 k2 => ?_) (Nat.lt_of_le_of_lt (List.length_take_le _ _) (by omega)) (pures_i _ _) ?_))
    · have hp := partN_lt (List.mem_of_mem_take hp)
      have i2 : ∀ {O : Objs}, indexV O (.lst (intL com)) (.int (p : Nat)) = some (.int (com.getD p 0 : Nat)) := nat_fit (l := com) rfl (Nat.lt_of_le_of_lt (Nat.le_of_eq (by with_reducible assumption)) (by decide)) (by omega)
      exact lf in_nats (an1 (fun h2 => lf i2 (lf i1 (an1 (t := decide (((com.getD p 0 : Nat) : Int) = (com.getD c 0 : Nat))) (fun h3 => k1 (and_t h2 (by rwa [deq] at h3))) fun h3 => k2 (and_r (by rwa [deq] at h3))))) fun h2 => k2 (and_l h2))
    · refine lf (eq_nil _) (an1 (fun h2 => ?_) fun h2 => k2 (and_r (by rwa [List.isEmpty_map] at h2)))
      exact lf i1 (k1 (and_t (by rwa [deq] at h1) (by rwa [List.isEmpty_map] at h2)))
  · rw [e1]; exact q
theorem s_14 {com : List Nat} (hl : com.length = 16) (q : Q .next (lwF scr k_ ce pa ms mk al wo a_ he du te ga pt ta fr ro bo (some (.lst (intL com))) (some (.lst (rowsV partsN))) (some (.lst (intL (wholeN com)))) bs nm fi ex ru sh) O1) :
    (W G3 (n + 80)).s (stAt lwB 14) (lwF scr k_ ce pa ms mk al wo a_ he du te ga pt ta fr ro bo (some (.lst (intL com))) (some (.lst (rowsV partsN))) wh bs nm fi ex ru sh) b Q O1 := by
  refine lc (List.range 16) (FRi _ _ "chosen") (fun c => ((partN c).filter (wholeP com c)).isEmpty) (fun (c : Nat) => V.int c) (fun (c : Nat) => .int c) (.items _) (fun _ _ => rfl) (fun c hc acc K1 K2 k1 k2 => ?_) (by decide) (pures_i _ _) q
  have hc := List.mem_range.mp hc
  have i1 : ∀ {O : Objs}, indexV O (.lst (intL com)) (.int (c : Nat)) = some (.int (com.getD c 0 : Nat)) := nat_fit (l := com) rfl (Nat.lt_of_le_of_lt (Nat.le_of_eq (by with_reducible assumption)) (by decide)) (Nat.lt_of_lt_of_le (by with_reducible assumption) (Nat.le_of_eq (Eq.symm (by with_reducible assumption))))
  have hpl := partN_len c
  refine lf (parts_fit hc) (lc (partN c) (FRi _ _ "part") (wholeP com c) (fun (p : Nat) => V.int p) (fun (p : Nat) => .int p) (.items _) (fun _ _ => rfl) (fun p hp acc K1 K2 k1 k2 => ?_) (by omega) (pures_i _ _) ?_)
  · have hp := partN_lt hp
    have i2 : ∀ {O : Objs}, indexV O (.lst (intL com)) (.int (p : Nat)) = some (.int (com.getD p 0 : Nat)) := nat_fit (l := com) rfl (Nat.lt_of_le_of_lt (Nat.le_of_eq (by with_reducible assumption)) (by decide)) (by omega)
    exact lf i2 (lf i1 (an1 (t := !decide (((com.getD p 0 : Nat) : Int) = (com.getD c 0 : Nat))) (fun h2 => lf i2 (lf i2 (an1 (t := !decide (((com.getD p 0 &&& c : Nat) : Int) = (com.getD p 0 : Nat))) (fun h3 => k1 (and_t (by rwa [deq] at h2) (by rwa [deq] at h3))) fun h3 => k2 (and_r (by rwa [deq] at h3))))) fun h2 => k2 (and_l (by rwa [deq] at h2))))
  · exact lf (eq_nil _) (sl (fun h => k1 (by rwa [List.isEmpty_map] at h)) fun h => k2 (by rwa [List.isEmpty_map] at h))
theorem s_13 (q : Q .next (lwF scr k_ ce pa ms mk al wo a_ he du te ga pt ta fr ro bo co (some (.lst (rowsV partsN))) wh bs nm fi ex ru sh) O1) :
    (W G3 (n + 80)).s (stAt lwB 13) (lwF scr k_ ce pa ms mk al wo a_ he du te ga pt ta fr ro bo co pr wh bs nm fi ex ru sh) b Q O1 := by
  have e : ((List.range 16).map fun c => V.lst (intL (partN c))) = rowsV partsN := by rw [rowsV, partsN, List.map_map]; rfl
  refine lcm (List.range 16) (FRi _ _ "chosen") (fun c => V.lst (intL (partN c))) (fun (c : Nat) => .int c) (.items _) (fun _ _ => rfl) (fun c hc acc K1 K2 k1 k2 => ?_) (by decide) (pures_lst _ _) (e ▸ q)
  have hc := List.mem_range.mp hc
  have e2 : ((List.range (c + 1)).filter fun p => decide (p &&& c = p)).map (fun (p : Nat) => V.int p) = intL (partN c) := rfl
  refine lf (range1_fit (a := c + 1) rfl (by omega)) (lf (src1_fit (by omega)) (lc (List.range (c + 1)) (FRi _ _ "part") (fun p => decide (p &&& c = p)) (fun (p : Nat) => V.int p) (fun (p : Nat) => .int p) (.items _) (fun _ _ => rfl) (fun p hp acc K1 K2 k1 k2 => ?_) (by rw [List.length_range]; omega) (pures_i _ _) (e2 ▸ k1 rfl)))
  exact sl (t := decide (((p &&& c : Nat) : Int) = p)) (fun h => k1 (by rwa [deq] at h)) fun h => k2 (by rwa [deq] at h)
theorem s_12 {rows : List Nat} (hl : rows.length < 300) (q : Q .next (lwF scr k_ ce pa ms mk al wo a_ he du te ga pt ta fr (some (.lst (intL rows))) bo (some (.lst (intL (comN rows)))) pr wh bs nm fi ex ru sh) O1) :
    (W G3 (n + 80)).s (stAt lwB 12) (lwF scr k_ ce pa ms mk al wo a_ he du te ga pt ta fr (some (.lst (intL rows))) bo co pr wh bs nm fi ex ru sh) b Q O1 :=
  lcm (List.range 16) (FRi _ _ "chosen") (fun c => V.int (commonN c rows 15 : Nat)) (fun (c : Nat) => .int c) (.items _) (fun _ _ => rfl) (fun c hc acc K1 K2 k1 k2 => co_call (rs := rows) rfl hl (k1 rfl)) (by decide) (pures_i _ _) (com_v rows ▸ q)

noncomputable def atB (left : Bool) (bk : List (Nat × List Nat)) (r : Nat) : Nat := if left then blR (keysL (·.1) bk) r bk.length 0 bk.length else brR (keysL (·.1) bk) r bk.length 0 bk.length
noncomputable def insB (left : Bool) (bk : List (Nat × List Nat)) (p : Nat × List Nat) : List (Nat × List Nat) := bk.take (atB left bk p.1) ++ p :: bk.drop (atB left bk p.1)
theorem insB_length (left : Bool) (bk : List (Nat × List Nat)) (p : Nat × List Nat) : (insB left bk p).length = bk.length + 1 := ins_len (by
  unfold atB
  split
  · exact blR_le _ _ _ _ _ (Nat.zero_le _)
  · exact brR_le _ _ _ _ _ (Nat.zero_le _))
noncomputable def bookN (R : List Nat) (W : List (List Nat)) : List Nat → List (Nat × List Nat) → List (Nat × List Nat)
  | [], bk => bk
  | j :: r, bk => bookN R W r (insB (decide (j % 2 = 1)) bk (R.getD j 0, W.getD j []))
noncomputable def lwF11 : Stmt := stAt lwB 11
theorem s_11w {kb : Nat} {R : List Nat} {W0 : List (List Nat)} (hRl : R.length = 15) (hWl : W0.length = 15) (js : List Nat) : ∀ (f : Nat) (O1 : Objs) (bk : List (Nat × List Nat)) (a_ : Option V), js.length < f → (∀ j ∈ js, j < 15) → bk.length + js.length < 200 → listAt O1 kb = some (bookV bk) →
    (∀ a_ O2, listAt O2 kb = some (bookV (bookN R W0 js bk)) → (∀ k, k ≤ kb → O2.take k = O1.take k) → Q .next (lwF scr k_ ce pa ms mk al (some (.lst (strL W0))) a_ he du te ga pt ta fr (some (.lst (intL R))) (some (.ref kb)) co pr wh bs nm fi ex ru sh) O2) →
    forW (W G3 (n + 60)) (foT lwF11) (foB lwF11) (foE lwF11) b Q f (.items (rngL js)) (lwF scr k_ ce pa ms mk al (some (.lst (strL W0))) a_ he du te ga pt ta fr (some (.lst (intL R))) (some (.ref kb)) co pr wh bs nm fi ex ru sh) O1 := by
  induction js with
  | nil =>
    intro f O1 bk a_ hf hj hbl hk q
    cases f with
    | zero => exact absurd hf (Nat.not_lt_zero _)
    | succ f => exact q a_ O1 hk fun _ _ => rfl
  | cons j js ih =>
    intro f O1 bk a_ hf hj hbl hk q
    replace hbl : bk.length + (js.length + 1) < 200 := hbl
    cases f with
    | zero => exact absurd hf (Nat.not_lt_zero _)
    | succ f =>
      have hj0 := hj j (List.mem_cons_self ..)
      have i1 : ∀ {O : Objs}, indexV O (.lst (intL R)) (.int (j : Nat)) = some (.int (R.getD j 0 : Nat)) := nat_fit (l := R) rfl (Nat.lt_of_le_of_lt (Nat.le_of_eq (by with_reducible assumption)) (by decide)) (Nat.lt_of_lt_of_le (by with_reducible assumption) (Nat.le_of_eq (Eq.symm (by with_reducible assumption))))
      have i2 : ∀ {O : Objs}, indexV O (.lst (strL W0)) (.int (j : Nat)) = some (.str (W0.getD j [])) := str_fit (l := W0) rfl (Nat.lt_of_le_of_lt (Nat.le_of_eq (by with_reducible assumption)) (by decide)) (Nat.lt_of_lt_of_le (by with_reducible assumption) (Nat.le_of_eq (Eq.symm (by with_reducible assumption))))
      have next : forW (W G3 (n + 60)) (foT lwF11) (foB lwF11) (foE lwF11) b Q f (.items (rngL js)) (lwF scr k_ ce pa ms mk al (some (.lst (strL W0))) (some (.int (j : Nat))) he du te ga pt ta fr (some (.lst (intL R))) (some (.ref kb)) co pr wh bs nm fi ex ru sh) (O1.set kb (.list (bookV (insB (decide (j % 2 = 1)) bk (R.getD j 0, W0.getD j []))))) :=
        ih f _ _ _ (Nat.lt_of_succ_lt_succ hf) (fun x hx => hj x (List.mem_cons_of_mem _ hx)) (by rw [insB_length]; omega) (list_set hk) fun a_ O2 h1 h2 => q a_ O2 h1 fun k hk => (h2 k hk).trans (List.take_set_of_le hk)
      refine sd (p := ((j : Int) % 2 ≠ 0)) (fun h => ?_) fun h => ?_
      · have e : decide (j % 2 = 1) = true := decide_eq_true (by omega)
        rw [e] at next
        exact lf i1 (lf i2 (inl_pair (x := (R.getD j 0, W0.getD j [])) hk (Nat.lt_trans (Nat.lt_of_le_of_lt (Nat.le_add_right _ _) (by with_reducible assumption)) (by decide)) rfl (Gd.of rfl (xn (xn next)))))
      · have e : decide (j % 2 = 1) = false := decide_eq_false (by omega)
        rw [e] at next
        exact lf i1 (lf i2 (inr_pair (x := (R.getD j 0, W0.getD j [])) hk (Nat.lt_trans (Nat.lt_of_le_of_lt (Nat.le_add_right _ _) (by with_reducible assumption)) (by decide)) rfl (Gd.of rfl (xn (xn next)))))
theorem s_11 {kb : Nat} {R : List Nat} {W0 : List (List Nat)} (hRl : R.length = 15) (hWl : W0.length = 15) (hk : listAt O1 kb = some [])
    (q : ∀ a_ O2, listAt O2 kb = some (bookV (bookN R W0 (List.range 15) [])) → (∀ k, k ≤ kb → O2.take k = O1.take k) → Q .next (lwF scr k_ ce pa ms mk al (some (.lst (strL W0))) a_ he du te ga pt ta fr (some (.lst (intL R))) (some (.ref kb)) co pr wh bs nm fi ex ru sh) O2) :
    (W G3 (n + 80)).s (stAt lwB 11) (lwF scr k_ ce pa ms mk al (some (.lst (strL W0))) a_ he du te ga pt ta fr (some (.lst (intL R))) (some (.ref kb)) co pr wh bs nm fi ex ru sh) b Q O1 := by
  have hw := s_11w (n := n + 19) (b := b) (Q := Q) (scr := scr) (k_ := k_) (ce := ce) (pa := pa) (ms := ms) (mk := mk) (al := al) (he := he) (du := du) (te := te) (ga := ga) (pt := pt) (ta := ta) (fr := fr) (co := co) (pr := pr) (wh := wh) (bs := bs) (nm := nm) (fi := fi) (ex := ex) (ru := ru) (sh := sh) hRl hWl (List.range 15) 300 O1 [] a_ (by decide) (fun j hj => List.mem_range.mp hj) (by decide) hk q
  rw [← rng_src 15] at hw
  exact toF hw

noncomputable def bitsN (bs : List Bool) : Nat := (([0, 1, 2, 3].filter (fun k => bs.getD k false)).map (2 ^ ·)).sum
theorem bits_lt (bs : List Bool) : bitsN bs < 16 := by
  unfold bitsN
  simp only [List.filter_cons, List.filter_nil]
  cases bs.getD 0 false <;> cases bs.getD 1 false <;> cases bs.getD 2 false <;> cases bs.getD 3 false <;> decide
noncomputable def boolL (l : List Bool) : List V := l.map .bool
theorem bool_fit {v : V} {l : List Bool} {k : Nat} {O : Objs} (h : itemsOf O v = some (boolL l)) (hs : l.length < 300) (hk : k < l.length) : indexV O v (.int (k : Nat)) = some (.bool (l.getD k false)) :=
  at_fit h (by rw [boolL, List.length_map]; exact hs) (by rw [boolL, List.getElem?_map, List.getElem?_eq_getElem hk, List.getD_eq_getElem?_getD, List.getElem?_eq_getElem hk]; rfl)

structure DueOk (d : Nat) (D : List (List Bool)) (O : Objs) : Prop where
  all : listAt O d = some ((List.range D.length).map fun j => .ref (d + 1 + j))
  one : ∀ j, j < D.length → listAt O (d + 1 + j) = some (boolL (D.getD j []))
theorem s_10 {d : Nat} {D : List (List Bool)} (hD : DueOk d D O1) (hDl : D.length < 100) (h4 : ∀ c ∈ D, c.length = 4) (q : Q .next (lwF scr k_ ce pa ms mk al wo a_ he (some (.ref d)) te ga pt ta fr (some (.lst (intL (D.map bitsN)))) (some (.ref O1.length)) co pr wh bs nm fi ex ru sh) (O1 ++ [.list []])) :
    (W G3 (n + 80)).s (stAt lwB 10) (lwF scr k_ ce pa ms mk al wo a_ he (some (.ref d)) te ga pt ta fr ro bo co pr wh bs nm fi ex ru sh) b Q O1 := by
  have e : ((List.range D.length).map fun j => V.int (bitsN (D.getD j []) : Nat)) = intL (D.map bitsN) := by
    rw [intL, List.map_map]
    apply List.ext_getElem (by rw [List.length_map, List.length_map, List.length_range])
    intro i h1 h2
    rw [List.length_map, List.length_range] at h1
    rw [List.getElem_map, List.getElem_map, List.getElem_range, List.getD_eq_getElem?_getD, List.getElem?_eq_getElem h1]; rfl
  refine lf (src_live hD.all) (lcm (List.range D.length) (FRg (fun j => .ref (d + 1 + j)) _ _ "one") (fun j => V.int (bitsN (D.getD j []) : Nat)) (fun j => .ref (d + 1 + j)) (.live (k := 0) hD.all) (fun _ _ => rfl) (fun j hj acc K1 K2 k1 k2 => ?_) (by rw [List.length_range]; exact Nat.lt_trans (by with_reducible assumption) (by decide)) (pures_i _ _) (e ▸ q))
  have hj := List.mem_range.mp hj
  have hm : D.getD j [] ∈ D := by
    rw [List.getD_eq_getElem?_getD, List.getElem?_eq_getElem hj]; exact List.getElem_mem hj
  have hl := h4 _ hm
  have hone := hD.one j hj
  have e2 : (([0, 1, 2, 3].filter fun k => (D.getD j []).getD k false).map fun k => V.int ((2 ^ k : Nat) : Int)) = intL (([0, 1, 2, 3].filter fun k => (D.getD j []).getD k false).map (2 ^ ·)) := by rw [intL, List.map_map]; rfl
  have hb := bits_lt (D.getD j [])
  refine lc [0, 1, 2, 3] (FRi _ _ "k") (fun k => (D.getD j []).getD k false) (fun k => V.int ((2 ^ k : Nat) : Int)) (fun (k : Nat) => .int k) (.items _) (fun _ _ => rfl) (fun k hk acc K1 K2 k1 k2 => ?_) (by decide) (pures_i _ _) ?_
  · have hk4 : k < (D.getD j []).length := by
      simp only [List.mem_cons, List.not_mem_nil, or_false] at hk
      omega
    refine lf (bool_fit (v := .ref (d + 1 + j)) (listAt_app (listAt_app hone)) (Nat.lt_of_le_of_lt (Nat.le_of_eq (by with_reducible assumption)) (by decide)) hk4) (sl (fun h => ?_) k2)
    exact lf (pow_fit rfl (by omega)) (k1 h)
  · rw [e2]
    exact lf (sum_fit rfl (by rw [List.length_map]; exact Nat.lt_of_le_of_lt (List.length_filter_le _ _) (by decide)) (Nat.lt_trans hb (by decide))) (k1 rfl)
end

noncomputable def wl (p0 p1 : List Nat) : Nat → List (List Nat)
  | 0 => [[]]
  | k + 1 => wl p0 p1 k ++ [(wl p0 p1 k).getD k [] ++ p0, (wl p0 p1 k).getD k [] ++ p1]
theorem wl_len (p0 p1 : List Nat) : ∀ k, (wl p0 p1 k).length = 2 * k + 1
  | 0 => rfl
  | k + 1 => by unfold wl; rw [List.length_append, wl_len p0 p1 k]; simp; omega
theorem getD_lt {α : Type} {l : List α} {k : Nat} {d : α} (h : k < l.length) : l.getD k d = l[k] := by simp [h]
theorem wl_small {p0 p1 : List Nat} (h0 : p0.length ≤ 5) (h1 : p1.length ≤ 5) : ∀ k, ∀ w ∈ wl p0 p1 k, w.length ≤ 5 * k
  | 0, w, h => by simp [wl] at h; subst h; simp
  | k + 1, w, h => by
    unfold wl at h
    have hk : k < (wl p0 p1 k).length := by rw [wl_len]; omega
    have hg : ((wl p0 p1 k).getD k []).length ≤ 5 * k := by
      rw [getD_lt hk]
      exact wl_small h0 h1 k _ (List.getElem_mem hk)
    rcases List.mem_append.mp h with q | q
    · have := wl_small h0 h1 k w q; omega
    · simp only [List.mem_cons, List.not_mem_nil, or_false] at q
      rcases q with rfl | rfl <;> (rw [List.length_append]; omega)
theorem joiOk_small {x : List Nat} {l : List (List Nat)} (hx : x.length ≤ 1000) (hl : l.length ≤ 1000) (hw : ∀ w ∈ l, w.length ≤ 1000) : joiOk x l = true := by
  unfold joiOk JoinOk
  have go : ∀ (l : List (List Nat)) (a : Nat), (∀ w ∈ l, w.length ≤ 1000) → (l.map S).foldl (fun a s => a + s.length + (S x).length) a ≤ a + 2000 * l.length := by
    intro l
    induction l with
    | nil => intro a _; simp
    | cons w l ih =>
      intro a h
      have h1 := ih (a + (S w).length + (S x).length) (fun v hv => h v (List.mem_cons_of_mem _ hv))
      have h2 := h w (List.mem_cons_self ..)
      rw [S_length, S_length] at h1
      simp only [List.map_cons, List.foldl_cons, List.length_cons]
      rw [S_length, S_length]
      omega
  have h := go l 0 hw
  rw [List.foldl_toArray']
  · have e : Builtin.Str.tooLong ((l.map S).foldl (fun a s => a + s.length + (S x).length) 0) = false := by
      unfold Builtin.Str.tooLong
      exact decide_eq_false (by rw [sizeLine_eq]; omega)
    rw [e]; rfl
  · rfl
noncomputable def textI (c : Nat) : List Nat := (List.range (c % 3)).map fun p => c / 3 / 2 ^ p % 2
noncomputable def textN (p0 p1 : List Nat) (c : Nat) : List Nat := joiT [] ((textI c).map fun i => if i = 0 then p0 else p1)
noncomputable def gapsN (c len : Nat) : List Nat := (List.range (len + 1)).map fun p => c / 12 / 3 ^ p % 3
noncomputable def patL (text gaps : List Nat) : List (List Nat) := (List.range (text.length + 1)).map fun p => (List.replicate (gaps.getD p 0) [46, 46, 46]).flatten ++ sub text p (p + 1)
noncomputable def patN (text gaps : List Nat) : List Nat := joiT [] (patL text gaps)
noncomputable def frN (T : List (List Nat)) : Nat → List Nat
  | 0 => [0]
  | k + 1 => frN T k ++ T.getD ((frN T k).getD k 0) []
noncomputable def stepD (v : Nat → Bool) : List Nat → List (List Bool) → List (List Bool)
  | [], D => D
  | i :: r, D => stepD v r (D.set i (D.getD i [] ++ [v i]))
theorem joiT_nil (l : List (List Nat)) : joiT [] l = l.flatten := by
  have go : ∀ (l : List (List Nat)) (a : Array Nat), ((l.map S).foldl (fun acc p => acc ++ (S []).cps ++ p.cps) a).toList = a.toList ++ l.flatten := by
    intro l
    induction l with
    | nil => intro a; simp
    | cons w l ih => intro a; simp only [List.map_cons, List.foldl_cons, ih, List.flatten_cons]; simp [S]
  cases l with
  | nil => rfl
  | cons w l =>
    show (((S w :: l.map S).drop 1).foldl (fun acc p => acc ++ (S []).cps ++ p.cps) ((S w :: l.map S).headD Str.empty).cps).toList = _
    rw [List.drop_one, List.tail_cons, List.headD_cons, go]
    rfl
theorem textN_length {p0 p1 : List Nat} (h0 : p0.length = 1) (h1 : p1.length = 1) (c : Nat) : (textN p0 p1 c).length = c % 3 := by
  unfold textN
  rw [joiT_nil]
  have go : ∀ l : List Nat, ((l.map fun i => if i = 0 then p0 else p1).flatten).length = l.length := by
    intro l
    induction l with
    | nil => rfl
    | cons i l ih =>
      rw [List.map_cons, List.flatten_cons, List.length_append, ih, List.length_cons]
      split <;> omega
  rw [go]
  simp [textI]
theorem ownT_length (text gaps letters : List Nat) : (ownT text gaps letters).length = text.length + 2 := by simp [ownT]
theorem ownT_two {text gaps letters : List Nat} (hl : letters.length = 2) : ∀ r ∈ ownT text gaps letters, r.length = 2 := by
  intro r hr
  unfold ownT at hr
  rcases List.mem_append.mp hr with q | q
  · obtain ⟨f, _, rfl⟩ := List.mem_map.mp q
    unfold ownRow
    rw [List.length_map, hl]
  · rw [List.mem_singleton.mp q]; rfl
theorem ownT_in {text gaps letters : List Nat} : ∀ r ∈ ownT text gaps letters, ∀ x ∈ r, x < (ownT text gaps letters).length := by
  intro r hr x hx
  rw [ownT_length]
  unfold ownT at hr
  rcases List.mem_append.mp hr with q | q
  · obtain ⟨f, _, rfl⟩ := List.mem_map.mp q
    unfold ownRow at hx
    obtain ⟨c, _, rfl⟩ := List.mem_map.mp hx
    unfold ownLast
    cases hg : (ownFits text (ownBL gaps f).1 (ownBL gaps f).2 f c).getLast? with
    | none => show text.length + 1 < _; omega
    | some p =>
      show p < _
      have hm := List.mem_of_getLast? hg
      unfold ownFits at hm
      have := List.mem_range'_1.mp (List.mem_filter.mp hm).1
      omega
  · rw [List.mem_singleton.mp q] at hx
    simp at hx
    omega
theorem frN_facts {T : List (List Nat)} (hrow : ∀ r ∈ T, r.length = 2) (hin : ∀ r ∈ T, ∀ x ∈ r, x < T.length) (hT0 : 0 < T.length) : ∀ k, (frN T k).length = 2 * k + 1 ∧ ∀ x ∈ frN T k, x < T.length
  | 0 => ⟨rfl, fun x hx => by
      have : x = 0 := by simpa [frN] using hx
      omega⟩
  | k + 1 => by
    obtain ⟨h1, h2⟩ := frN_facts hrow hin hT0 k
    have hkl : k < (frN T k).length := by omega
    have hxT : (frN T k).getD k 0 < T.length := by rw [getD_lt hkl]; exact h2 _ (List.getElem_mem hkl)
    have hm : T.getD ((frN T k).getD k 0) [] ∈ T := by rw [getD_lt hxT]; exact List.getElem_mem hxT
    have e : frN T (k + 1) = frN T k ++ T.getD ((frN T k).getD k 0) [] := rfl
    rw [e]
    refine ⟨by rw [List.length_append, hrow _ hm]; omega, fun x hx => ?_⟩
    rcases List.mem_append.mp hx with q | q
    · exact h2 x q
    · exact hin _ hm x q
theorem gapsN_length (c l : Nat) : (gapsN c l).length = l + 1 := by simp [gapsN]
theorem gapsN_lt (c l : Nat) : ∀ g ∈ gapsN c l, g < 3 := by
  intro g hg
  obtain ⟨p, _, rfl⟩ := List.mem_map.mp hg
  exact Nat.mod_lt _ (by decide)

noncomputable def gpsN (c : Nat) : List Nat := gapsN c (c % 3)
noncomputable def frtN (p0 p1 : List Nat) (c : Nat) : List Nat := frN (ownT (textN p0 p1 c) (gpsN c) (p0 ++ p1)) 7
noncomputable def vN (p0 p1 : List Nat) (c i : Nat) : Bool := decide ((frtN p0 p1 c).getD i 0 = (textN p0 p1 c).length)
noncomputable def Ell (p0 p1 : List Nat) (W0 : List (List Nat)) (c : Nat) : Prop := ∀ j, j < W0.length → ∀ {m b : Nat} {O : Objs} {Q : V → Objs → Prop}, Q (.bool (vN p0 p1 c j)) O → CALL (W G3 (m + 20)) (.cst (.ref 21)) [.str (patN (textN p0 p1 c) (gpsN c)), .str (W0.getD j [])] [] b Q O
noncomputable def dueN (p0 p1 : List Nat) (C : List Nat) (k : Nat) : List (List Bool) := (List.range 15).map fun i => (List.range k).map fun q => vN p0 p1 (C.getD q 0) i
theorem stepD_15 (v : Nat → Bool) (f : Nat → List Bool) : stepD v (List.range' 0 15) ((List.range 15).map f) = (List.range 15).map fun i => f i ++ [v i] := by kernel_rfl!
theorem dueN_step (p0 p1 : List Nat) (C : List Nat) (k : Nat) : stepD (vN p0 p1 (C.getD k 0)) (List.range' 0 15) (dueN p0 p1 C k) = dueN p0 p1 C (k + 1) := by
  unfold dueN
  rw [stepD_15]
  apply List.map_congr_left
  intro i _
  rw [List.range_succ, List.map_append]
  rfl

theorem clip_min {n p : Nat} {d : Int} : clipV n 1 (some (p : Int)) d = ((min p n : Nat) : Int) := by
  have e : clipV n 1 (some (p : Int)) d = max 0 (min (if (p : Int) < 0 then (p : Int) + n else p) n) := by kernel_rfl!
  rw [e, if_neg (Int.not_lt.mpr (Int.natCast_nonneg p)), ← cmin]
  exact Int.max_eq_right (Int.natCast_nonneg _)
theorem cut_sub (l : List Nat) (a c : Nat) : (l.drop a).take (min c l.length - a) = (l.drop a).take (c - a) := by
  rw [← Nat.sub_min_sub_right, ← List.length_drop]
  exact List.take_eq_take_min.symm
theorem cut_any {O : Objs} {l : List Nat} {i j : Int} {a c : Nat} (e1 : i = (a : Nat)) (e2 : j = (c : Nat)) (h : l.length < 300) (ha : a ≤ l.length) : sliceV O (.str l) (.int i) (.int j) .none = some (.str (sub l a c)) := by
  subst e1; subst e2
  refine bs (f := fun lo => (optInt (.int (c : Nat))).bind fun hi => (optInt .none).bind fun st => if lenOk l.length && st.isNone then (sliceIdx lo hi st l.length).map fun is => V.str (picked l is) else none) (v := some (a : Int)) rfl ?_
  refine (if_pos (show (lenOk l.length && true) = true from Bool.and_eq_true_iff.mpr ⟨lenOk_3 h, rfl⟩)).trans ?_
  have e : sliceIdx (some (a : Int)) (some (c : Int)) none l.length = some (sliceRange a (min c l.length : Nat) 1) := by
    show some (sliceRange (clipV l.length 1 (some (a : Int)) _) (clipV l.length 1 (some (c : Int)) _) 1) = _
    rw [clip_in ha, clip_min]
  rw [e, Option.map_some, picked_run, sub]
  exact congrArg (fun x => some (V.str x)) (cut_sub l a c)
theorem rep_str {O : Objs} {l : List Nat} {k : Nat} (h : k < 1000) (hl : l.length * k < 1000000) : binV O .Mult (.str l) (.int (k : Nat)) = some (.str (List.replicate k l).flatten) := by
  have e : binV O .Mult (.str l) (.int (k : Nat)) = if 0 ≤ (k : Int) && (k : Int) < 1000 && lenOk (l.length * k) then some (.str (List.replicate k l).flatten) else none := by kernel_rfl!
  exact e.trans (if_pos (Bool.and_eq_true_iff.mpr ⟨Bool.and_eq_true_iff.mpr ⟨decide_eq_true (Int.natCast_nonneg k), decide_eq_true (Int.ofNat_lt.mpr h)⟩, lenOk_of hl⟩))
theorem cat_any {O : Objs} {v : V} {l r : List V} (h : itemsOf O v = some l) (hl : l.length + r.length < 300) : binV O .Add v (.lst r) = some (.lst (l ++ r)) := by
  cases v with
  | lst l' => cases h; exact if_pos (lenOk_3 hl)
  | ref n => exact cat_ref h hl
  | _ => cases h
noncomputable def pairV (p0 p1 : List Nat) (q2 q3 : V) : V := .tup [.str p0, .str p1, q2, q3]
theorem pair_fit {O : Objs} {p0 p1 : List Nat} {q2 q3 : V} {i : Nat} (h : i < 2) : indexV O (pairV p0 p1 q2 q3) (.int (i : Nat)) = some (.str (if i = 0 then p0 else p1)) := by
  rcases (show i = 0 ∨ i = 1 by omega) with rfl | rfl <;> rfl
section
variable {n b : Nat} {O O1 : Objs} {Q : Fl → List Fr → Objs → Prop} {scr k_ ce pa ms mk al wo a_ he du te ga pt ta fr ro bo co pr wh bs nm fi ex ru sh : Option V}
noncomputable def lwF9 : Stmt := stAt lwB 9
noncomputable def lwB9 : List Stmt := foB lwF9
theorem s_90 {k : Nat} {C : List Nat} {p0 p1 : List Nat} {q2 q3 : V} (h8 : C.length = 8) (hk4 : k < 4) (h0 : p0.length ≤ 5) (h1 : p1.length ≤ 5)
    (q : Q .next (lwF scr (some (.int (k : Nat))) (some (.lst (intL C))) (some (pairV p0 p1 q2 q3)) ms mk al wo a_ he du (some (.str (textN p0 p1 (C.getD k 0)))) ga pt ta fr ro bo co pr wh bs nm fi ex ru sh) O1) :
    (W G3 (n + 78)).s (stAt lwB9 0) (lwF scr (some (.int (k : Nat))) (some (.lst (intL C))) (some (pairV p0 p1 q2 q3)) ms mk al wo a_ he du te ga pt ta fr ro bo co pr wh bs nm fi ex ru sh) b Q O1 := by
  have i1 : ∀ {O : Objs}, indexV O (.lst (intL C)) (.int (k : Nat)) = some (.int (C.getD k 0 : Nat)) := nat_fit (l := C) rfl (Nat.lt_of_le_of_lt (Nat.le_of_eq (by with_reducible assumption)) (by decide)) (by omega)
  have hm : C.getD k 0 % 3 < 3 := Nat.mod_lt _ (by decide)
  have e : ((List.range (C.getD k 0 % 3)).map fun p => V.str (if C.getD k 0 / 3 / 2 ^ p % 2 = 0 then p0 else p1)) = strL ((textI (C.getD k 0)).map fun i => if i = 0 then p0 else p1) := by rw [strL, textI, List.map_map, List.map_map]; rfl
  refine lf i1 (lf (range1_fit (a := C.getD k 0 % 3) rfl (Nat.lt_trans (by with_reducible assumption) (by decide))) (lf (src1_fit (Nat.lt_trans (by with_reducible assumption) (by decide))) (lcm (List.range (C.getD k 0 % 3)) (FRi _ _ "place") (fun p => V.str (if C.getD k 0 / 3 / 2 ^ p % 2 = 0 then p0 else p1)) (fun (c : Nat) => .int c) (.items _) (fun _ _ => rfl) (fun p hp acc K1 K2 k1 k2 => ?_) (by rw [List.length_range]; exact Nat.lt_trans (by with_reducible assumption) (by decide)) (pures_s _ _) ?_)))
  · have hp := List.mem_range.mp hp
    exact lf i1 (lf (pow_fit (d := 2) (k := p) rfl (by omega)) (lf (div_fit (a := C.getD k 0 / 3) (d := 2 ^ p) (Nat.pow_pos (by decide)) (pow_lt (by omega))) (lf (pair_fit (i := C.getD k 0 / 3 / 2 ^ p % 2) (Nat.mod_lt _ (by decide))) (k1 rfl))))
  · rw [e]
    refine lf (joi_fit rfl (joiOk_small (by decide) ?_ fun w hw => ?_)) q
    · rw [List.length_map, textI, List.length_map, List.length_range]; omega
    · obtain ⟨i, _, rfl⟩ := List.mem_map.mp hw
      split <;> exact Nat.le_trans (by with_reducible assumption) (by decide)
theorem s_91 {k : Nat} {C : List Nat} {text : List Nat} (h8 : C.length = 8) (hk4 : k < 4) (ht : text.length < 100) (q : Q .next (lwF scr (some (.int (k : Nat))) (some (.lst (intL C))) pa ms mk al wo a_ he du (some (.str text)) (some (.lst (intL (gapsN (C.getD k 0) text.length)))) pt ta fr ro bo co pr wh bs nm fi ex ru sh) O1) :
    (W G3 (n + 78)).s (stAt lwB9 1) (lwF scr (some (.int (k : Nat))) (some (.lst (intL C))) pa ms mk al wo a_ he du (some (.str text)) ga pt ta fr ro bo co pr wh bs nm fi ex ru sh) b Q O1 := by
  have i1 : ∀ {O : Objs}, indexV O (.lst (intL C)) (.int (k : Nat)) = some (.int (C.getD k 0 : Nat)) := nat_fit (l := C) rfl (Nat.lt_of_le_of_lt (Nat.le_of_eq (by with_reducible assumption)) (by decide)) (by omega)
  have e : ((List.range (text.length + 1)).map fun p => V.int (C.getD k 0 / 12 / 3 ^ p % 3 : Nat)) = intL (gapsN (C.getD k 0) text.length) := by rw [intL, gapsN, List.map_map]; rfl
  refine lf (len_str (Nat.lt_trans (by with_reducible assumption) (by decide))) (lf (range1_fit (a := text.length + 1) rfl (by omega)) (lf (src1_fit (by omega)) (lcm (List.range (text.length + 1)) (FRi _ _ "place") (fun p => V.int (C.getD k 0 / 12 / 3 ^ p % 3 : Nat)) (fun (c : Nat) => .int c) (.items _) (fun _ _ => rfl) (fun p hp acc K1 K2 k1 k2 => ?_) (by rw [List.length_range]; omega) (pures_i _ _) (e ▸ q))))
  have hp := List.mem_range.mp hp
  exact lf i1 (lf (pow_fit (d := 3) (k := p) rfl (by omega)) (lf (div_fit (a := C.getD k 0 / 12) (d := 3 ^ p) (Nat.pow_pos (by decide)) (Nat.lt_of_lt_of_le (Nat.pow_lt_pow_of_lt (by decide) (show p < 150 by omega)) (by decide))) (k1 rfl)))
theorem s_92 {text gaps : List Nat} (ht : text.length < 100) (hg : gaps.length = text.length + 1) (hg3 : ∀ g ∈ gaps, g < 3) (q : Q .next (lwF scr k_ ce pa ms mk al wo a_ he du (some (.str text)) (some (.lst (intL gaps))) (some (.str (patN text gaps))) ta fr ro bo co pr wh bs nm fi ex ru sh) O1) :
    (W G3 (n + 78)).s (stAt lwB9 2) (lwF scr k_ ce pa ms mk al wo a_ he du (some (.str text)) (some (.lst (intL gaps))) pt ta fr ro bo co pr wh bs nm fi ex ru sh) b Q O1 := by
  have e : ((List.range (text.length + 1)).map fun p => V.str ((List.replicate (gaps.getD p 0) [46, 46, 46]).flatten ++ sub text p (p + 1))) = strL (patL text gaps) := by rw [strL, patL, List.map_map]; rfl
  have hsb : ∀ p, (sub text p (p + 1)).length ≤ 100 := fun p => Nat.le_trans (List.length_take_le _ _) (by omega)
  have hgp : ∀ p, gaps.getD p 0 < 3 := fun p => by
    rw [List.getD_eq_getElem?_getD]
    cases hq : gaps[p]? with
    | none => exact (by decide : 0 < 3)
    | some g => exact hg3 g (List.mem_of_getElem? hq)
  have hrl : ∀ p, (List.replicate (gaps.getD p 0) [46, 46, 46]).flatten.length ≤ 9 := fun p => by
    have := hgp p
    rw [List.length_flatten, List.map_replicate, List.sum_replicate_nat]
    show _ * 3 ≤ 9
    omega
  refine lf (len_str (Nat.lt_trans (by with_reducible assumption) (by decide))) (lf (range1_fit (a := text.length + 1) rfl (by omega)) (lf (src1_fit (by omega)) (lcm (List.range (text.length + 1)) (FRi _ _ "place") (fun p => V.str ((List.replicate (gaps.getD p 0) [46, 46, 46]).flatten ++ sub text p (p + 1))) (fun (c : Nat) => .int c) (.items _) (fun _ _ => rfl) (fun p hp acc K1 K2 k1 k2 => ?_) (by rw [List.length_range]; omega) (pures_s _ _) ?_)))
  · have hp := List.mem_range.mp hp
    have h1 := hrl p
    have h2 := hsb p
    have h3 := hgp p
    exact lf (nat_fit (l := gaps) rfl (by omega) (Nat.lt_of_lt_of_le (by with_reducible assumption) (Nat.le_of_eq (Eq.symm (by with_reducible assumption))))) (lf (rep_str (l := [46, 46, 46]) (k := gaps.getD p 0) (Nat.lt_trans (by with_reducible assumption) (by decide)) (by show 3 * _ < 1000000; omega)) (lf (cut_any (a := p) (c := p + 1) rfl rfl (Nat.lt_trans (by with_reducible assumption) (by decide)) (Nat.le_of_lt_succ (by with_reducible assumption))) (lf (cat_str (by omega)) (k1 rfl))))
  · rw [e]
    refine lf (joi_fit rfl (joiOk_small (by decide) ?_ fun w hw => ?_)) q
    · rw [patL, List.length_map, List.length_range]; exact Nat.lt_trans (by with_reducible assumption) (by decide)
    · obtain ⟨p, _, rfl⟩ := List.mem_map.mp hw
      have h1 := hrl p
      have h2 := hsb p
      rw [List.length_append]; omega
theorem s_93 {text gaps p0 p1 : List Nat} {q2 q3 : V} (ht : text.length < 100) (hg : gaps.length = text.length + 1) (h0 : p0.length ≤ 5) (h1 : p1.length ≤ 5) (q : Q .next (lwF scr k_ ce (some (pairV p0 p1 q2 q3)) ms mk al wo a_ he du (some (.str text)) (some (.lst (intL gaps))) pt (some (.lst (rowsV (ownT text gaps (p0 ++ p1))))) (some (.ref O1.length)) ro bo co pr wh bs nm fi ex ru sh) (O1 ++ [.list (intL [0])])) :
    (W G3 (n + 78)).s (stAt lwB9 3) (lwF scr k_ ce (some (pairV p0 p1 q2 q3)) ms mk al wo a_ he du (some (.str text)) (some (.lst (intL gaps))) pt ta fr ro bo co pr wh bs nm fi ex ru sh) b Q O1 :=
  lf (cat_str (by omega)) (ow_call ht hg (by rw [List.length_append]; omega) q)
theorem lst_of {v : V} {l : List V} (h : itemsOf [] v = some l) : v = .lst l := by
  cases v with
  | lst l' => cases h; rfl
  | _ => cases h
noncomputable def lwF94 : Stmt := stAt lwB9 4
theorem s_94w {T : List (List Nat)} (hTl : T.length < 200) (hrow : ∀ r ∈ T, r.length = 2) (hin : ∀ r ∈ T, ∀ x ∈ r, x < T.length) (hT0 : 0 < T.length) (m : Nat) : ∀ (k f : Nat) (a_ : Option V) (v : V), m < f → k + m < 50 → itemsOf O1 v = some (intL (frN T k)) → (0 < k → itemsOf [] v = some (intL (frN T k))) →
    (∀ a_ v, (0 < k + m → itemsOf [] v = some (intL (frN T (k + m)))) → Q .next (lwF scr k_ ce pa ms mk al wo a_ he du te ga pt (some (.lst (rowsV T))) (some v) ro bo co pr wh bs nm fi ex ru sh) O1) →
    forW (W G3 (n + 60)) (foT lwF94) (foB lwF94) (foE lwF94) b Q f (.items (rngL (List.range' k m))) (lwF scr k_ ce pa ms mk al wo a_ he du te ga pt (some (.lst (rowsV T))) (some v) ro bo co pr wh bs nm fi ex ru sh) O1 := by
  induction m with
  | zero =>
    intro k f a_ v hf hk hv hv2 q
    cases f with
    | zero => exact absurd hf (Nat.not_lt_zero _)
    | succ f => exact q a_ v hv2
  | succ m ih =>
    intro k f a_ v hf hk hv hv2 q
    cases f with
    | zero => exact absurd hf (Nat.not_lt_zero _)
    | succ f =>
      obtain ⟨f1, f2⟩ := frN_facts hrow hin hT0 k
      have hkl : k < (frN T k).length := by omega
      have hxT : (frN T k).getD k 0 < T.length := by rw [getD_lt hkl]; exact f2 _ (List.getElem_mem hkl)
      have hm : T.getD ((frN T k).getD k 0) [] ∈ T := by rw [getD_lt hxT]; exact List.getElem_mem hxT
      have hr := hrow _ hm
      have e : frN T (k + 1) = frN T k ++ T.getD ((frN T k).getD k 0) [] := rfl
      refine lf (nat_fit (v := v) (l := frN T k) hv (by omega) hkl) (lf (at_fit (v := .lst (rowsV T)) (x := .lst (intL (T.getD ((frN T k).getD k 0) []))) rfl (by rw [rowsV, List.length_map]; exact Nat.lt_trans (by with_reducible assumption) (by decide)) (by rw [rowsV, List.getElem?_map, List.getElem?_eq_getElem hxT, getD_lt hxT]; rfl)) (lf (cat_any hv (by rw [intL_length, intL_length]; omega)) ?_))
      rw [← intL_append, ← e]
      refine Lf.of rfl (xn ?_)
      exact ih (k + 1) f _ (.lst (intL (frN T (k + 1)))) (Nat.lt_of_succ_lt_succ hf) (by omega) rfl (fun _ => rfl) fun a_ v h => q a_ v (by rwa [Nat.add_right_comm k 1 m] at h)
theorem s_94 {T : List (List Nat)} {v : V} (hTl : T.length < 200) (hrow : ∀ r ∈ T, r.length = 2) (hin : ∀ r ∈ T, ∀ x ∈ r, x < T.length) (hT0 : 0 < T.length) (hv : itemsOf O1 v = some (intL [0])) (q : ∀ a_, Q .next (lwF scr k_ ce pa ms mk al wo a_ he du te ga pt (some (.lst (rowsV T))) (some (.lst (intL (frN T 7)))) ro bo co pr wh bs nm fi ex ru sh) O1) :
    (W G3 (n + 78)).s (stAt lwB9 4) (lwF scr k_ ce pa ms mk al wo a_ he du te ga pt (some (.lst (rowsV T))) (some v) ro bo co pr wh bs nm fi ex ru sh) b Q O1 := by
  have hw := s_94w (n := n + 17) (b := b) (Q := Q) (O1 := O1) (scr := scr) (k_ := k_) (ce := ce) (pa := pa) (ms := ms) (mk := mk) (al := al) (wo := wo) (he := he) (du := du) (te := te) (ga := ga) (pt := pt) (ro := ro) (bo := bo) (co := co) (pr := pr) (wh := wh) (bs := bs) (nm := nm) (fi := fi) (ex := ex) (ru := ru) (sh := sh) hTl hrow hin hT0 7 0 300 a_ v (by decide) (by decide) hv (fun h => absurd h (Nat.lt_irrefl 0)) fun a_ v h => by cases lst_of (h (by decide)); exact q a_
  rw [← List.range_eq_range', ← rng_src 7] at hw
  exact toF hw
theorem DueOk.app {d : Nat} {D : List (List Bool)} {O : Objs} (h : DueOk d D O) (X : Objs) : DueOk d D (O ++ X) := ⟨listAt_app h.all, fun j hj => listAt_app (h.one j hj)⟩
theorem DueOk.set {d j : Nat} {D : List (List Bool)} {O : Objs} (h : DueOk d D O) (hj : j < D.length) (x : List Bool) : DueOk d (D.set j x) (O.set (d + 1 + j) (.list (boolL x))) where
  all := by rw [List.length_set]; exact listAt_ne h.all (by omega)
  one i hi := by
    rw [List.length_set] at hi
    rw [List.getD_eq_getElem?_getD]
    by_cases e : j = i
    · subst e
      rw [List.getElem?_set_self hi]
      exact list_set (h.one j hi)
    · rw [List.getElem?_set_ne e, ← List.getD_eq_getElem?_getD]
      exact listAt_ne (h.one i hi) (by omega)
noncomputable def lwF95 : Stmt := stAt lwB9 5
theorem s_95w {d k : Nat} {W0 : List (List Nat)} {v : Nat → Bool} {fr : List Nat} {text pat : List Nat} (hk4 : k < 4) (hfr : fr.length = 15) (hWl : W0.length = 15) (ht : text.length < 100) (hv : ∀ j, v j = decide (fr.getD j 0 = text.length))
    (hell : ∀ j, j < W0.length → ∀ {m b : Nat} {O : Objs} {Q : V → Objs → Prop}, Q (.bool (v j)) O → CALL (W G3 (m + 20)) (.cst (.ref 21)) [.str pat, .str (W0.getD j [])] [] b Q O) (m : Nat) : ∀ (j f : Nat) (D : List (List Bool)) (O1 : Objs) (a_ : Option V), m < f → j + m ≤ 15 → DueOk d D O1 → D.length = 15 → (∀ i, j ≤ i → i < 15 → (D.getD i []).length = k) →
    (∀ a_ O2, DueOk d (stepD v (List.range' j m) D) O2 → (∀ k, k ≤ d → O2.take k = O1.take k) → Q .next (lwF scr (some (.int (k : Nat))) ce pa ms mk al wo a_ (some (.lst (strL W0))) (some (.ref d)) (some (.str text)) ga (some (.str pat)) ta (some (.lst (intL fr))) ro bo co pr wh bs nm fi ex ru sh) O2) →
    forW (W G3 (n + 60)) (foT lwF95) (foB lwF95) (foE lwF95) b Q f (.items (rngL (List.range' j m))) (lwF scr (some (.int (k : Nat))) ce pa ms mk al wo a_ (some (.lst (strL W0))) (some (.ref d)) (some (.str text)) ga (some (.str pat)) ta (some (.lst (intL fr))) ro bo co pr wh bs nm fi ex ru sh) O1 := by
  induction m with
  | zero =>
    intro j f D O1 a_ hf hj hD hDl hk q
    cases f with
    | zero => exact absurd hf (Nat.not_lt_zero _)
    | succ f => exact q a_ O1 hD fun _ _ => rfl
  | succ m ih =>
    intro j f D O1 a_ hf hj hD hDl hk q
    cases f with
    | zero => exact absurd hf (Nat.not_lt_zero _)
    | succ f =>
      have hjD : j < D.length := by omega
      have hkj := hk j (Nat.le_refl j) (Nat.lt_of_lt_of_eq (by with_reducible assumption) (by with_reducible assumption))
      have hone := hD.one j hjD
      have id : ∀ {O : Objs}, listAt O d = some ((List.range D.length).map fun j => .ref (d + 1 + j)) → indexV O (.ref d) (.int (j : Nat)) = some (.ref (d + 1 + j)) := fun h => at_fit (v := .ref d) h (by rw [List.length_map, List.length_range]; exact Nat.lt_of_le_of_lt (Nat.le_of_eq (by with_reducible assumption)) (by decide)) (by rw [List.getElem?_map, List.getElem?_range hjD]; rfl)
      have eb : boolL (D.getD j []) ++ [V.bool (v j)] = boolL (D.getD j [] ++ [v j]) := by rw [boolL, boolL, List.map_append]; rfl
      have hD2 := hD.set hjD (D.getD j [] ++ [v j])
      have hl2 : (D.getD j [] ++ [v j]).length = k + 1 := by rw [List.length_append, hkj]; rfl
      have hval : (D.getD j [] ++ [v j]).getD k false = v j := by rw [List.getD_eq_getElem?_getD, List.getElem?_append_right (Nat.le_of_eq hkj), hkj, Nat.sub_self]; rfl
      have ev : V.bool (decide (((fr.getD j 0 : Nat) : Int) = (text.length : Nat))) = .bool (v j) := by rw [deq, hv]
      have hap : ∀ {b : Nat}, methV G3 (u "append") (.ref (d + 1 + j)) [V.bool (decide (((fr.getD j 0 : Nat) : Int) = (text.length : Nat)))] b O1 = some (.none, O1.set (d + 1 + j) (.list (boolL (D.getD j [] ++ [v j])))) := by
        intro b
        rw [ev, ← eb]
        exact append_fit hone (by rw [boolL, List.length_map]; omega) (pure_ok rfl)
      refine lf (id hD.all) (lf (self_l hone rfl) (lf (nat_fit (v := .lst (intL fr)) rfl (Nat.lt_of_le_of_lt (Nat.le_of_eq (by with_reducible assumption)) (by decide)) (by omega)) (lf (len_str (Nat.lt_trans (by with_reducible assumption) (by decide))) (lf hap ?_))))
      refine lf (str_fit (v := .lst (strL W0)) (k := j) rfl (Nat.lt_of_le_of_lt (Nat.le_of_eq (by with_reducible assumption)) (by decide)) (by omega)) (hell j (by omega) (lf (id (listAt_ne hD.all (by omega))) (lf (bool_fit (v := .ref (d + 1 + j)) (list_set hone) (by omega) (by omega)) ?_)))
      refine slF (t := !(v j == (D.getD j [] ++ [v j]).getD k false)) (by rw [hval, beq_self_eq_true]; rfl) (xn ?_)
      refine ih (j + 1) f _ _ _ (Nat.lt_of_succ_lt_succ hf) (by omega) hD2 (by rw [List.length_set]; exact hDl) (fun i hi hi2 => ?_) fun a_ O2 h1 h2 => q a_ O2 h1 fun k hk => (h2 k hk).trans (List.take_set_of_le (by omega))
      rw [List.getD_eq_getElem?_getD, List.getElem?_set_ne (by omega), ← List.getD_eq_getElem?_getD]
      exact hk i (by omega) hi2
theorem s_95 {d k : Nat} {W0 : List (List Nat)} {v : Nat → Bool} {fr : List Nat} {text pat : List Nat} {D : List (List Bool)} (hk4 : k < 4) (hfr : fr.length = 15) (hWl : W0.length = 15) (ht : text.length < 100) (hv : ∀ j, v j = decide (fr.getD j 0 = text.length))
    (hell : ∀ j, j < W0.length → ∀ {m b : Nat} {O : Objs} {Q : V → Objs → Prop}, Q (.bool (v j)) O → CALL (W G3 (m + 20)) (.cst (.ref 21)) [.str pat, .str (W0.getD j [])] [] b Q O) (hD : DueOk d D O1) (hDl : D.length = 15) (hk : ∀ i, i < 15 → (D.getD i []).length = k)
    (q : ∀ a_ O2, DueOk d (stepD v (List.range' 0 15) D) O2 → (∀ k, k ≤ d → O2.take k = O1.take k) → Q .next (lwF scr (some (.int (k : Nat))) ce pa ms mk al wo a_ (some (.lst (strL W0))) (some (.ref d)) (some (.str text)) ga (some (.str pat)) ta (some (.lst (intL fr))) ro bo co pr wh bs nm fi ex ru sh) O2) :
    (W G3 (n + 78)).s (stAt lwB9 5) (lwF scr (some (.int (k : Nat))) ce pa ms mk al wo a_ (some (.lst (strL W0))) (some (.ref d)) (some (.str text)) ga (some (.str pat)) ta (some (.lst (intL fr))) ro bo co pr wh bs nm fi ex ru sh) b Q O1 := by
  have hw := s_95w (n := n + 17) (b := b) (Q := Q) (scr := scr) (ce := ce) (pa := pa) (ms := ms) (mk := mk) (al := al) (wo := wo) (ga := ga) (ta := ta) (ro := ro) (bo := bo) (co := co) (pr := pr) (wh := wh) (bs := bs) (nm := nm) (fi := fi) (ex := ex) (ru := ru) (sh := sh) hk4 hfr hWl ht hv hell 15 0 300 D O1 a_ (by decide) (by decide) hD hDl (fun i _ hi => hk i hi) q
  rw [← List.range_eq_range', ← rng_src 15] at hw
  exact toF hw
theorem stN {J : WI} {l : List Stmt} {i : Nat} {F : List Fr} {b : Nat} {Q : Fl → List Fr → Objs → Prop} {O : Objs} (hi : l.drop i = stAt l i :: l.drop (i + 1)) (h : J.s (stAt l i) F b (fun f F1 O1 => match f with | .next => xs J (l.drop (i + 1)) F1 b Q O1 | f => Q f F1 O1) O) : xs J (l.drop i) F b Q O := by rw [hi]; exact h
theorem s_9b {d k : Nat} {C p0 p1 : List Nat} {q2 q3 : V} {W0 : List (List Nat)} (h8 : C.length = 8) (hk4 : k < 4) (h0 : p0.length = 1) (h1 : p1.length = 1) (hWl : W0.length = 15) (hell : Ell p0 p1 W0 (C.getD k 0)) (hD : DueOk d (dueN p0 p1 C k) O1) (hd : d < O1.length)
    (q : ∀ a_ te ga pt ta fr O2, DueOk d (dueN p0 p1 C (k + 1)) O2 → (∀ k, k ≤ d → O2.take k = O1.take k) → Q .next (lwF scr (some (.int (k : Nat))) (some (.lst (intL C))) (some (pairV p0 p1 q2 q3)) ms mk al wo a_ (some (.lst (strL W0))) (some (.ref d)) te ga pt ta fr ro bo co pr wh bs nm fi ex ru sh) O2) :
    xs (W G3 (n + 79)) (lwB9.drop 0) (lwF scr (some (.int (k : Nat))) (some (.lst (intL C))) (some (pairV p0 p1 q2 q3)) ms mk al wo a_ (some (.lst (strL W0))) (some (.ref d)) te ga pt ta fr ro bo co pr wh bs nm fi ex ru sh) b Q O1 := by
  have ht := textN_length h0 h1 (C.getD k 0)
  have hm : C.getD k 0 % 3 < 3 := Nat.mod_lt _ (by decide)
  have ht3 : (textN p0 p1 (C.getD k 0)).length < 100 := by omega
  have hg : gapsN (C.getD k 0) (textN p0 p1 (C.getD k 0)).length = gpsN (C.getD k 0) := by rw [ht]; rfl
  have hgl : (gpsN (C.getD k 0)).length = (textN p0 p1 (C.getD k 0)).length + 1 := by rw [← hg, gapsN_length]
  have hTl := ownT_length (textN p0 p1 (C.getD k 0)) (gpsN (C.getD k 0)) (p0 ++ p1)
  have hT2 := ownT_two (text := textN p0 p1 (C.getD k 0)) (gaps := gpsN (C.getD k 0)) (letters := p0 ++ p1) (by rw [List.length_append, h0, h1])
  have hTi := ownT_in (text := textN p0 p1 (C.getD k 0)) (gaps := gpsN (C.getD k 0)) (letters := p0 ++ p1)
  have hF := (frN_facts hT2 hTi (by omega) 7).1
  have hdl : (dueN p0 p1 C k).length = 15 := by rw [dueN, List.length_map]; rfl
  refine stN rfl (s_90 (n := n + 1) h8 hk4 (Nat.le_trans (Nat.le_of_eq (by with_reducible assumption)) (by decide)) (Nat.le_trans (Nat.le_of_eq (by with_reducible assumption)) (by decide)) (stN rfl (s_91 (n := n + 1) h8 hk4 ht3 ?_)))
  rw [hg]
  refine stN rfl (s_92 (n := n + 1) ht3 hgl (gapsN_lt _ _) (stN rfl (s_93 (n := n + 1) ht3 hgl (Nat.le_trans (Nat.le_of_eq (by with_reducible assumption)) (by decide)) (Nat.le_trans (Nat.le_of_eq (by with_reducible assumption)) (by decide)) (stN rfl (s_94 (n := n + 1) (by omega) hT2 hTi (by omega) (list_new O1 _) fun a_ => stN rfl (s_95 (n := n + 1) (v := vN p0 p1 (C.getD k 0)) hk4 hF hWl ht3 (fun j => rfl) hell (hD.app _) hdl ?_ fun a_ O2 h1 h2 => q a_ _ _ _ _ _ O2 (dueN_step p0 p1 C k ▸ h1) fun j hj => (h2 j hj).trans (List.take_append_of_le_length (by omega))))))))
  intro i hi
  rw [dueN, List.getD_eq_getElem?_getD, List.getElem?_map, List.getElem?_range hi]
  show ((List.range k).map _).length = k
  rw [List.length_map, List.length_range]
theorem s_9w {d : Nat} {C p0 p1 : List Nat} {q2 q3 : V} {W0 : List (List Nat)} (h8 : C.length = 8) (h0 : p0.length = 1) (h1 : p1.length = 1) (hWl : W0.length = 15) (hell : ∀ k, k < 4 → Ell p0 p1 W0 (C.getD k 0)) (m : Nat) : ∀ (k f : Nat) (O1 : Objs) (k_ a_ te ga pt ta fr : Option V), m < f → k + m ≤ 4 → DueOk d (dueN p0 p1 C k) O1 → d < O1.length →
    (∀ k_ a_ te ga pt ta fr O2, DueOk d (dueN p0 p1 C (k + m)) O2 → (∀ k, k ≤ d → O2.take k = O1.take k) → Q .next (lwF scr k_ (some (.lst (intL C))) (some (pairV p0 p1 q2 q3)) ms mk al wo a_ (some (.lst (strL W0))) (some (.ref d)) te ga pt ta fr ro bo co pr wh bs nm fi ex ru sh) O2) →
    forW (W G3 (n + 79)) (foT lwF9) (foB lwF9) (foE lwF9) b Q f (.items (rngL (List.range' k m))) (lwF scr k_ (some (.lst (intL C))) (some (pairV p0 p1 q2 q3)) ms mk al wo a_ (some (.lst (strL W0))) (some (.ref d)) te ga pt ta fr ro bo co pr wh bs nm fi ex ru sh) O1 := by
  induction m with
  | zero =>
    intro k f O1 k_ a_ te ga pt ta fr hf hk hD hd q
    cases f with
    | zero => exact absurd hf (Nat.not_lt_zero _)
    | succ f => exact q k_ a_ te ga pt ta fr O1 hD fun _ _ => rfl
  | succ m ih =>
    intro k f O1 k_ a_ te ga pt ta fr hf hk hD hd q
    cases f with
    | zero => exact absurd hf (Nat.not_lt_zero _)
    | succ f =>
      show xs _ _ _ _ _ _
      refine s_9b h8 (by omega) h0 h1 hWl (hell k (by omega)) hD hd fun a_ te ga pt ta fr O2 h2 h3 => ?_
      have hd2 : d < O2.length := (List.getElem?_eq_some_iff.mp (list_at h2.all)).1
      exact ih (k + 1) f O2 _ a_ te ga pt ta fr (Nat.lt_of_succ_lt_succ hf) (by omega) h2 hd2 fun k_ a_ te ga pt ta fr O3 h4 h5 => q k_ a_ te ga pt ta fr O3 (by rwa [Nat.add_right_comm k 1 m] at h4) fun j hj => (h5 j hj).trans (h3 j hj)
theorem s_9 {d : Nat} {C p0 p1 : List Nat} {q2 q3 : V} {W0 : List (List Nat)} (h8 : C.length = 8) (h0 : p0.length = 1) (h1 : p1.length = 1) (hWl : W0.length = 15) (hell : ∀ k, k < 4 → Ell p0 p1 W0 (C.getD k 0)) (hD : DueOk d (dueN p0 p1 C 0) O1)
    (q : ∀ k_ a_ te ga pt ta fr O2, DueOk d (dueN p0 p1 C 4) O2 → (∀ k, k ≤ d → O2.take k = O1.take k) → Q .next (lwF scr k_ (some (.lst (intL C))) (some (pairV p0 p1 q2 q3)) ms mk al wo a_ (some (.lst (strL W0))) (some (.ref d)) te ga pt ta fr ro bo co pr wh bs nm fi ex ru sh) O2) :
    (W G3 (n + 80)).s (stAt lwB 9) (lwF scr k_ (some (.lst (intL C))) (some (pairV p0 p1 q2 q3)) ms mk al wo a_ (some (.lst (strL W0))) (some (.ref d)) te ga pt ta fr ro bo co pr wh bs nm fi ex ru sh) b Q O1 := by
  have hw := s_9w (n := n) (b := b) (Q := Q) (scr := scr) (ms := ms) (mk := mk) (al := al) (wo := wo) (ro := ro) (bo := bo) (co := co) (pr := pr) (wh := wh) (bs := bs) (nm := nm) (fi := fi) (ex := ex) (ru := ru) (sh := sh) (q2 := q2) (q3 := q3) h8 h0 h1 hWl hell 4 0 300 O1 k_ a_ te ga pt ta fr (by decide) (by decide) hD (List.getElem?_eq_some_iff.mp (list_at hD.all)).1 q
  rw [← List.range_eq_range', ← rng_src 4] at hw
  exact toF hw
end

section
variable {n b : Nat} {O O1 : Objs} {Q : Fl → List Fr → Objs → Prop} {scr k_ ce pa ms mk al wo a_ he du te ga pt ta fr ro bo co pr wh bs nm fi ex ru sh : Option V}
noncomputable def strV (W0 : List (List Nat)) : V := .lst (strL W0)
theorem s_8 {W0 : List (List Nat)} (hl : W0.length < 300) (q : Q .next (lwF scr k_ ce pa ms mk al (some (.lst (strL W0))) a_ (some (.lst (strL W0))) du te ga pt ta fr ro bo co pr wh bs nm fi ex ru sh) O1) :
    (W G3 (n + 80)).s (stAt lwB 8) (lwF scr k_ ce pa ms mk al (some (.lst (strL W0))) a_ (some (.lst (strL W0))) du te ga pt ta fr ro bo co pr wh bs nm fi ex ru sh) b Q O1 :=
  lf (ne_fit rfl rfl (eq_strL _ W0)) q

theorem s_7w {J : WI} {tgt elt : PySem.Expr} {FR : Option (List Nat) → List Fr} {Q : Objs → Prop} (set : ∀ t a, setTgt (FR t) tgt (.str a) = some (FR (some a))) (helt : ∀ F b O (K : V → Objs → Prop), K (.ref O.length) (O ++ [.list []]) → J.e elt F b K O) (l : List (List Nat)) : ∀ (f : Nat) (t : Option (List Nat)) (i : Nat), l.length < f → i + l.length < 300 →
    Q (O1 ++ .list ((List.range (i + l.length)).map fun j => .ref (O1.length + 1 + j)) :: List.replicate (i + l.length) (.list [])) → compW J tgt [] elt O1.length Q f (.items (strL l)) (FR t) (O1 ++ .list ((List.range i).map fun j => .ref (O1.length + 1 + j)) :: List.replicate i (.list [])) := by
  induction l with
  | nil =>
    intro f t i hf hi q
    cases f with
    | zero => exact absurd hf (Nat.not_lt_zero _)
    | succ f => exact q
  | cons a l ih =>
    intro f t i hf hi q
    replace hi : i + (l.length + 1) < 300 := hi
    cases f with
    | zero => exact absurd hf (Nat.not_lt_zero _)
    | succ f =>
      refine Lf.of rfl (Lf.of (set t a) (helt _ _ _ _ ?_))
      have hn : (O1 ++ AObj.list ((List.range i).map fun j => .ref (O1.length + 1 + j)) :: List.replicate i (.list [])).length = O1.length + 1 + i := by
        rw [List.length_append, List.length_cons, List.length_replicate]; omega
      have hp : pushAt (O1 ++ AObj.list ((List.range i).map fun j => .ref (O1.length + 1 + j)) :: List.replicate i (.list []) ++ [.list []]) O1.length (.ref (O1.length + 1 + i)) = some (O1 ++ .list ((List.range (i + 1)).map fun j => .ref (O1.length + 1 + j)) :: List.replicate (i + 1) (.list [])) := by
        have hg : listAt (O1 ++ AObj.list ((List.range i).map fun j => .ref (O1.length + 1 + j)) :: List.replicate i (.list []) ++ [.list []]) O1.length = some ((List.range i).map fun j => .ref (O1.length + 1 + j)) := listAt_app (at_list (by rw [List.getElem?_append_right (Nat.le_refl _), Nat.sub_self]; rfl))
        unfold pushAt
        rw [hg, Option.bind_some, if_pos (lenOk_3 (by rw [List.length_map, List.length_range]; exact Nat.lt_of_le_of_lt (Nat.le_add_right _ _) (by with_reducible assumption))), List.append_assoc, List.set_append_right _ _ (Nat.le_refl _), Nat.sub_self, List.range_succ, List.map_append, List.replicate_succ']; rfl
      rw [hn]
      refine Lf.of hp (ih f _ (i + 1) (Nat.lt_of_succ_lt_succ hf) (by omega) ?_)
      rw [show i + 1 + l.length = i + (l.length + 1) by omega]
      exact q
theorem due_new {m : Nat} : DueOk O1.length (List.replicate m []) (O1 ++ .list ((List.range m).map fun j => .ref (O1.length + 1 + j)) :: List.replicate m (.list [])) where
  all := at_list (by rw [List.getElem?_append_right (Nat.le_refl _), Nat.sub_self, List.length_replicate]; rfl)
  one j hj := by
    rw [List.length_replicate] at hj
    refine at_list ?_
    rw [List.getElem?_append_right (by omega), show O1.length + 1 + j - O1.length = j + 1 by omega, List.getElem?_cons_succ, List.getElem?_replicate, if_pos hj, List.getD_eq_getElem?_getD, List.getElem?_replicate, if_pos hj]; rfl
theorem s_7 {W0 : List (List Nat)} (hl : W0.length < 200) (h0 : 0 < W0.length) (q : ∀ O2, DueOk O1.length (List.replicate W0.length []) O2 → (∀ k, k ≤ O1.length → O2.take k = O1.take k) → Q .next (lwF scr k_ ce pa ms mk al (some (.lst (strL W0))) a_ he (some (.ref O1.length)) te ga pt ta fr ro bo co pr wh bs nm fi ex ru sh) O2) :
    (W G3 (n + 80)).s (stAt lwB 7) (lwF scr k_ ce pa ms mk al (some (.lst (strL W0))) a_ he du te ga pt ta fr ro bo co pr wh bs nm fi ex ru sh) b Q O1 := by
  refine ⟨s_7w (FR := FRg (fun w => .str w) _ _ "word") (fun _ _ => rfl) (fun F b O K k => k) W0 300 none 0 (Nat.lt_trans (by with_reducible assumption) (by decide)) (by omega) ?_⟩
  rw [Nat.zero_add]
  refine Lf.of (due_new (O1 := O1) (m := W0.length)).all (slF (t := pures _) ?_ (q _ due_new fun k hk => List.take_append_of_le_length hk))
  rw [List.length_replicate]
  cases hW : W0.length with
  | zero => omega
  | succ m => rw [List.range_succ_eq_map]; rfl
theorem cell_fit {C : List Nat} {i : Nat} {O : Objs} (h8 : C.length = 8) (hi : i < 8) : indexV O (.lst (intL C)) (.int (i : Nat)) = some (.int (C.getD i 0 : Nat)) := nat_fit (l := C) rfl (Nat.lt_of_le_of_lt (Nat.le_of_eq (by with_reducible assumption)) (by decide)) (Nat.lt_of_lt_of_le (by with_reducible assumption) (Nat.le_of_eq (Eq.symm (by with_reducible assumption))))
theorem s_6 {C : List Nat} {W0 : List (List Nat)} {p0 p1 p2 p3 mk : List Nat} {al : Nat} (h8 : C.length = 8) (hl : W0.length < 200) (hp : ∀ w ∈ W0, PrepOk w ((C.getD 5 0 + w.length) % 4) p0 p1 p2 p3 mk al) (hs : ∀ w ∈ W0, prepN w ((C.getD 5 0 + w.length) % 4) p0 p1 p2 p3 mk al = w)
    (q : Q .next (lwF scr k_ (some (.lst (intL C))) (some (pairV p0 p1 (.str p2) (.str p3))) ms (some (.str mk)) (some (.int (al : Nat))) (some (.lst (strL W0))) a_ (some (.lst (strL W0))) du te ga pt ta fr ro bo co pr wh bs nm fi ex ru sh) O1) :
    (W G3 (n + 80)).s (stAt lwB 6) (lwF scr k_ (some (.lst (intL C))) (some (pairV p0 p1 (.str p2) (.str p3))) ms (some (.str mk)) (some (.int (al : Nat))) (some (.lst (strL W0))) a_ he du te ga pt ta fr ro bo co pr wh bs nm fi ex ru sh) b Q O1 := by
  have e : (W0.map fun w => V.str (prepN w ((C.getD 5 0 + w.length) % 4) p0 p1 p2 p3 mk al)) = strL W0 := List.map_congr_left fun w hw => congrArg V.str (hs w hw)
  refine lcm W0 (FRg (fun w => .str w) _ _ "word") (fun w => V.str (prepN w ((C.getD 5 0 + w.length) % 4) p0 p1 p2 p3 mk al)) (fun w => .str w) (.items _) (fun _ _ => rfl) (fun w hw acc K1 K2 k1 k2 => ?_) (Nat.lt_trans (by with_reducible assumption) (by decide)) (pures_s _ _) (e ▸ q)
  have H := hp w hw
  have hwl := H.hw
  exact lf (cell_fit (i := 5) h8 (by decide)) (lf (len_str (Nat.lt_trans (by with_reducible assumption) (by decide))) (pr_call (style := (C.getD 5 0 + w.length) % 4) H (k1 rfl)))
noncomputable def lwF5 : Stmt := stAt lwB 5
theorem s_5w {p0 p1 : List Nat} {q2 q3 : V} (h0 : p0.length ≤ 5) (h1 : p1.length ≤ 5) (m : Nat) : ∀ (k f : Nat) (a_ : Option V) (v : V), m < f → k + m < 40 → itemsOf O1 v = some (strL (wl p0 p1 k)) → (0 < k → itemsOf [] v = some (strL (wl p0 p1 k))) →
    (∀ a_ v, (0 < k + m → itemsOf [] v = some (strL (wl p0 p1 (k + m)))) → Q .next (lwF scr k_ ce (some (pairV p0 p1 q2 q3)) ms mk al (some v) a_ he du te ga pt ta fr ro bo co pr wh bs nm fi ex ru sh) O1) →
    forW (W G3 (n + 60)) (foT lwF5) (foB lwF5) (foE lwF5) b Q f (.items (rngL (List.range' k m))) (lwF scr k_ ce (some (pairV p0 p1 q2 q3)) ms mk al (some v) a_ he du te ga pt ta fr ro bo co pr wh bs nm fi ex ru sh) O1 := by
  induction m with
  | zero =>
    intro k f a_ v hf hk hv hv2 q
    cases f with
    | zero => exact absurd hf (Nat.not_lt_zero _)
    | succ f => exact q a_ v hv2
  | succ m ih =>
    intro k f a_ v hf hk hv hv2 q
    cases f with
    | zero => exact absurd hf (Nat.not_lt_zero _)
    | succ f =>
      have hl := wl_len p0 p1 k
      have hkl : k < (wl p0 p1 k).length := by omega
      have hsm : ((wl p0 p1 k).getD k []).length ≤ 5 * k := by rw [getD_lt hkl]; exact wl_small h0 h1 k _ (List.getElem_mem hkl)
      have i1 : ∀ {O}, itemsOf O v = some (strL (wl p0 p1 k)) → indexV O v (.int (k : Nat)) = some (.str ((wl p0 p1 k).getD k [])) := fun h => str_fit h (by omega) hkl
      refine lf (i1 hv) (lf (cat_str (by omega)) (lf (i1 hv) (lf (cat_str (by omega)) (lf (cat_any hv (by rw [strL, List.length_map]; show _ + 2 < 300; omega)) ?_))))
      have e : strL (wl p0 p1 k) ++ [V.str ((wl p0 p1 k).getD k [] ++ p0), V.str ((wl p0 p1 k).getD k [] ++ p1)] = strL (wl p0 p1 (k + 1)) := by rw [wl, strL, strL, List.map_append]; rfl
      rw [e]
      refine Lf.of rfl (xn ?_)
      exact ih (k + 1) f _ (.lst (strL (wl p0 p1 (k + 1)))) (Nat.lt_of_succ_lt_succ hf) (by omega) rfl (fun _ => rfl) fun a_ v h => q a_ v (by rwa [Nat.add_right_comm k 1 m] at h)
theorem s_5 {p0 p1 : List Nat} {q2 q3 v : V} (h0 : p0.length ≤ 5) (h1 : p1.length ≤ 5) (hv : itemsOf O1 v = some (strL [[]])) (q : ∀ a_, Q .next (lwF scr k_ ce (some (pairV p0 p1 q2 q3)) ms mk al (some (.lst (strL (wl p0 p1 7)))) a_ he du te ga pt ta fr ro bo co pr wh bs nm fi ex ru sh) O1) :
    (W G3 (n + 80)).s (stAt lwB 5) (lwF scr k_ ce (some (pairV p0 p1 q2 q3)) ms mk al (some v) a_ he du te ga pt ta fr ro bo co pr wh bs nm fi ex ru sh) b Q O1 := by
  have hw := s_5w (n := n + 19) (b := b) (Q := Q) (O1 := O1) (scr := scr) (k_ := k_) (ce := ce) (ms := ms) (mk := mk) (al := al) (he := he) (du := du) (te := te) (ga := ga) (pt := pt) (ta := ta) (fr := fr) (ro := ro) (bo := bo) (co := co) (pr := pr) (wh := wh) (bs := bs) (nm := nm) (fi := fi) (ex := ex) (ru := ru) (sh := sh) (q2 := q2) (q3 := q3) h0 h1 7 0 300 a_ v (by decide) (by decide) hv (fun h => absurd h (Nat.lt_irrefl 0)) fun a_ v h => by cases lst_of (h (by decide)); exact q a_
  rw [← List.range_eq_range', ← rng_src 7] at hw
  exact toF hw
theorem s_4 (q : Q .next (lwF scr k_ ce pa ms mk al (some (.ref O1.length)) a_ he du te ga pt ta fr ro bo co pr wh bs nm fi ex ru sh) (O1 ++ [.list (strL [[]])])) :
    (W G3 (n + 80)).s (stAt lwB 4) (lwF scr k_ ce pa ms mk al wo a_ he du te ga pt ta fr ro bo co pr wh bs nm fi ex ru sh) b Q O1 := q
noncomputable def pairS : Nat → List (List Nat)
  | 0 => [(u "s").cps.toList, (u "t").cps.toList, (u "ß").cps.toList, (u "ﬆ").cps.toList]
  | 1 => [(u "f").cps.toList, (u "i").cps.toList, (u "ﬀ").cps.toList, (u "ﬁ").cps.toList]
  | _ => [(u "f").cps.toList, (u "l").cps.toList, (u "ﬀ").cps.toList, (u "ﬂ").cps.toList]
noncomputable def pwN (c4 i : Nat) : List Nat := (pairS (c4 % 3)).getD i []
noncomputable def pairC (c4 : Nat) : V := pairV (pwN c4 0) (pwN c4 1) (.str (pwN c4 2)) (.str (pwN c4 3))
noncomputable def markL : List Int := [173, 847, 6150, 6155, 6156, 6157, 8203, 8204, 8205, 8288, 65279, 65024, 65025, 65026, 65027, 65028, 65029, 65030, 65031, 65032, 65033, 65034, 65035, 65036, 65037, 65038, 65039]
noncomputable def markN (c4 : Nat) : List Nat := [(markL.getD (c4 / 3 % 27) 0).toNat]
noncomputable def alphaL : List Int := [0, 1, 2, 4, 7, 8, 9, 10, 11, 12]
noncomputable def alphaN (c4 : Nat) : Nat := 119808 + 52 * (alphaL.getD (c4 / 81 % 10) 0).toNat
theorem at_ints {O : Objs} {v : V} {l : List Int} {k : Nat} (h : itemsOf O v = some (l.map .int)) (hs : l.length < 300) (hk : k < l.length) : indexV O v (.int (k : Nat)) = some (.int (l.getD k 0)) :=
  at_fit h (by rw [List.length_map]; exact hs) (by rw [List.getElem?_map, List.getElem?_eq_getElem hk, List.getD_eq_getElem?_getD, List.getElem?_eq_getElem hk]; rfl)
theorem ints_at {l : List Int} {k : Nat} (hk : k < l.length) : (l.map V.int)[k]? = some (.int (l.getD k 0)) := by rw [List.getElem?_map, List.getElem?_eq_getElem hk, List.getD_eq_getElem?_getD, List.getElem?_eq_getElem hk]; rfl
theorem at_tup {O : Objs} {l : List V} {k : Nat} {x : V} (hs : l.length < 300) (hk : l[k]? = some x) : indexV O (.tup l) (.int (k : Nat)) = some x := atV_k hs hk
theorem mark_ok : ∀ k, k < 27 → markL.getD k 0 = ((markL.getD k 0).toNat : Int) ∧ ((markL.getD k 0).toNat < 55000 ∨ 60000 ≤ (markL.getD k 0).toNat ∧ (markL.getD k 0).toNat < 1000000) := by decide
theorem alpha_ok : ∀ k, k < 10 → alphaL.getD k 0 = ((alphaL.getD k 0).toNat : Int) ∧ (alphaL.getD k 0).toNat < 1000 := by decide
theorem s_3 {C : List Nat} (h8 : C.length = 8) (q : Q .next (lwF scr k_ (some (.lst (intL C))) pa (some (.lst (markL.map .int))) (some (.str (markN (C.getD 4 0)))) (some (.int (alphaN (C.getD 4 0) : Nat))) wo a_ he du te ga pt ta fr ro bo co pr wh bs nm fi ex ru sh) O1) :
    (W G3 (n + 80)).s (stAt lwB 3) (lwF scr k_ (some (.lst (intL C))) pa (some (.lst (markL.map .int))) mk al wo a_ he du te ga pt ta fr ro bo co pr wh bs nm fi ex ru sh) b Q O1 := by
  have hm : C.getD 4 0 / 3 % 27 < 27 := Nat.mod_lt _ (by decide)
  have ha : C.getD 4 0 / 81 % 10 < 10 := Nat.mod_lt _ (by decide)
  obtain ⟨m1, m2⟩ := mark_ok _ hm
  obtain ⟨a1, a2⟩ := alpha_ok _ ha
  have c4 : ∀ {O : Objs}, indexV O (.lst (intL C)) (.int (4 : Nat)) = some (.int (C.getD 4 0 : Nat)) := cell_fit h8 (by decide)
  have ia : ∀ {O : Objs}, indexV O (.tup (alphaL.map .int)) (.int (C.getD 4 0 / 81 % 10 : Nat)) = some (.int ((alphaL.getD (C.getD 4 0 / 81 % 10) 0).toNat : Nat)) := by
    intro O
    rw [← a1]
    exact at_tup (by decide) (ints_at ha)
  exact lf c4 (lf (at_ints (v := .lst (markL.map .int)) (k := C.getD 4 0 / 3 % 27) rfl (by decide) hm) (lf (chr_fit m1 m2) (lf c4 (lf ia (lf (mul_fit (a := 52) (by decide) (Nat.lt_trans a2 (by decide))) q)))))
theorem s_2 (q : ∀ O2, (∀ k, k ≤ O1.length → O2.take k = O1.take k) → Q .next (lwF scr k_ ce pa (some (.lst (markL.map .int))) mk al wo a_ he du te ga pt ta fr ro bo co pr wh bs nm fi ex ru sh) O2) :
    (W G3 (n + 80)).s (stAt lwB 2) (lwF scr k_ ce pa ms mk al wo a_ he du te ga pt ta fr ro bo co pr wh bs nm fi ex ru sh) b Q O1 := by
  have e : binV (O1 ++ [AObj.list ((rangeL 65024 65040 1).map .int)]) .Add (.lst ((markL.take 11).map .int)) (.ref O1.length) = some (.lst (markL.map .int)) := by
    rw [show rangeL 65024 65040 1 = markL.drop 11 by decide]
    exact Mine.bs (f := fun r => if lenOk (((markL.take 11).map V.int).length + r.length) then some (V.lst ((markL.take 11).map V.int ++ r)) else none) (list_new O1 _) rfl
  exact lf e (q _ fun k hk => List.take_append_of_le_length hk)
theorem s_1 {C : List Nat} (h8 : C.length = 8) (q : ∀ O2, (∀ k, k ≤ O1.length → O2.take k = O1.take k) → Q .next (lwF scr k_ (some (.lst (intL C))) (some (pairC (C.getD 4 0))) ms mk al wo a_ he du te ga pt ta fr ro bo co pr wh bs nm fi ex ru sh) O2) :
    (W G3 (n + 80)).s (stAt lwB 1) (lwF scr k_ (some (.lst (intL C))) pa ms mk al wo a_ he du te ga pt ta fr ro bo co pr wh bs nm fi ex ru sh) b Q O1 := by
  refine lf (cell_fit (i := 4) h8 (by decide)) (lf (at_fit (k := C.getD 4 0 % 3) (x := pairC (C.getD 4 0)) (l := [pairC 0, pairC 1, pairC 2]) (list_new O1 _) (by decide) ?_) (q _ fun k hk => List.take_append_of_le_length hk))
  unfold pairC pwN
  rcases mod3 (C.getD 4 0) with h | h | h <;> rw [h] <;> rfl

noncomputable def isN (n k : Nat) : List Nat := sliceRange (clipV n 8 (some (k : Int)) 0) (clipV n 8 (some 60) n) 8
theorem cnt8 {A B : Int} (hA : 0 ≤ A) (hB : B ≤ 60) : (if A < B then (B - A + 8 - 1) / 8 else 0).toNat ≤ 64 := by
  split
  · rw [Int.toNat_le]
    exact Int.le_trans (Int.ediv_le_ediv (by decide) (show B - A + 8 - 1 ≤ 67 by omega)) (by decide)
  · exact Nat.zero_le _
theorem isN_len {n k : Nat} (h : n < 64) : (isN n k).length ≤ 64 := by
  have e : (isN n k).length = (if max 0 (min (if (k : Int) < 0 then (k : Int) + n else k) n) < max 0 (min (60 : Int) n) then (max 0 (min (60 : Int) n) - max 0 (min (if (k : Int) < 0 then (k : Int) + n else k) n) + 8 - 1) / 8 else 0).toNat := by
    unfold isN sliceRange
    rw [List.length_map, List.length_range]; rfl
  exact e ▸ cnt8 (Int.le_max_left ..) (Int.max_le.mpr ⟨by decide, Int.le_trans (Int.min_le_left ..) (by decide)⟩)
theorem picked_map {α β : Type} (f : α → β) (l : List α) (is : List Nat) : picked (l.map f) is = (picked l is).map f := by
  rw [picked, picked, List.map_filterMap]
  exact congrArg (fun g => is.filterMap g) (funext fun i => List.getElem?_map ..)
theorem sl8_fit {O : Objs} {l : List Int} {k : Nat} (h : l.length < 64) : sliceV O (.lst (l.map .int)) (.int (k : Nat)) (.int 60) (.int 8) = some (.lst ((picked l (isN l.length k)).map .int)) := by
  have e : sliceV O (.lst (l.map .int)) (.int (k : Nat)) (.int 60) (.int 8) = if lenOk (l.map V.int).length then some (.lst (picked (l.map V.int) (isN (l.map V.int).length k))) else none := by kernel_rfl!
  rw [e, List.length_map, if_pos (lenOk_3 (Nat.lt_trans (by with_reducible assumption) (by decide))), picked_map]
theorem sum_mod (l : List Int) : 0 ≤ (l.map fun (i : Int) => i % 1000000).sum ∧ (l.map fun (i : Int) => i % 1000000).sum ≤ 1000000 * (l.length : Int) ∧ (l.map fun i => i % 1000000).all (fun i => decide (0 ≤ i)) = true := by
  induction l with
  | nil => exact ⟨by decide, by decide, rfl⟩
  | cons i l ih =>
    have h1 := Int.emod_nonneg i (show (1000000 : Int) ≠ 0 by decide)
    have h2 := Int.emod_lt_of_pos i (show (0 : Int) < 1000000 by decide)
    rw [List.map_cons, List.sum_cons, List.length_cons]
    exact ⟨by omega, by omega, Bool.and_eq_true_iff.mpr ⟨decide_eq_true h1, ih.2.2⟩⟩
theorem intsV_map : ∀ l : List Int, intsV (l.map .int) = some l
  | [] => rfl
  | _ :: l => congrArg (Option.map _) (intsV_map l)
noncomputable def cellS (script : List Int) (k : Nat) : List Int := (picked script (isN script.length k)).map fun i => i % 1000000
noncomputable def cellN (script : List Int) (p : Nat × Nat) : Nat := p.2 + (cellS script p.1).sum.toNat
noncomputable def cellL : List (Nat × Nat) := [(0, 37), (1, 16), (2, 164), (3, 128), (4, 0), (5, 0), (6, 6), (7, 4)]
theorem sumS {script : List Int} {k b : Nat} {O : Objs} (h : script.length < 64) : callB (u "sum") [.lst ((picked script (isN script.length k)).map fun i => V.int (i % 1000000))] b O = some (.int (cellS script k).sum, O) := by
  obtain ⟨h1, h2, h3⟩ := sum_mod (picked script (isN script.length k))
  have hl : (picked script (isN script.length k)).length ≤ 64 := Nat.le_trans (List.length_filterMap_le _ _) (isN_len h)
  have e : ((picked script (isN script.length k)).map fun i => V.int (i % 1000000)) = (cellS script k).map .int := by rw [cellS, List.map_map]; rfl
  have e2 : callB (u "sum") [.lst ((cellS script k).map .int)] b O = (intsV ((cellS script k).map .int)).bind fun is => if is.all (fun i => decide (0 ≤ i)) && decide (is.sum.toNat < 2 ^ 62) && lenOk ((cellS script k).map V.int).length then some (V.int is.sum, O) else none := by kernel_rfl!
  rw [e, e2, intsV_map, Option.bind_some]
  refine if_pos (Bool.and_eq_true_iff.mpr ⟨Bool.and_eq_true_iff.mpr ⟨h3, decide_eq_true ?_⟩, lenOk_3 (by rw [List.length_map, cellS, List.length_map]; exact Nat.lt_of_le_of_lt (by with_reducible assumption) (by decide))⟩)
  show ((picked script (isN script.length k)).map fun i => i % 1000000).sum.toNat < _
  omega
theorem s_0 {script : List Int} (h : script.length < 64) (q : Q .next (lwF (some (.lst (script.map .int))) k_ (some (.lst (intL (cellL.map (cellN script))))) pa ms mk al wo a_ he du te ga pt ta fr ro bo co pr wh bs nm fi ex ru sh) O1) :
    (W G3 (n + 80)).s (stAt lwB 0) (lwF (some (.lst (script.map .int))) k_ ce pa ms mk al wo a_ he du te ga pt ta fr ro bo co pr wh bs nm fi ex ru sh) b Q O1 := by
  have e : (cellL.map fun p => V.int (cellN script p : Nat)) = intL (cellL.map (cellN script)) := by rw [intL, List.map_map]; rfl
  refine lcm cellL (fun t => ⟨_, [(u ".0", none), (u "k", t.map fun p => .int (p.1 : Nat)), (u "cell", t.map fun p => .int (p.2 : Nat))], false⟩ :: _) (fun p => V.int (cellN script p : Nat)) (fun p => .tup [.int (p.1 : Nat), .int (p.2 : Nat)]) (.items _) (fun _ _ => rfl) (fun p hp acc K1 K2 k1 k2 => ?_) (by decide) (pures_i _ _) (e ▸ q)
  have hl : (picked script (isN script.length p.1)).length ≤ 64 := Nat.le_trans (List.length_filterMap_le _ _) (isN_len h)
  refine lf (sl8_fit h) (lcm (picked script (isN script.length p.1)) (FRg (fun i => .int i) _ _ "number") (fun i => V.int (i % 1000000)) (fun i => .int i) (.items _) (fun _ _ => rfl) (fun i hi acc K1 K2 k1 k2 => k1 rfl) (Nat.lt_of_le_of_lt (by with_reducible assumption) (by decide)) (pures_i _ _) (lf (sumS h) (kq ?_ (k1 rfl))))
  have h1 := (sum_mod (picked script (isN script.length p.1))).1
  show (p.2 : Int) + ((picked script (isN script.length p.1)).map fun i => i % 1000000).sum = ((p.2 + ((picked script (isN script.length p.1)).map fun i => i % 1000000).sum.toNat : Nat) : Int)
  omega
end

section
variable {n b : Nat} {O O1 : Objs} {Q : Fl → List Fr → Objs → Prop} {scr k_ ce pa ms mk al wo a_ he du te ga pt ta fr ro bo co pr wh bs nm fi ex ru sh : Option V}
theorem law_c {C R com Sh : List Nat} {W0 : List (List Nat)} {bk : List (Nat × List Nat)} {B : List (Nat × Nat)} {sk : List (Nat × Int)} {kb : Nat} (h8 : C.length = 8) (hR : R.length = 15) (hW : W0.length = 15) (hk : listAt O1 kb = some (bookV bk)) (hbk : bk.length < 200)
    (H : Hears (names4 nmL (C.getD 6 0 % 12)) (C.getD 6 0 % 12) (C.getD 7 0 % 3) (C.getD 7 0 / 3 % 2 * 128)) (x1 : exGo bk (List.range 16) [] [] = some (B, Sh)) (x2 : Sh.length < 200) (x3 : ∀ i, i < Sh.length → blR (zL Sh) (Sh.getD i 0) Sh.length 0 Sh.length = i ∧ brR (zL Sh) (Sh.getD i 0) Sh.length 0 Sh.length = i + 1) (x4 : comN Sh = com)
    (s1 : sortV ((keysN R).map kV) = some (sk.map kV)) (s2 : sk.length < 200) (s3 : ∀ p ∈ sk, p.2.natAbs < 15) (s4 : bk = sk.map (behind W0)) (hT : O1.take O.length = O) (q : Well O Q) :
    xs (W G3 (n + 80)) (lwB.drop 16) (lwF scr k_ (some (.lst (intL C))) pa ms mk al (some (.lst (strL W0))) a_ he du te ga pt ta fr (some (.lst (intL R))) (some (.ref kb)) (some (.lst (intL com))) pr wh (some (.lst (ruleV B))) nm fi ex ru sh) b Q O1 := by
  have hl : O.length ≤ O1.length := by rw [← hT, List.length_take]; exact Nat.min_le_right _ _
  have hT2 : (O1 ++ [AObj.list (strL nmL)]).take O.length = O := app_take hT hl
  have hk2 : listAt (O1 ++ [AObj.list (strL nmL)]) kb = some (bookV bk) := listAt_app hk
  exact stN rfl (s_16 (stN rfl (s_17 h8 (stN rfl (s_18 (list_new O1 _) rfl (Nat.mod_lt _ (by decide)) (stN rfl (s_19 h8 H hk2 (Nat.lt_trans (by with_reducible assumption) (by decide)) (congrArg expV x1) (stN rfl (s_20 hk2 hR hW s1 s2 s3 s4 (stN rfl (s_21 (stN rfl (s_22 x2 x3 (lw_23 x2 x4 hT2 q))))))))))))))
noncomputable def wordsN (c4 : Nat) : List (List Nat) := wl (pwN c4 0) (pwN c4 1) 7
noncomputable def rowsN (C : List Nat) : List Nat := (dueN (pwN (C.getD 4 0) 0) (pwN (C.getD 4 0) 1) C 4).map bitsN
noncomputable def bkN (C : List Nat) : List (Nat × List Nat) := bookN (rowsN C) (wordsN (C.getD 4 0)) (List.range 15) []
theorem pwN_len (c4 : Nat) : (pwN c4 0).length = 1 ∧ (pwN c4 1).length = 1 := by
  unfold pwN
  rcases mod3 c4 with h | h | h <;> rw [h] <;> exact ⟨by decide +kernel, by decide +kernel⟩

structure Plain (C : List Nat) : Prop where
  prep : ∀ w ∈ wordsN (C.getD 4 0), PrepOk w ((C.getD 5 0 + w.length) % 4) (pwN (C.getD 4 0) 0) (pwN (C.getD 4 0) 1) (pwN (C.getD 4 0) 2) (pwN (C.getD 4 0) 3) (markN (C.getD 4 0)) (alphaN (C.getD 4 0))
  same : ∀ w ∈ wordsN (C.getD 4 0), prepN w ((C.getD 5 0 + w.length) % 4) (pwN (C.getD 4 0) 0) (pwN (C.getD 4 0) 1) (pwN (C.getD 4 0) 2) (pwN (C.getD 4 0) 3) (markN (C.getD 4 0)) (alphaN (C.getD 4 0)) = w
  ell : ∀ k, k < 4 → Ell (pwN (C.getD 4 0) 0) (pwN (C.getD 4 0) 1) (wordsN (C.getD 4 0)) (C.getD k 0)
  sort : ∃ sk : List (Nat × Int), sortV ((keysN (rowsN C)).map kV) = some (sk.map kV) ∧ sk.length < 200 ∧ (∀ p ∈ sk, p.2.natAbs < 15) ∧ bkN C = sk.map (behind (wordsN (C.getD 4 0)))
  hears : Hears (names4 nmL (C.getD 6 0 % 12)) (C.getD 6 0 % 12) (C.getD 7 0 % 3) (C.getD 7 0 / 3 % 2 * 128)
  expl : ∃ Sh : List Nat, exGo (bkN C) (List.range 16) [] [] = some (baseN (comN (rowsN C)) (wholeN (comN (rowsN C))), Sh) ∧ Sh.length < 200 ∧ (∀ i, i < Sh.length → blR (zL Sh) (Sh.getD i 0) Sh.length 0 Sh.length = i ∧ brR (zL Sh) (Sh.getD i 0) Sh.length 0 Sh.length = i + 1) ∧ comN Sh = comN (rowsN C)
theorem bookN_length (R : List Nat) (W0 : List (List Nat)) : ∀ (js : List Nat) (bk : List (Nat × List Nat)), (bookN R W0 js bk).length = bk.length + js.length
  | [], bk => rfl
  | j :: r, bk => by
    show (bookN R W0 r _).length = _
    rw [bookN_length R W0 r, insB_length, List.length_cons]; omega
theorem dueN_len (p0 p1 C : List Nat) (k : Nat) : (dueN p0 p1 C k).length = 15 := by rw [dueN, List.length_map]; rfl
theorem due_zero (p0 p1 C : List Nat) : List.replicate 15 [] = dueN p0 p1 C 0 := rfl
theorem law_b {C : List Nat} {d : Nat} {q2 q3 : V} (h8 : C.length = 8) (P : Plain C) (hD : DueOk d (dueN (pwN (C.getD 4 0) 0) (pwN (C.getD 4 0) 1) C 0) O1) (hT : O1.take O.length = O) (hd : O.length ≤ d) (q : Well O Q) :
    xs (W G3 (n + 80)) (lwB.drop 9) (lwF scr k_ (some (.lst (intL C))) (some (pairV (pwN (C.getD 4 0) 0) (pwN (C.getD 4 0) 1) q2 q3)) ms mk al (some (.lst (strL (wordsN (C.getD 4 0))))) a_ (some (.lst (strL (wordsN (C.getD 4 0))))) (some (.ref d)) te ga pt ta fr ro bo co pr wh bs nm fi ex ru sh) b Q O1 := by
  obtain ⟨h0, h1⟩ := pwN_len (C.getD 4 0)
  have hW : (wordsN (C.getD 4 0)).length = 15 := wl_len _ _ 7
  have hR : (rowsN C).length = 15 := by rw [rowsN, List.length_map, dueN_len]
  obtain ⟨sk, s1, s2, s3, s4⟩ := P.sort
  obtain ⟨Sh, x1, x2, x3, x4⟩ := P.expl
  have hbl : (bkN C).length < 200 := by rw [bkN, bookN_length]; decide
  have hcl : (comN (rowsN C)).length = 16 := by rw [comN, List.length_map]; rfl
  have hwl : (wholeN (comN (rowsN C))).length < 100 := Nat.lt_of_le_of_lt (List.length_filter_le _ _) (by decide)
  refine stN rfl (s_9 h8 h0 h1 hW P.ell hD fun k_ a_ te ga pt ta fr O2 D2 t2 => ?_)
  have hT2 : O2.take O.length = O := (t2 _ hd).trans hT
  have hl2 : O.length ≤ O2.length := by rw [← hT2, List.length_take]; exact Nat.min_le_right _ _
  refine stN rfl (s_10 D2 (by rw [dueN_len]; decide) (fun c hc => ?_) (stN rfl (s_11 hR hW (list_new O2 _) fun a_ O3 B3 t3 => ?_)))
  · obtain ⟨i, _, rfl⟩ := List.mem_map.mp hc
    rw [List.length_map]; rfl
  · have hT3 : O3.take O.length = O := (t3 _ hl2).trans (app_take hT2 hl2)
    exact stN rfl (s_12 (show (rowsN C).length < 300 by exact Nat.lt_of_le_of_lt (Nat.le_of_eq (by with_reducible assumption)) (by decide)) (stN rfl (s_13 (stN rfl (s_14 hcl (stN rfl (s_15 hcl hwl (fun c hc => List.mem_range.mp (List.mem_filter.mp hc).1) (law_c h8 hR hW B3 hbl P.hears x1 x2 x3 x4 s1 s2 s3 s4 hT3 q))))))))
theorem law_a {script : List Int} (hs : script.length < 64) (hP : ∀ C : List Nat, C.length = 8 → Plain C) (hT : O1.take O.length = O) (q : Well O Q) :
    xs (W G3 (n + 80)) (lwB.drop 0) (lwF (some (.lst (script.map .int))) k_ ce pa ms mk al wo a_ he du te ga pt ta fr ro bo co pr wh bs nm fi ex ru sh) b Q O1 := by
  have h8 : (cellL.map (cellN script)).length = 8 := List.length_map ..
  refine stN rfl (s_0 hs ?_)
  generalize cellL.map (cellN script) = C at h8
  have P := hP C h8
  obtain ⟨h0, h1⟩ := pwN_len (C.getD 4 0)
  have hW : (wl (pwN (C.getD 4 0) 0) (pwN (C.getD 4 0) 1) 7).length = 15 := wl_len _ _ 7
  have hl : O.length ≤ O1.length := by rw [← hT, List.length_take]; exact Nat.min_le_right _ _
  refine stN rfl (s_1 h8 fun O2 t2 => stN rfl (s_2 fun O3 t3 => stN rfl (s_3 h8 (stN rfl (s_4 (stN rfl (s_5 (Nat.le_trans (Nat.le_of_eq (by with_reducible assumption)) (by decide)) (Nat.le_trans (Nat.le_of_eq (by with_reducible assumption)) (by decide)) (list_new O3 _) fun a_ => stN rfl (s_6 h8 (Nat.lt_of_le_of_lt (Nat.le_of_eq (by with_reducible assumption)) (by decide)) P.prep P.same (stN rfl (s_7 (Nat.lt_of_le_of_lt (Nat.le_of_eq (by with_reducible assumption)) (by decide)) (Nat.le_add_left _ _) fun O4 D4 t4 => stN rfl (s_8 (Nat.lt_of_le_of_lt (Nat.le_of_eq (by with_reducible assumption)) (by decide)) ?_)))))))))))
  have hT2 : O2.take O.length = O := (t2 _ hl).trans hT
  have hl2 : O.length ≤ O2.length := by rw [← hT2, List.length_take]; exact Nat.min_le_right _ _
  have hT3 : O3.take O.length = O := (t3 _ hl2).trans hT2
  have hl3 : O.length ≤ O3.length := by rw [← hT3, List.length_take]; exact Nat.min_le_right _ _
  have hl4 : O.length ≤ (O3 ++ [AObj.list (strL [[]])]).length := by rw [List.length_append]; omega
  rw [hW] at D4
  exact law_b h8 P (due_zero _ _ C ▸ D4) ((t4 _ hl4).trans (app_take hT3 hl3)) hl4 q
end
theorem law_call {n b : Nat} {O : Objs} {script : List Int} {Q : V → Objs → Prop} (hs : script.length < 64) (hP : ∀ C : List Nat, C.length = 8 → Plain C) (q : Q (.bool true) O) : CALL (W G3 (n + 81)) (.cst (.ref 173)) [.lst (script.map .int)] [] b Q O :=
  toC (law_a (b := O.length) (O := O) hs hP List.take_length fun F O1 hT => vq (Q := Q) hT q)

theorem HW_is (w : World) : HW w = H0 w.params := by unfold HW; rfl
theorem GG_is : GG = G3 := by unfold GG; rfl
theorem PG_is : PG = PySem.Challenge.rw_ta0099_03.row.prog := by unfold PG; rfl
theorem H0_get {P : Params} {a : Addr} {o : Obj} (e : (HE P).get? a = some o) (h : tabsA.contains a = false) : (H0 P).get? a = some o := hideAll_get _ e (by
  intro hm
  have := List.contains_iff_mem.mpr hm
  rw [h] at this; cases this)
theorem H0_none {P : Params} {a : Addr} (h : a ∈ tabsA) : (H0 P).get? a = none := hideAll_none _ h
theorem H0_of {P : Params} {a : Addr} {o : Obj} (e : (H0 P).get? a = some o) : (HE P).get? a = some o := of_hideAll _ e
theorem H0_size (P : Params) : (H0 P).objs.size = 174 := (hideAll_size _ _).trans (absHeap_size _ _ _)
theorem HE_all (P : Params) : (List.range 174).all (fun a => ((HE P).get? a).isSome) = true := by kernel_rfl!
theorem H0_tab {P : Params} {p : Addr} (hp : p < (H0 P).objs.size) (hn : (H0 P).get? p = none) : p ∈ tabsA := by
  rw [H0_size] at hp
  have h1 := List.all_eq_true.mp (HE_all P) p (List.mem_range.mpr hp)
  cases hc : tabsA.contains p with
  | true => exact List.contains_iff_mem.mp hc
  | false =>
    cases ho : (HE P).get? p with
    | none => rw [ho] at h1; cases h1
    | some o => rw [H0_get ho hc] at hn; cases hn
theorem ns_H0 {P : Params} {a : Addr} (x : (HE P).isNs a = true) (h : tabsA.contains a = false) : (H0 P).Ns a ((HE P).nsMap a) := by
  obtain ⟨o, es, ep, ho, r⟩ := Heap.Ns.of_isNs x
  exact ⟨o, es, ep, H0_get ho h, r⟩
theorem lookup_memJ {α β : Type} [BEq α] [LawfulBEq α] {l : List (α × β)} {a : α} {b : β} (h : l.lookup a = some b) : (a, b) ∈ l := by
  induction l with
  | nil => cases h
  | cons p l ih =>
    obtain ⟨x, y⟩ := p
    rw [List.lookup_cons] at h
    cases hx : a == x with
    | true =>
      rw [hx] at h
      cases h
      rw [eq_of_beq hx]
      exact List.mem_cons_self ..
    | false =>
      rw [hx] at h
      exact List.mem_cons_of_mem _ (ih h)
noncomputable def mgJ (P : Params) := (HE P).nsMap mainGlobals
noncomputable def mbJ (P : Params) := (HE P).nsMap builtinsNs
noncomputable def gOk (P : Params) (x : Str) (v : V) : Prop := ∃ cv, v = topV cv ∧ (mgJ P x = some cv ∨ (mgJ P x = none ∧ mbJ P x = some cv))

noncomputable def Alls {α : Type} (R : α → Prop) : List α → Prop
  | [] => True
  | x :: l => R x ∧ Alls R l
theorem Alls.mem {α : Type} {R : α → Prop} {x : α} : ∀ {l : List α}, Alls R l → x ∈ l → R x
  | y :: l, ⟨h, t⟩, hm => (List.mem_cons.mp hm).elim (fun e => e ▸ h) fun hm => Alls.mem t hm
theorem g_all (P : Params) : Alls (fun p : Str × V => gOk P p.1 p.2) G3.names :=
  ⟨⟨.ref 21, rfl, .inl (by kernel_rfl!)⟩, ⟨.ref 30, rfl, .inl (by kernel_rfl!)⟩, ⟨.ref 39, rfl, .inl (by kernel_rfl!)⟩, ⟨.ref 48, rfl, .inl (by kernel_rfl!)⟩, ⟨.ref 57, rfl, .inl (by kernel_rfl!)⟩, ⟨.ref 65, rfl, .inl (by kernel_rfl!)⟩, ⟨.ref 72, rfl, .inl (by kernel_rfl!)⟩, ⟨.ref 90, rfl, .inl (by kernel_rfl!)⟩, ⟨.ref 136, rfl, .inl (by kernel_rfl!)⟩, ⟨.ref 141, rfl, .inl (by kernel_rfl!)⟩, ⟨.ref 146, rfl, .inl (by kernel_rfl!)⟩, ⟨.ref 153, rfl, .inl (by kernel_rfl!)⟩, ⟨.ref 158, rfl, .inl (by kernel_rfl!)⟩, ⟨.ref 163, rfl, .inl (by kernel_rfl!)⟩, ⟨.ref 168, rfl, .inl (by kernel_rfl!)⟩, ⟨.ref 173, rfl, .inl (by kernel_rfl!)⟩, ⟨.ref 58, rfl, .inl (by kernel_rfl!)⟩, ⟨.ref 80, rfl, .inl (by kernel_rfl!)⟩, ⟨.ref 91, rfl, .inl (by kernel_rfl!)⟩, ⟨.str (Str.ofString "...") 189, by kernel_rfl!, .inl (by kernel_rfl!)⟩, ⟨.builtin "len", rfl, .inr ⟨by kernel_rfl!, by kernel_rfl!⟩⟩, ⟨.builtin "hex", rfl, .inr ⟨by kernel_rfl!, by kernel_rfl!⟩⟩, ⟨.builtin "next", rfl, .inr ⟨by kernel_rfl!, by kernel_rfl!⟩⟩, ⟨.builtin "ord", rfl, .inr ⟨by kernel_rfl!, by kernel_rfl!⟩⟩, ⟨.builtin "chr", rfl, .inr ⟨by kernel_rfl!, by kernel_rfl!⟩⟩, ⟨.builtin "abs", rfl, .inr ⟨by kernel_rfl!, by kernel_rfl!⟩⟩, ⟨.builtin "sum", rfl, .inr ⟨by kernel_rfl!, by kernel_rfl!⟩⟩, ⟨.builtin "sorted", rfl, .inr ⟨by kernel_rfl!, by kernel_rfl!⟩⟩, ⟨.builtin "min", rfl, .inr ⟨by kernel_rfl!, by kernel_rfl!⟩⟩, ⟨.builtin "iter", rfl, .inr ⟨by kernel_rfl!, by kernel_rfl!⟩⟩, ⟨.type "range", rfl, .inr ⟨by kernel_rfl!, by kernel_rfl!⟩⟩, ⟨.type "list", rfl, .inr ⟨by kernel_rfl!, by kernel_rfl!⟩⟩, ⟨.type "enumerate", rfl, .inr ⟨by kernel_rfl!, by kernel_rfl!⟩⟩, trivial⟩
theorem g_names (P : Params) (x : Str) (v : V) (h : G3.names.lookup x = some v) : gOk P x v := (g_all P).mem (lookup_memJ h)
noncomputable def fnOk (P : Params) (a : Addr) (fi : FnI) : Prop := ∃ o fd, FnOkH (H0 P) a fi o fd
theorem key_none {x : Str} {h : Int} {t : Tok} {o : Option Value} (e : o = nsFind #[⟨h, .str (Str.ofString "key") t, .none⟩] x) : o.map topV = List.lookup x [(u "key", V.none)] := by
  rw [e, List.lookup_cons]
  cases hx : x == u "key" with
  | true =>
    have hx := eq_of_beq hx
    subst hx
    kernel_rfl!
  | false =>
    have hn : ¬ (x = Str.ofString "key") := by simpa using hx
    have hn2 : ¬ (Str.ofString "key" = x) := fun h => hn h.symm
    have hb : (Str.ofString "key" == x) = false := by rw [beq_eq_false_iff_ne]; exact hn2
    unfold nsFind findBy
    simp [Value.isStr, hb]
theorem at_21 (P : Params) : (H0 P).get? 21 = some (oB_21 P) := H0_get (by kernel_rfl!) (by decide)
theorem at_20 (P : Params) : (H0 P).get? 20 = some (oB_20 P) := H0_get (by kernel_rfl!) (by decide)
theorem ch_21 (P : Params) : CodeHd (H0 P) 20 16 := ⟨_, _, Str.ofString "/claim/cut.py", 201, 3, 0, true, 181, 0, at_20 P, rfl, rfl, rfl, rfl, rfl, rfl, rfl, rfl, by decide⟩
theorem fk_21 (P : Params) : fnOk P 21 (fnI 2 [] []) := ⟨_, _, ⟨at_21 P, rfl, rfl, rfl, rfl, rfl, rfl, rfl, ⟨20, _, _, 192, rfl, at_20 P, rfl, rfl⟩, rfl, by kernel_rfl!, by kernel_rfl!, by kernel_rfl!, ⟨20, 16, rfl, ch_21 P, by rw [H0_size]; decide, H0_none (by decide)⟩, .inl ⟨rfl, rfl⟩, .inl ⟨rfl, rfl⟩⟩⟩
theorem at_30 (P : Params) : (H0 P).get? 30 = some (oB_30 P) := H0_get (by kernel_rfl!) (by decide)
theorem at_29 (P : Params) : (H0 P).get? 29 = some (oB_29 P) := H0_get (by kernel_rfl!) (by decide)
theorem ch_30 (P : Params) : CodeHd (H0 P) 29 25 := ⟨_, _, Str.ofString "/claim/cut.py", 216, 3, 0, true, 181, 0, at_29 P, rfl, rfl, rfl, rfl, rfl, rfl, rfl, rfl, by decide⟩
theorem at_22 (P : Params) : (H0 P).get? 22 = some (oB_22 P) := H0_get (by kernel_rfl!) (by decide)
theorem kw_30 (P : Params) : ∀ x, ((HE P).nsMap 23 x).map topV = List.lookup x [(u "key", V.none)] := fun x => key_none (show (HE P).nsMap 23 x = nsFind #[⟨PyData.keyHash P (Str.ofString "key"), (.str (Str.ofString "key") 206), .none⟩] x by kernel_rfl!)
theorem fk_30 (P : Params) : fnOk P 30 (fnI 4 [.int 0, .none] [(u "key", .none)]) := ⟨_, _, ⟨at_30 P, rfl, rfl, rfl, rfl, rfl, rfl, rfl, ⟨29, _, _, 208, rfl, at_29 P, rfl, rfl⟩, rfl, by kernel_rfl!, by kernel_rfl!, by kernel_rfl!, ⟨29, 25, rfl, ch_30 P, by rw [H0_size]; decide, H0_none (by decide)⟩, .inr ⟨22, _, rfl, ⟨_, at_22 P, rfl, _, rfl⟩, by kernel_rfl!⟩, .inr ⟨23, _, rfl, ns_H0 (by kernel_rfl!) (by decide), kw_30 P⟩⟩⟩
theorem at_39 (P : Params) : (H0 P).get? 39 = some (oB_39 P) := H0_get (by kernel_rfl!) (by decide)
theorem at_38 (P : Params) : (H0 P).get? 38 = some (oB_38 P) := H0_get (by kernel_rfl!) (by decide)
theorem ch_39 (P : Params) : CodeHd (H0 P) 38 34 := ⟨_, _, Str.ofString "/claim/cut.py", 230, 3, 0, true, 181, 0, at_38 P, rfl, rfl, rfl, rfl, rfl, rfl, rfl, rfl, by decide⟩
theorem at_31 (P : Params) : (H0 P).get? 31 = some (oB_31 P) := H0_get (by kernel_rfl!) (by decide)
theorem kw_39 (P : Params) : ∀ x, ((HE P).nsMap 32 x).map topV = List.lookup x [(u "key", V.none)] := fun x => key_none (show (HE P).nsMap 32 x = nsFind #[⟨PyData.keyHash P (Str.ofString "key"), (.str (Str.ofString "key") 219), .none⟩] x by kernel_rfl!)
theorem fk_39 (P : Params) : fnOk P 39 (fnI 5 [.int 0, .none] [(u "key", .none)]) := ⟨_, _, ⟨at_39 P, rfl, rfl, rfl, rfl, rfl, rfl, rfl, ⟨38, _, _, 221, rfl, at_38 P, rfl, rfl⟩, rfl, by kernel_rfl!, by kernel_rfl!, by kernel_rfl!, ⟨38, 34, rfl, ch_39 P, by rw [H0_size]; decide, H0_none (by decide)⟩, .inr ⟨31, _, rfl, ⟨_, at_31 P, rfl, _, rfl⟩, by kernel_rfl!⟩, .inr ⟨32, _, rfl, ns_H0 (by kernel_rfl!) (by decide), kw_39 P⟩⟩⟩
theorem at_48 (P : Params) : (H0 P).get? 48 = some (oB_48 P) := H0_get (by kernel_rfl!) (by decide)
theorem at_47 (P : Params) : (H0 P).get? 47 = some (oB_47 P) := H0_get (by kernel_rfl!) (by decide)
theorem ch_48 (P : Params) : CodeHd (H0 P) 47 43 := ⟨_, _, Str.ofString "/claim/cut.py", 243, 3, 0, true, 181, 0, at_47 P, rfl, rfl, rfl, rfl, rfl, rfl, rfl, rfl, by decide⟩
theorem at_40 (P : Params) : (H0 P).get? 40 = some (oB_40 P) := H0_get (by kernel_rfl!) (by decide)
theorem kw_48 (P : Params) : ∀ x, ((HE P).nsMap 41 x).map topV = List.lookup x [(u "key", V.none)] := fun x => key_none (show (HE P).nsMap 41 x = nsFind #[⟨PyData.keyHash P (Str.ofString "key"), (.str (Str.ofString "key") 233), .none⟩] x by kernel_rfl!)
theorem fk_48 (P : Params) : fnOk P 48 (fnI 6 [.int 0, .none] [(u "key", .none)]) := ⟨_, _, ⟨at_48 P, rfl, rfl, rfl, rfl, rfl, rfl, rfl, ⟨47, _, _, 235, rfl, at_47 P, rfl, rfl⟩, rfl, by kernel_rfl!, by kernel_rfl!, by kernel_rfl!, ⟨47, 43, rfl, ch_48 P, by rw [H0_size]; decide, H0_none (by decide)⟩, .inr ⟨40, _, rfl, ⟨_, at_40 P, rfl, _, rfl⟩, by kernel_rfl!⟩, .inr ⟨41, _, rfl, ns_H0 (by kernel_rfl!) (by decide), kw_48 P⟩⟩⟩
theorem at_57 (P : Params) : (H0 P).get? 57 = some (oB_57 P) := H0_get (by kernel_rfl!) (by decide)
theorem at_56 (P : Params) : (H0 P).get? 56 = some (oB_56 P) := H0_get (by kernel_rfl!) (by decide)
theorem ch_57 (P : Params) : CodeHd (H0 P) 56 52 := ⟨_, _, Str.ofString "/claim/cut.py", 257, 3, 0, true, 181, 0, at_56 P, rfl, rfl, rfl, rfl, rfl, rfl, rfl, rfl, by decide⟩
theorem at_49 (P : Params) : (H0 P).get? 49 = some (oB_49 P) := H0_get (by kernel_rfl!) (by decide)
theorem kw_57 (P : Params) : ∀ x, ((HE P).nsMap 50 x).map topV = List.lookup x [(u "key", V.none)] := fun x => key_none (show (HE P).nsMap 50 x = nsFind #[⟨PyData.keyHash P (Str.ofString "key"), (.str (Str.ofString "key") 246), .none⟩] x by kernel_rfl!)
theorem fk_57 (P : Params) : fnOk P 57 (fnI 7 [.int 0, .none] [(u "key", .none)]) := ⟨_, _, ⟨at_57 P, rfl, rfl, rfl, rfl, rfl, rfl, rfl, ⟨56, _, _, 248, rfl, at_56 P, rfl, rfl⟩, rfl, by kernel_rfl!, by kernel_rfl!, by kernel_rfl!, ⟨56, 52, rfl, ch_57 P, by rw [H0_size]; decide, H0_none (by decide)⟩, .inr ⟨49, _, rfl, ⟨_, at_49 P, rfl, _, rfl⟩, by kernel_rfl!⟩, .inr ⟨50, _, rfl, ns_H0 (by kernel_rfl!) (by decide), kw_57 P⟩⟩⟩
theorem at_65 (P : Params) : (H0 P).get? 65 = some (oC_65 P) := H0_get (by kernel_rfl!) (by decide)
theorem at_64 (P : Params) : (H0 P).get? 64 = some (oC_64 P) := H0_get (by kernel_rfl!) (by decide)
theorem ch_65 (P : Params) : CodeHd (H0 P) 64 60 := ⟨_, _, Str.ofString "/claim/cut.py", 300, 3, 0, true, 181, 0, at_64 P, rfl, rfl, rfl, rfl, rfl, rfl, rfl, rfl, by decide⟩
theorem fk_65 (P : Params) : fnOk P 65 (fnI 10 [] []) := ⟨_, _, ⟨at_65 P, rfl, rfl, rfl, rfl, rfl, rfl, rfl, ⟨64, _, _, 293, rfl, at_64 P, rfl, rfl⟩, rfl, by kernel_rfl!, by kernel_rfl!, by kernel_rfl!, ⟨64, 60, rfl, ch_65 P, by rw [H0_size]; decide, H0_none (by decide)⟩, .inl ⟨rfl, rfl⟩, .inl ⟨rfl, rfl⟩⟩⟩
theorem at_72 (P : Params) : (H0 P).get? 72 = some (oC_72 P) := H0_get (by kernel_rfl!) (by decide)
theorem at_71 (P : Params) : (H0 P).get? 71 = some (oC_71 P) := H0_get (by kernel_rfl!) (by decide)
theorem ch_72 (P : Params) : CodeHd (H0 P) 71 67 := ⟨_, _, Str.ofString "/claim/cut.py", 309, 3, 0, true, 181, 0, at_71 P, rfl, rfl, rfl, rfl, rfl, rfl, rfl, rfl, by decide⟩
theorem fk_72 (P : Params) : fnOk P 72 (fnI 11 [] []) := ⟨_, _, ⟨at_72 P, rfl, rfl, rfl, rfl, rfl, rfl, rfl, ⟨71, _, _, 303, rfl, at_71 P, rfl, rfl⟩, rfl, by kernel_rfl!, by kernel_rfl!, by kernel_rfl!, ⟨71, 67, rfl, ch_72 P, by rw [H0_size]; decide, H0_none (by decide)⟩, .inl ⟨rfl, rfl⟩, .inl ⟨rfl, rfl⟩⟩⟩
theorem at_90 (P : Params) : (H0 P).get? 90 = some (oC_90 P) := H0_get (by kernel_rfl!) (by decide)
theorem at_89 (P : Params) : (H0 P).get? 89 = some (oC_89 P) := H0_get (by kernel_rfl!) (by decide)
theorem ch_90 (P : Params) : CodeHd (H0 P) 89 85 := ⟨_, _, Str.ofString "/claim/cut.py", 378, 3, 0, true, 181, 0, at_89 P, rfl, rfl, rfl, rfl, rfl, rfl, rfl, rfl, by decide⟩
theorem fk_90 (P : Params) : fnOk P 90 (fnI 14 [] []) := ⟨_, _, ⟨at_90 P, rfl, rfl, rfl, rfl, rfl, rfl, rfl, ⟨89, _, _, 374, rfl, at_89 P, rfl, rfl⟩, rfl, by kernel_rfl!, by kernel_rfl!, by kernel_rfl!, ⟨89, 85, rfl, ch_90 P, by rw [H0_size]; decide, H0_none (by decide)⟩, .inl ⟨rfl, rfl⟩, .inl ⟨rfl, rfl⟩⟩⟩
theorem at_136 (P : Params) : (H0 P).get? 136 = some (oE_136 P) := H0_get (by kernel_rfl!) (by decide)
theorem at_135 (P : Params) : (H0 P).get? 135 = some (oE_135 P) := H0_get (by kernel_rfl!) (by decide)
theorem ch_136 (P : Params) : CodeHd (H0 P) 135 131 := ⟨_, _, Str.ofString "/claim/cut.py", 2337, 3, 0, true, 181, 0, at_135 P, rfl, rfl, rfl, rfl, rfl, rfl, rfl, rfl, by decide⟩
theorem fk_136 (P : Params) : fnOk P 136 (fnI 16 [] []) := ⟨_, _, ⟨at_136 P, rfl, rfl, rfl, rfl, rfl, rfl, rfl, ⟨135, _, _, 2332, rfl, at_135 P, rfl, rfl⟩, rfl, by kernel_rfl!, by kernel_rfl!, by kernel_rfl!, ⟨135, 131, rfl, ch_136 P, by rw [H0_size]; decide, H0_none (by decide)⟩, .inl ⟨rfl, rfl⟩, .inl ⟨rfl, rfl⟩⟩⟩
theorem at_141 (P : Params) : (H0 P).get? 141 = some (oE_141 P) := H0_get (by kernel_rfl!) (by decide)
theorem at_140 (P : Params) : (H0 P).get? 140 = some (oE_140 P) := H0_get (by kernel_rfl!) (by decide)
theorem ch_141 (P : Params) : CodeHd (H0 P) 140 138 := ⟨_, _, Str.ofString "/claim/cut.py", 2345, 3, 0, true, 181, 0, at_140 P, rfl, rfl, rfl, rfl, rfl, rfl, rfl, rfl, by decide⟩
theorem fk_141 (P : Params) : fnOk P 141 (fnI 18 [] []) := ⟨_, _, ⟨at_141 P, rfl, rfl, rfl, rfl, rfl, rfl, rfl, ⟨140, _, _, 2342, rfl, at_140 P, rfl, rfl⟩, rfl, by kernel_rfl!, by kernel_rfl!, by kernel_rfl!, ⟨140, 138, rfl, ch_141 P, by rw [H0_size]; decide, H0_none (by decide)⟩, .inl ⟨rfl, rfl⟩, .inl ⟨rfl, rfl⟩⟩⟩
theorem at_146 (P : Params) : (H0 P).get? 146 = some (oE_146 P) := H0_get (by kernel_rfl!) (by decide)
theorem at_145 (P : Params) : (H0 P).get? 145 = some (oE_145 P) := H0_get (by kernel_rfl!) (by decide)
theorem ch_146 (P : Params) : CodeHd (H0 P) 145 143 := ⟨_, _, Str.ofString "/claim/cut.py", 2351, 3, 0, true, 181, 0, at_145 P, rfl, rfl, rfl, rfl, rfl, rfl, rfl, rfl, by decide⟩
theorem fk_146 (P : Params) : fnOk P 146 (fnI 19 [] []) := ⟨_, _, ⟨at_146 P, rfl, rfl, rfl, rfl, rfl, rfl, rfl, ⟨145, _, _, 2348, rfl, at_145 P, rfl, rfl⟩, rfl, by kernel_rfl!, by kernel_rfl!, by kernel_rfl!, ⟨145, 143, rfl, ch_146 P, by rw [H0_size]; decide, H0_none (by decide)⟩, .inl ⟨rfl, rfl⟩, .inl ⟨rfl, rfl⟩⟩⟩
theorem at_153 (P : Params) : (H0 P).get? 153 = some (oE_153 P) := H0_get (by kernel_rfl!) (by decide)
theorem at_152 (P : Params) : (H0 P).get? 152 = some (oE_152 P) := H0_get (by kernel_rfl!) (by decide)
theorem ch_153 (P : Params) : CodeHd (H0 P) 152 148 := ⟨_, _, Str.ofString "/claim/cut.py", 2361, 3, 0, true, 181, 0, at_152 P, rfl, rfl, rfl, rfl, rfl, rfl, rfl, rfl, by decide⟩
theorem fk_153 (P : Params) : fnOk P 153 (fnI 20 [] []) := ⟨_, _, ⟨at_153 P, rfl, rfl, rfl, rfl, rfl, rfl, rfl, ⟨152, _, _, 2354, rfl, at_152 P, rfl, rfl⟩, rfl, by kernel_rfl!, by kernel_rfl!, by kernel_rfl!, ⟨152, 148, rfl, ch_153 P, by rw [H0_size]; decide, H0_none (by decide)⟩, .inl ⟨rfl, rfl⟩, .inl ⟨rfl, rfl⟩⟩⟩
theorem at_158 (P : Params) : (H0 P).get? 158 = some (oE_158 P) := H0_get (by kernel_rfl!) (by decide)
theorem at_157 (P : Params) : (H0 P).get? 157 = some (oE_157 P) := H0_get (by kernel_rfl!) (by decide)
theorem ch_158 (P : Params) : CodeHd (H0 P) 157 155 := ⟨_, _, Str.ofString "/claim/cut.py", 2367, 3, 0, true, 181, 0, at_157 P, rfl, rfl, rfl, rfl, rfl, rfl, rfl, rfl, by decide⟩
theorem fk_158 (P : Params) : fnOk P 158 (fnI 21 [] []) := ⟨_, _, ⟨at_158 P, rfl, rfl, rfl, rfl, rfl, rfl, rfl, ⟨157, _, _, 2364, rfl, at_157 P, rfl, rfl⟩, rfl, by kernel_rfl!, by kernel_rfl!, by kernel_rfl!, ⟨157, 155, rfl, ch_158 P, by rw [H0_size]; decide, H0_none (by decide)⟩, .inl ⟨rfl, rfl⟩, .inl ⟨rfl, rfl⟩⟩⟩
theorem at_163 (P : Params) : (H0 P).get? 163 = some (oE_163 P) := H0_get (by kernel_rfl!) (by decide)
theorem at_162 (P : Params) : (H0 P).get? 162 = some (oE_162 P) := H0_get (by kernel_rfl!) (by decide)
theorem ch_163 (P : Params) : CodeHd (H0 P) 162 160 := ⟨_, _, Str.ofString "/claim/cut.py", 2373, 3, 0, true, 181, 0, at_162 P, rfl, rfl, rfl, rfl, rfl, rfl, rfl, rfl, by decide⟩
theorem fk_163 (P : Params) : fnOk P 163 (fnI 22 [] []) := ⟨_, _, ⟨at_163 P, rfl, rfl, rfl, rfl, rfl, rfl, rfl, ⟨162, _, _, 2370, rfl, at_162 P, rfl, rfl⟩, rfl, by kernel_rfl!, by kernel_rfl!, by kernel_rfl!, ⟨162, 160, rfl, ch_163 P, by rw [H0_size]; decide, H0_none (by decide)⟩, .inl ⟨rfl, rfl⟩, .inl ⟨rfl, rfl⟩⟩⟩
theorem at_168 (P : Params) : (H0 P).get? 168 = some (oE_168 P) := H0_get (by kernel_rfl!) (by decide)
theorem at_167 (P : Params) : (H0 P).get? 167 = some (oE_167 P) := H0_get (by kernel_rfl!) (by decide)
theorem ch_168 (P : Params) : CodeHd (H0 P) 167 165 := ⟨_, _, Str.ofString "/claim/cut.py", 2379, 3, 0, true, 181, 0, at_167 P, rfl, rfl, rfl, rfl, rfl, rfl, rfl, rfl, by decide⟩
theorem fk_168 (P : Params) : fnOk P 168 (fnI 23 [] []) := ⟨_, _, ⟨at_168 P, rfl, rfl, rfl, rfl, rfl, rfl, rfl, ⟨167, _, _, 2376, rfl, at_167 P, rfl, rfl⟩, rfl, by kernel_rfl!, by kernel_rfl!, by kernel_rfl!, ⟨167, 165, rfl, ch_168 P, by rw [H0_size]; decide, H0_none (by decide)⟩, .inl ⟨rfl, rfl⟩, .inl ⟨rfl, rfl⟩⟩⟩
theorem at_173 (P : Params) : (H0 P).get? 173 = some (oE_173 P) := H0_get (by kernel_rfl!) (by decide)
theorem at_172 (P : Params) : (H0 P).get? 172 = some (oE_172 P) := H0_get (by kernel_rfl!) (by decide)
theorem ch_173 (P : Params) : CodeHd (H0 P) 172 170 := ⟨_, _, Str.ofString "/claim/cut.py", 2385, 3, 0, true, 181, 0, at_172 P, rfl, rfl, rfl, rfl, rfl, rfl, rfl, rfl, by decide⟩
theorem fk_173 (P : Params) : fnOk P 173 (fnI 24 [] []) := ⟨_, _, ⟨at_173 P, rfl, rfl, rfl, rfl, rfl, rfl, rfl, ⟨172, _, _, 2382, rfl, at_172 P, rfl, rfl⟩, rfl, by kernel_rfl!, by kernel_rfl!, by kernel_rfl!, ⟨172, 170, rfl, ch_173 P, by rw [H0_size]; decide, H0_none (by decide)⟩, .inl ⟨rfl, rfl⟩, .inl ⟨rfl, rfl⟩⟩⟩
theorem f_all (P : Params) : Alls (fun p : Addr × FnI => fnOk P p.1 p.2) G3.fns := ⟨fk_21 P, fk_30 P, fk_39 P, fk_48 P, fk_57 P, fk_65 P, fk_72 P, fk_90 P, fk_136 P, fk_141 P, fk_146 P, fk_153 P, fk_158 P, fk_163 P, fk_168 P, fk_173 P, trivial⟩
theorem g_fns (P : Params) (a : Addr) (fi : FnI) (h : G3.fns.lookup a = some fi) : fnOk P a fi := Alls.mem (R := fun p : Addr × FnI => fnOk P p.1 p.2) (x := (a, fi)) (f_all P) (lookup_memJ h)
theorem fnW {w : World} {a : Addr} {fi : FnI} (h : fnOk w.params a fi) : ∃ o fd, FnOk w a fi o fd := by
  unfold FnOk
  rw [HW_is w]; exact h
theorem ch_all (P : Params) (p : Addr) (hp : p ∈ tabsA) : ∃ c, CodeHd (H0 P) c p := Alls.mem (R := fun p => ∃ c, CodeHd (H0 P) c p) (l := tabsA) ⟨⟨_, ch_21 P⟩, ⟨_, ch_30 P⟩, ⟨_, ch_39 P⟩, ⟨_, ch_48 P⟩, ⟨_, ch_57 P⟩, ⟨_, ch_65 P⟩, ⟨_, ch_72 P⟩, ⟨_, ch_90 P⟩, ⟨_, ch_136 P⟩, ⟨_, ch_141 P⟩, ⟨_, ch_146 P⟩, ⟨_, ch_153 P⟩, ⟨_, ch_158 P⟩, ⟨_, ch_163 P⟩, ⟨_, ch_168 P⟩, ⟨_, ch_173 P⟩, trivial⟩ hp
theorem tab_all (P : Params) (p : Addr) (hp : p ∈ tabsA) : (HE P).get? p = some (tabObj #[]) := List.map_inj_left.mp (show tabsA.map (fun p => (HE P).get? p) = tabsA.map fun _ => some (tabObj #[]) by kernel_rfl!) p hp
theorem at_4 (P : Params) : ∃ o, (H0 P).get? 4 = some o ∧ o.cls = .type "module" ∧ o.dict = some builtinsNs ∧ o.data = .plain := ⟨_, H0_get (a := 4) (o := PySem.W.boot_o_4 P) (by kernel_rfl!) (by decide), rfl, rfl, rfl⟩
theorem baseJ (w : World) : Base w where
  nolimit := by rw [HW_is]; exact ⟨_, ns_H0 (a := cStatics) (by kernel_rfl!) (by decide), by kernel_rfl!⟩
  bmain := by
    rw [HW_is]
    exact ⟨_, ns_H0 (a := mainGlobals) (by kernel_rfl!) (by decide), fun p hp => by
      obtain ⟨o, h1, h2, h3, h4⟩ := at_4 w.params
      exact ⟨4, o, by kernel_rfl!, by decide, by decide, (by rintro rfl; rw [h1] at hp; cases hp), h1, h2, h3, h4⟩⟩
  sysm := by rw [HW_is]; exact ⟨_, H0_get (a := sysModules) (o := PySem.W.boot_o_1 w.params) (by kernel_rfl!) (by decide)⟩
  globals := by
    rw [HW_is, GG_is]
    exact ⟨_, _, ns_H0 (a := mainGlobals) (by kernel_rfl!) (by decide), ns_H0 (a := builtinsNs) (by kernel_rfl!) (by decide), g_names w.params⟩
  fns := by
    rw [GG_is]
    exact fun a fi h => fnW (g_fns w.params a fi h)
theorem self_int {prog : Program} {w : World} (i : Int) (t : Tok) : (intKind prog w).is i (.int i t) = true := decide_eq_true rfl
noncomputable def setB1 : List (Int × Nat) := [(65024, 329), (65025, 330), (65026, 331), (65027, 332), (65028, 333), (65029, 334), (6150, 315), (65030, 335), (65031, 336), (65032, 337), (65033, 338), (6155, 316), (6156, 317), (6157, 318), (8203, 319), (8204, 320), (8205, 321), (65034, 339), (65035, 340), (65036, 341), (65037, 342), (65038, 343), (65039, 344), (173, 313), (847, 314), (8288, 322), (65279, 323)]
noncomputable def setL1 : List Int := [173, 847, 6150, 6155, 6156, 6157, 8203, 8204, 8205, 8288, 65279] ++ (List.range 16).map fun (k : Nat) => (65024 : Int) + k
theorem at_80 (P : Params) : ∃ o n t, (H0 P).get? 80 = some o ∧ o.ExactSet ∧ o.data = .set (setB1.map fun p => (p.1, Value.int p.1 p.2)).toArray n t ∧ t.fits 27 = true := ⟨_, _, _, H0_get (a := 80) (o := oC_80 P) (by kernel_rfl!) (by decide), ⟨rfl, rfl, rfl⟩, rfl, rfl⟩
theorem setsJ (w : World) : SetsOk w := by
  unfold SetsOk
  rw [HW_is, GG_is]
  intro a l h
  · have hm := lookup_memJ h
    have e : G3.sets = [(80, setL1)] := rfl
    rw [e] at hm
    simp only [List.mem_singleton, Prod.mk.injEq] at hm
    obtain ⟨rfl, rfl⟩ := hm
    obtain ⟨o, n, t, h1, h2, h3, h4⟩ := at_80 w.params
    refine ⟨27, o, _, n, t, h1, h2, h3, fun e he => ?_, fun k => ?_, by decide, by simpa [setB1] using h4, rfl⟩
    · simp only [List.mem_map] at he
      obtain ⟨p, hp, rfl⟩ := he
      refine ⟨⟨p.1, ?_, ?_⟩, rfl⟩
      · exact self_int p.1 _
      · have : setB1.all (fun p => p.1 == hashInt p.1) = true := by decide +kernel
        exact eq_of_beq (List.all_eq_true.mp this p hp)
    · have e1 : ∀ x, x ∈ setL1 → x ∈ setB1.map (·.1) := fun x hx => by
        have : setL1.all (fun x => (setB1.map (·.1)).contains x) = true := by decide +kernel
        exact List.contains_iff_mem.mp (List.all_eq_true.mp this x hx)
      have e2 : ∀ x, x ∈ setB1.map (·.1) → x ∈ setL1 := fun x hx => by
        have : (setB1.map (·.1)).all (fun x => setL1.contains x) = true := by decide +kernel
        exact List.contains_iff_mem.mp (List.all_eq_true.mp this x hx)
      constructor
      · intro hk
        obtain ⟨p, hp, hq⟩ := List.mem_map.mp (e1 k (List.contains_iff_mem.mp hk))
        exact ⟨(p.1, .int p.1 p.2), by simp only [List.mem_map]; exact ⟨p, hp, rfl⟩, by subst hq; exact self_int p.1 _⟩
      · rintro ⟨e, he, hk⟩
        simp only [List.mem_map] at he
        obtain ⟨p, hp, rfl⟩ := he
        have hk' : p.1 = k := by
          have : decide (p.1 = k) = true := hk
          simpa using this
        subst hk'
        exact List.contains_iff_mem.mpr (e2 _ (List.mem_map_of_mem hp))
noncomputable def findJ (es : List DictEntry) (i : Int) : Option Value := (es.find? fun e => Value.isInt i e.key).map (·.val)
noncomputable def TabJ (es : List DictEntry) (l : List (Int × List Nat)) : Prop := ∀ i, OptS (l.lookup i) (findJ es i)
theorem TabJ.app {e1 e2 : List DictEntry} {l1 l2 : List (Int × List Nat)} (h1 : TabJ e1 l1) (h2 : TabJ e2 l2) : TabJ (e1 ++ e2) (l1 ++ l2) := fun i => by
  have a := h1 i
  have c := h2 i
  unfold findJ at *
  rw [List.find?_append, List.lookup_append]
  cases hl : l1.lookup i with
  | none =>
    rw [hl] at a
    cases hf : e1.find? fun e => Value.isInt i e.key with
    | none => exact c
    | some e => rw [hf] at a; cases a
  | some x =>
    rw [hl] at a
    cases hf : e1.find? fun e => Value.isInt i e.key with
    | none => rw [hf] at a; cases a
    | some e => rw [hf] at a; exact a
theorem tabJ_ents (k : Nat) : ∀ (l : List (Int × Str)) (tk : Nat), TabJ (ents k l tk) (l.map fun p => (p.1, p.2.cps.toList))
  | [], _, i => trivial
  | (j, x) :: r, tk, i => by
    have ih := tabJ_ents k r (tk + k) i
    show OptS (List.lookup i ((j, x.cps.toList) :: r.map fun p => (p.1, p.2.cps.toList))) (findJ (⟨j, .int j tk, .str x (tk + 1)⟩ :: ents k r (tk + k)) i)
    unfold findJ at *
    rw [List.lookup_cons, List.find?_cons]
    by_cases h : j = i
    · subst h
      have e1 : Value.isInt j (.int j tk) = true := by simp [Value.isInt]
      rw [e1, beq_self_eq_true]
      exact ⟨_, by rw [S_toList]⟩
    · have e1 : Value.isInt i (.int j tk) = false := by simp [Value.isInt, h]
      have e2 : (i == j) = false := by rw [beq_eq_false_iff_ne]; exact fun q => h q.symm
      rw [e1, e2]
      exact ih
theorem keys_ents {prog : Program} {w : World} (k : Nat) : ∀ (l : List (Int × Str)) (tk : Nat), (∀ p ∈ l, hashInt p.1 = p.1) → ∀ e ∈ ents k l tk, ∃ i, (intKind prog w).is i e.key = true ∧ e.hash = (intKind prog w).hash i
  | [], _, _, e, he => by cases he
  | (j, x) :: r, tk, h, e, he => by
    rcases List.mem_cons.mp (show e ∈ ⟨j, .int j tk, .str x (tk + 1)⟩ :: ents k r (tk + k) from he) with rfl | he
    · exact ⟨j, self_int j _, (h (j, x) (List.mem_cons_self ..)).symm⟩
    · exact keys_ents k r (tk + k) (fun p hp => h p (List.mem_cons_of_mem _ hp)) e he
noncomputable def flagsL : List (Int × Str) := [(1, u "OPTIMIZED"), (2, u "NEWLOCALS"), (4, u "VARARGS"), (8, u "VARKEYWORDS"), (16, u "NESTED"), (32, u "GENERATOR"), (64, u "NOFREE"), (128, u "COROUTINE"), (256, u "ITERABLE_COROUTINE"), (512, u "ASYNC_GENERATOR")]
theorem at_58 (P : Params) : ∃ o n, (H0 P).get? 58 = some o ∧ o.ExactDict ∧ o.data = .dict (ents 2 flagsL 261).toArray n := ⟨_, _, H0_get (a := 58) (o := oC_58 P) (by kernel_rfl!) (by decide), ⟨rfl, rfl, rfl⟩, rfl⟩
noncomputable def entsB : List DictEntry := ents 3 (its (c0B ++ csB.flatten)) 380 ++ ents 2 (its lastB) (380 + 3 * (c0B ++ csB.flatten).length)
theorem at_91 (P : Params) : ∃ o n, (H0 P).get? 91 = some o ∧ o.ExactDict ∧ o.data = .dict entsB.toArray n := ⟨_, _, H0_get (a := 91) (o := mainO) (by kernel_rfl!) (by decide), ⟨rfl, rfl, rfl⟩, rfl⟩
theorem items_split : its (c0B ++ csB.flatten) ++ its lastB = its itemsB := by kernel_rfl!
theorem itemsB_hash : (its itemsB).all (fun p => hashInt p.1 == p.1) = true := by decide +kernel
theorem its_map (l : List (Item × Pos)) : (its l).map (fun p => (p.1, p.2.cps.toList)) = l.map fun p => (p.1.1, p.1.2.cps.toList) := by
  unfold its
  rw [List.map_map]; rfl
theorem mapJ {prog : Program} {w : World} {h : Heap} {a : Addr} {o : Obj} {n : Nat} {es : List DictEntry} {l : List (Int × List Nat)} (h1 : h.get? a = some o) (h2 : o.ExactDict) (h3 : o.data = .dict es.toArray n) (hk : ∀ e ∈ es, ∃ i, (intKind prog w).is i e.key = true ∧ e.hash = (intKind prog w).hash i) (ht : TabJ es l) :
    ∃ f, h.MapOf (intKind prog w) a f ∧ ∀ i : Int, 0 ≤ i → i < 2 ^ 60 → OptS (l.lookup i) (f i) := by
  refine ⟨findJ es, ⟨o, _, n, h1, h2, h3, fun e he => hk e (by simpa using he), fun k => ?_⟩, fun i _ _ => ht i⟩
  unfold findBy findJ
  rw [List.find?_toArray]
  rfl
theorem tabsJ (w : World) : TabsOk w := by
  unfold TabsOk
  rw [HW_is, GG_is]
  intro a l h
  · have hm := lookup_memJ h
    have e : G3.tabs = [(58, flagsL.map fun p => (p.1, p.2.cps.toList)), (91, itemsB.map fun p => (p.1.1, p.1.2.cps.toList))] := rfl
    rw [e] at hm
    simp only [List.mem_cons, List.not_mem_nil, or_false, Prod.mk.injEq] at hm
    rcases hm with ⟨rfl, rfl⟩ | ⟨rfl, rfl⟩
    · obtain ⟨o, n, h1, h2, h3⟩ := at_58 w.params
      exact ⟨by decide, mapJ h1 h2 h3 (keys_ents 2 flagsL _ (fun p hp => by
        have : flagsL.all (fun p => hashInt p.1 == p.1) = true := by decide +kernel
        exact eq_of_beq (List.all_eq_true.mp this p hp))) (tabJ_ents 2 flagsL _)⟩
    · obtain ⟨o, n, h1, h2, h3⟩ := at_91 w.params
      have hh : ∀ p ∈ its (c0B ++ csB.flatten) ++ its lastB, hashInt p.1 = p.1 := fun p hp => by
        rw [items_split] at hp
        exact eq_of_beq (List.all_eq_true.mp itemsB_hash p hp)
      refine ⟨by decide, mapJ h1 h2 h3 (fun e he => ?_) ?_⟩
      · rcases List.mem_append.mp he with q | q
        · exact keys_ents 3 _ _ (fun p hp => hh p (List.mem_append_left _ hp)) e q
        · exact keys_ents 2 _ _ (fun p hp => hh p (List.mem_append_right _ hp)) e q
      · rw [← its_map, ← items_split, List.map_append]
        exact TabJ.app (tabJ_ents 3 _ _) (tabJ_ents 2 _ _)
noncomputable def hookS (w : World) (h : Heap) : Prop := ∀ b o, (HE w.params).get? b = some o → h.get? b = some o
theorem hookS_of (w : World) (s : Shared) (e : s.heap = HE w.params) : hookS w s.heap := fun b o h => by rw [e]; exact h
theorem hookS_keeps (w : World) (h h' : Heap) (x : hookS w h) (k : ∀ b o, h.get? b = some o → h'.get? b = some o) : hookS w h' := fun b o e => k b o (x b o e)
noncomputable def ioJ : Pl := ⟨[], tabsA.map C.tab, []⟩
noncomputable def soJ : Objs := tabsA.map fun _ => AObj.tab
theorem mt_ioJ : ioJ.mt = tabsA := by rfl
theorem rel_start {w : World} {h : Heap} (Y : hookS w h) : RelW w ioJ [] soJ h := by
  unfold RelW
  rw [HW_is]
  exact {
    len := by rw [ioJ, soJ, List.length_map, List.length_map]
    flen := rfl
    base := fun a o e => Y a o (H0_of e)
    off := fun a ha => H0_none (mt_ioJ ▸ ha)
    nd := by rw [mt_ioJ]; decide
    ex := fun a ha => ⟨_, Y a _ (tab_all w.params a (mt_ioJ ▸ ha))⟩
    objs := fun i o c ho hc => by
      unfold soJ at ho
      unfold ioJ at hc
      rw [List.getElem?_map] at ho hc
      cases ht : tabsA[i]? with
      | none => rw [ht] at ho; cases ho
      | some p =>
        rw [ht] at ho hc
        cases ho
        cases hc
        exact ⟨#[], Y p _ (tab_all w.params p (List.mem_of_getElem? ht)), (by exact trivial), fun pos cv hcv => by cases hcv⟩
    frs := fun i f p hf _ => by cases hf
    tab := fun p hp hn => by
      obtain ⟨k, hk⟩ := List.getElem?_of_mem (H0_tab hp hn)
      exact ⟨k, by unfold ioJ; rw [List.getElem?_map, hk]; rfl⟩ }
theorem wellInts {P : Params} {h : Heap} {κ : Pl} : ∀ {xs : List Int} {vs : List Value} {ds : List WData}, WellAll P h vs ds → ds = xs.map .int → RVs h κ (xs.map .int) vs
  | [], _, _, .nil, _ => rfl
  | [], _, _, .cons _ _, e => by cases e
  | x :: xs, _, _, .nil, e => by cases e
  | x :: xs, _, _, .cons a b, e => by
    cases e
    cases a with
    | int i t => exact ⟨_, _, rfl, ⟨t, rfl⟩, wellInts b rfl⟩
theorem ofPy_ints (xs : List Int) : ofPy (.list (xs.map .int)) = .list (xs.map .int) := by
  show WData.list (ofPys (xs.map PyData.int)) = _
  rw [ofPys_eq, List.map_map]
  rfl
theorem law_ends (hP : ∀ C : List Nat, C.length = 8 → Plain C) {w : World} {s : Shared} (Y : hookS w s.heap) {E : Value → Shared → Prop} {a : Addr} {xs : List Int} {vs : List Value} (hx : xs.length < 64) (hget : s.heap.get? a = some { cls := .type "list", data := .seq vs.toArray }) (hw : WellAll w.params s.heap vs (xs.map .int)) :
    wpAny (MW w) callerA (call (.ref 173) [.ref a] []) (End w soJ.length ioJ [] soJ s RV (fun v O => v = V.bool true)) noE s := by
  have hc := (law_call (n := 0) (b := soJ.length) (O := soJ) (script := xs) (Q := fun v O => v = V.bool true) hx hP rfl).is
  rw [← GG_is] at hc
  refine (all_sound (baseJ w) (setsJ w) (tabsJ w) 81).c hc ⟨by decide, by decide, rfl⟩ (rel_start Y) (Nat.le_refl _) (show RV s.heap ioJ (.cst (.ref 173)) (.ref 173) from rfl) ?_ rfl
  refine ⟨_, _, rfl, ⟨a, vs.toArray, rfl, ⟨_, hget⟩, fun hm => ?_, wellInts hw rfl⟩, rfl⟩
  rw [mt_ioJ] at hm
  have := Y a _ (tab_all w.params a hm)
  rw [hget] at this
  cases this
theorem old_ends {w : World} {s s' : Shared} {κ' : Pl} {O' : Objs} (Y : hookS w s.heap) (R : RelW w κ' [] O' s'.heap) (X : Ext s.heap ioJ s'.heap κ') : OldK s.heap s'.heap := by
  have ht : ∀ b ∈ tabsA, ∃ ps, s'.heap.get? b = some (tabObj ps) := fun b hb => by
    obtain ⟨k, hk⟩ := List.getElem?_of_mem hb
    have h1 : ioJ.ob[k]? = some (.tab b) := by unfold ioJ; rw [List.getElem?_map, hk]; rfl
    have h2 := pre_get X.pre h1
    have hlt : k < O'.length := by rw [← R.len]; exact (List.getElem?_eq_some_iff.mp h2).1
    have h3 := R.objs k O'[k] (.tab b) (List.getElem?_eq_some_iff.mpr ⟨hlt, rfl⟩) h2
    cases ho : O'[k] with
    | tab => rw [ho] at h3; obtain ⟨ps, hp, _⟩ := h3; exact ⟨ps, hp⟩
    | _ => rw [ho] at h3; exact absurd h3 id
  constructor
  · intro b o e
    by_cases hb : b ∈ tabsA
    · have e0 := Y b _ (tab_all w.params b hb)
      rw [e] at e0
      cases e0
      obtain ⟨ps, hp⟩ := ht b hb
      obtain ⟨c, o, vs, file, tf, flags, tg, inF, text, tt, h1, h2, h3, h4, _⟩ := ch_all w.params b hb
      exact .inr (.inl ⟨⟨c, o, vs, Y c o (H0_of h1), h2, h3, h4⟩, rfl, #[], ps, rfl, by rw [hp]; simp⟩)
    · exact .inl (X.keep b o e (by rw [mt_ioJ]; exact hb))
  · intro b o e
    by_cases hb : b ∈ tabsA
    · obtain ⟨ps, hp⟩ := ht b hb
      exact ⟨_, hp⟩
    · exact ⟨o, X.keep b o e (by rw [mt_ioJ]; exact hb)⟩
set_option tactic.hygienic true in
set_option maxHeartbeats 8000000 in
theorem holds_row (said : PySem.Challenge.rw_ta0099_03.row.wellSaid = true) (hP : ∀ C : List Nat, C.length = 8 → Plain C) : PySem.Challenge.rw_ta0099_03.row.Holds := by
  refine holds_open (q := qv) (loose := looseN) (Xt := fun _ => true) (XP := fun _ _ => True) (Yf := fun s => s.heap) (Ya := fun w => HE w.params) (YP := hookS) (N := 100000) leftL hookS_of hookS_keeps
    (fun _ _ => trivial) (fun _ _ _ _ _ => trivial) (by rfl) (by rfl) (by rfl) (fun _ _ => recFacts_nil rfl) (by rfl) (by assumption) (by decide +kernel) ⟨rfl, rfl, rfl, rfl, rfl, by decide +kernel⟩ ?hw ?hc
  case hw => w_witness2
  case hc =>
    intro w s₀ s₁ mg mb G Y fa o pm cd doc dV kV ho hd hcd hD hmg hg args vals as hpre hlay hrd hwl hlo
    have hT := G.T.g
    clear hd hcd hD ho
    have hfa : fa = 173 := by
      obtain ⟨o, es, ep, h1, h2, h3, h4⟩ := hT
      obtain ⟨o', es', ep', k1, k2, k3, k4⟩ := Heap.Ns.of_isNs (h := HE w.params) (a := mainGlobals) (by kernel_rfl!)
      have k5 := Y _ _ k1
      rw [h1] at k5
      cases k5
      rw [h2] at k2
      cases k2
      have e1 := k4 (Str.ofString "law")
      have e2 := h4 (Str.ofString "law")
      have e3 : (HE w.params).nsMap mainGlobals (Str.ofString "law") = some (.ref 173) := by kernel_rfl!
      rw [e3] at e1
      have hmg' : mg (Str.ofString "law") = some (.ref fa) := hmg
      rw [e1, hmg'] at e2
      cases e2
      rfl
    subst hfa
    clear hmg hT
    wrow_args hpre hlay hrd hwl hlo
    rename_i xs _ _ _ _ _ _ _ a vs0 _ _ _ hwel _ _ _ hlen _
    rw [ofPy_ints] at hwel ⊢
    cases hwel with
    | list hget hwa =>
      have hcall := law_ends hP Y (E := fun e s' => GoodWG PySem.Challenge.rw_ta0099_03.row.claim (classAt s₀.heap) (ExcName.means s₀.heap) [WData.list (xs.map .int)] s₁ (Except.error e) s') (by omega) hget hwa
      rw [MW, PG_is] at hcall
      refine wpAny_mono hcall (fun v s' he => ?_) fun _ _ x => x.elim
      obtain ⟨hv', g, hv⟩ := he
      subst hv'
      have hv' : v = .bool true := hv
      subst hv'
      refine ⟨.inl ⟨.bool true, .bool true, [], rfl, fun cls => rfl, .bool true, by wrow_post, fun _ => ⟨List.nodup_nil, fun a ha => by cases ha⟩⟩, old_ends Y g.rel g.ext, g.rest.2.1, ?_⟩
      intro y hy
      rw [g.rest.1, hg] at hy
      simp at hy

noncomputable def occF (x y : List Nat) (hi limit : Nat) : List Nat → Nat → Nat → List Nat
  | [], _, _ => []
  | i :: r, n, free => if n < limit && free ≤ i && i + y.length ≤ hi && ((x.drop i).take y.length == y) then i :: occF x y hi limit r (n + 1) (i + y.length) else occF x y hi limit r n free
theorem occ_run (x y : List Nat) (hi limit : Nat) : ∀ (l : List Nat) (a : Array Nat) (free : Nat), (forIn l (a, free) (StrLaws.occBody (S x) (S y) hi limit)).run.fst.toList = a.toList ++ occF x y hi limit l a.size free
  | [], a, free => by simp [occF]
  | i :: l, a, free => by
    rw [List.forIn_cons]
    unfold StrLaws.occBody occF
    have e : Builtin.Str.subAt (S x) (S y) i = ((x.drop i).take y.length == y) := by
      rw [StrLaws.subAt_eq, S_length]; rfl
    rw [e, S_length]
    by_cases hc : ((a.size < limit ∧ free ≤ i) ∧ i + y.length ≤ hi) ∧ ((x.drop i).take y.length == y) = true
    · rw [if_pos hc, if_pos (by simp only [Bool.and_eq_true, decide_eq_true_eq]; exact hc)]
      have := occ_run x y hi limit l (a.push i) (i + y.length)
      rw [Array.size_push] at this
      refine Eq.trans this ?_
      simp
    · rw [if_neg hc, if_neg (by simp only [Bool.and_eq_true, decide_eq_true_eq]; exact hc)]
      exact occ_run x y hi limit l a free
theorem occ_fast (x y : List Nat) (lo hi limit : Nat) : Builtin.Str.occurrences (S x) (S y) lo hi limit = occF x y hi limit (List.range' lo (hi + 1 - lo)) 0 lo := by
  rw [StrLaws.occ_eq, occ_run]
  rfl
noncomputable def kindF (x : List Nat) : Nat := if x.all (fun c => decide (c < 256)) then 1 else if x.all (fun c => decide (c < 65536)) then 2 else 4
theorem kind_fast (x : List Nat) : Builtin.Str.strKind (S x) = kindF x := by
  unfold Builtin.Str.strKind kindF S
  simp
noncomputable def partsF (x cuts : List Nat) (w : Nat) : List (List Nat) := ((0 :: cuts.map (· + w)).zip (cuts ++ [x.length])).map fun p => (x.drop p.1).take (p.2 - p.1)
theorem parts_fast (x cuts : List Nat) (w : Nat) : (Builtin.Str.partsBetween (S x) cuts w).map (fun p => p.cps.toList) = partsF x cuts w := by
  unfold Builtin.Str.partsBetween partsF
  rw [S_length, List.map_map]
  apply List.map_congr_left
  intro p _
  show (Builtin.Str.strSub (S x) p.1 p.2).cps.toList = _
  rw [StrLaws.strSub_toList]; rfl
noncomputable def occ0 (x y : List Nat) : List Nat := occF x y x.length (x.length + 1) (List.range' 0 (x.length + 1)) 0 0
noncomputable def splF (x y : List Nat) : List (List Nat) := if decide (x.length < y.length) || decide (kindF x < kindF y) then [x] else if (occ0 x y).isEmpty then [x] else partsF x (occ0 x y) y.length
theorem split_fast (x y : List Nat) : (Txt.split (S x) (S y)).map (fun p => p.cps.toList) = splF x y := by
  unfold Txt.split splF
  rw [kind_fast, kind_fast, S_length, S_length, occ_fast]
  show List.map _ (if (decide (x.length < y.length) || decide (kindF x < kindF y)) = true then [S x] else if (occ0 x y).isEmpty = true then [S x] else Builtin.Str.partsBetween (S x) (occ0 x y) y.length) = _
  split
  · rfl
  · split
    · rfl
    · exact parts_fast _ _ _
theorem parts_len (x cuts : List Nat) (w : Nat) : (Builtin.Str.partsBetween (S x) cuts w).length = cuts.length + 1 := by
  unfold Builtin.Str.partsBetween
  simp
theorem occF_len (x y : List Nat) (hi limit : Nat) : ∀ (l : List Nat) (n free : Nat), (occF x y hi limit l n free).length ≤ l.length
  | [], _, _ => Nat.le_refl _
  | i :: l, n, free => by
    unfold occF
    split
    · exact Nat.succ_le_succ (occF_len x y hi limit l _ _)
    · exact Nat.le_succ_of_le (occF_len x y hi limit l _ _)
theorem partsOk {x y : List Nat} {k : Nat} (h : x.length ≤ 100000) : (Builtin.Str.partsBetween (S x) (Builtin.Str.occurrences (S x) (S y) 0 x.length (x.length + 1)) k).length ≤ 1000000 := by
  rw [parts_len, occ_fast]
  have := occF_len x y x.length (x.length + 1) (List.range' 0 (x.length + 1 - 0)) 0 0
  rw [List.length_range'] at this
  omega
noncomputable def joiF (x : List Nat) : List (List Nat) → List Nat
  | [] => []
  | w :: l => w ++ l.flatMap fun p => x ++ p
theorem join_fast (x : List Nat) (l : List (List Nat)) : joiT x l = joiF x l := by
  have go : ∀ (l : List (List Nat)) (a : Array Nat), ((l.map S).foldl (fun acc p => acc ++ (S x).cps ++ p.cps) a).toList = a.toList ++ l.flatMap fun p => x ++ p := by
    intro l
    induction l with
    | nil => intro a; simp
    | cons w l ih => intro a; simp only [List.map_cons, List.foldl_cons, ih, List.flatMap_cons]; simp [S]
  cases l with
  | nil => rfl
  | cons w l =>
    show (((S w :: l.map S).drop 1).foldl (fun acc p => acc ++ (S x).cps ++ p.cps) ((S w :: l.map S).headD Str.empty).cps).toList = _
    rw [List.drop_one, List.tail_cons, List.headD_cons, go]
    rfl
theorem splT_fast (x y : List Nat) : splT x y = splF x y := split_fast x y
theorem splOk_of {x y : List Nat} (hy : y ≠ []) (hx : x.length ≤ 100000) : splOk x y = true := by
  unfold splOk
  simp only [Bool.and_eq_true, Bool.not_eq_true', decide_eq_true_eq]
  refine ⟨⟨?_, by exact Nat.le_trans (by with_reducible assumption) (by decide)⟩, partsOk hx⟩
  cases y with
  | nil => exact absurd rfl hy
  | cons => rfl

noncomputable def wordsQ (f : Nat) : List (List Nat) := splF (joiF [44, 32] (pfL f)) [44, 32]
theorem pf_fast (f : Nat) : pf f = joiF [44, 32] (pfL f) := join_fast [44, 32] (pfL f)
theorem words_fast (f : Nat) : wordsF f = wordsQ f := by
  unfold wordsF wordsQ
  rw [split_fast, pf_fast]
noncomputable def askW (ns ws : List (List Nat)) : Nat := (([0, 1, 2, 3].filter fun k => ws.contains (ns.getD k [])).map (2 ^ ·)).sum
theorem ask_fast (ns : List (List Nat)) (f : Nat) : askN ns f = askW ns (wordsQ f) := by
  unfold askN askW askC
  rw [words_fast]
noncomputable def askB (base : Nat) : Bool := (List.range 16).all fun x => decide ((pfL (x * 2 ^ base)).length ≤ 100) && (pfL (x * 2 ^ base)).all (fun w => decide (w.length ≤ 100)) && decide ((joiF [44, 32] (pfL (x * 2 ^ base))).length ≤ 100000) && decide (askW (names4 nmL base) (wordsQ (x * 2 ^ base)) = x)
theorem vgo_app (r' : List Nat) : ∀ (l : List Nat) (val b v : Nat) (r : List Nat), vgo val b l = some (v, r) → vgo val b (l ++ r') = some (v, r ++ r')
  | [], val, b, v, r, h => by
    unfold vgo at h
    split at h
    · rename_i hb
      cases h
      cases r' with
      | nil => show vgo val b [] = _; unfold vgo; rw [if_pos hb]; rfl
      | cons c l => show vgo val b (c :: l) = _; unfold vgo; rw [if_pos hb]; rfl
    · cases h
  | c :: l, val, b, v, r, h => by
    unfold vgo at h
    show vgo val b (c :: (l ++ r')) = _
    unfold vgo
    split at h
    · rename_i hb
      cases h
      rw [if_pos hb]; rfl
    · rename_i hb
      rw [if_neg hb]
      split at h
      · rename_i hv
        rw [if_pos hv]
        exact vgo_app r' l _ _ _ _ h
      · cases h
theorem varint_app {l r r' : List Nat} {v : Nat} (h : varint l = some (v, r)) : varint (l ++ r') = some (v, r ++ r') := by
  cases l with
  | nil => cases h
  | cons b l => exact vgo_app r' l _ _ _ _ h
noncomputable def varB (base no hi : Nat) : Bool := (List.range 16).all fun y => decide (varint (octN (y * 2 ^ base) no hi) = some (y * 2 ^ base, []))
theorem ask_all : (List.range 12).all askB = true := by decide +kernel
theorem var_all : (List.range 12).all (fun base => (List.range 3).all fun no => varB base no 0 && varB base no 128) = true := by decide +kernel
theorem hears_all {base no t : Nat} (hb : base < 12) (hn : no < 3) (ht : t < 2) : Hears (names4 nmL base) base no (t * 128) := by
  have ha := List.all_eq_true.mp ask_all base (List.mem_range.mpr hb)
  have hv0 := List.all_eq_true.mp (List.all_eq_true.mp var_all base (List.mem_range.mpr hb)) no (List.mem_range.mpr hn)
  rw [Bool.and_eq_true] at hv0
  have hv : varB base no (t * 128) = true := by
    rcases (show t = 0 ∨ t = 1 by omega) with rfl | rfl
    · exact hv0.1
    · exact hv0.2
  unfold askB at ha
  unfold varB at hv
  have hx : ∀ x, x < 16 → FlagOk (x * 2 ^ base) ∧ askN (names4 nmL base) (x * 2 ^ base) = x := fun x hx => by
    have := List.all_eq_true.mp ha x (List.mem_range.mpr hx)
    simp only [Bool.and_eq_true, decide_eq_true_eq, List.all_eq_true] at this
    obtain ⟨⟨⟨h1, h2⟩, h3⟩, h4⟩ := this
    have hp : 2 ^ base ≤ 2 ^ 12 := Nat.pow_le_pow_right (by decide) (Nat.le_of_lt (by with_reducible assumption))
    have hm : x * 2 ^ base < 2 ^ 36 := Nat.lt_of_le_of_lt (Nat.mul_le_mul (Nat.le_of_lt hx) hp) (by decide)
    have hl : (pf (x * 2 ^ base)).length ≤ 100000 := by rw [pf_fast]; exact h3
    exact ⟨⟨hm, joiOk_small (by simp) (Nat.le_trans (by with_reducible assumption) (by decide)) (fun w hw => by have := h2 w hw; exact Nat.le_trans (by with_reducible assumption) (by decide)), by exact Nat.le_trans (by with_reducible assumption) (by decide), partsOk hl⟩, by rw [ask_fast]; exact h4⟩
  refine ⟨rfl, hb, by exact Nat.lt_trans (by with_reducible assumption) (by decide), by omega, fun x h => (hx x h).1, fun x h => (hx x h).2, fun x y hx hy => ?_, fun y hy => ?_⟩
  · exact varint_app (of_decide_eq_true (List.all_eq_true.mp hv x (List.mem_range.mpr hx)))
  · exact of_decide_eq_true (List.all_eq_true.mp hv y (List.mem_range.mpr hy))

noncomputable def pwK (k i : Nat) : List Nat := (pairS k).getD i []
theorem pwN_K (c4 i : Nat) : pwN c4 i = pwK (c4 % 3) i := rfl
noncomputable def staF (g w : List Nat) : Bool := decide (w.length ≤ g.length) && (g.take w.length == w)
noncomputable def endF (g w : List Nat) : Bool := decide (w.length ≤ g.length) && ((g.drop (g.length - w.length)).take w.length == w)
theorem sta_fast (g w : List Nat) : Txt.startswith (S g) (S w) = staF g w := by
  unfold Txt.startswith staF
  rw [StrLaws.subAt_eq, S_length, S_length, Nat.zero_add]; rfl
theorem end_fast (g w : List Nat) : Txt.endswith (S g) (S w) = endF g w := by
  unfold Txt.endswith endF
  rw [StrLaws.subAt_eq, S_length, S_length, Nat.zero_add]; rfl
noncomputable def finF (x y : List Nat) (lo hi : Nat) : Int := match occF x y hi 1 (List.range' lo (hi + 1 - lo)) 0 lo with
  | i :: _ => (i : Int)
  | [] => -1
theorem fin_fast (x y : List Nat) (lo hi : Nat) : findT x y lo hi = finF x y lo hi := by
  have e := occ_fast x y lo hi 1
  unfold findT finF
  revert e
  generalize Builtin.Str.occurrences (S x) (S y) lo hi 1 = o
  rintro rfl
  cases occF x y hi 1 (List.range' lo (hi + 1 - lo)) 0 lo <;> rfl
noncomputable def ellFF (got : List Nat) : List (List Nat) → Option (Nat × List (List Nat))
  | [] => none
  | w :: r => if w.isEmpty then some (0, w :: r) else if staF got w then some (w.length, r) else none
noncomputable def ellBF (got : List Nat) (ws : List (List Nat)) : Option (Int × List (List Nat)) := match ws.getLast? with
  | none => none
  | some w => if w.isEmpty then some (got.length, ws) else if endF got w then some ((got.length : Int) - w.length, ws.dropLast) else none
noncomputable def ellGF (got : List Nat) (ep : Int) : List (List Nat) → Int → Bool
  | [], _ => true
  | w :: r, sp => if finF got w (clipT got.length sp) (min (clipT got.length ep) got.length) < 0 then false else ellGF got ep r (finF got w (clipT got.length sp) (min (clipT got.length ep) got.length) + w.length)
theorem ellGF_eq (got : List Nat) (ep : Int) : ∀ (l : List (List Nat)) (sp : Int), ellGo got ep l sp = ellGF got ep l sp
  | [], _ => rfl
  | w :: r, sp => by
    unfold ellGo ellGF
    rw [fin_fast, ellGF_eq got ep r]
noncomputable def ellQ (got : List Nat) (ws : List (List Nat)) : Bool := match ellFF got ws with
  | none => false
  | some (sp, ws) => match ellBF got ws with
    | none => false
    | some (ep, ws) => if (sp : Int) > ep then false else ellGF got ep ws sp
noncomputable def inQ (want : List Nat) : Bool := !(occF want [46, 46, 46] want.length 1 (List.range' 0 (want.length + 1)) 0 0).isEmpty
theorem ell_fast (want got : List Nat) : ellM want got = if inQ want then ellQ got (splF want [46, 46, 46]) else decide (want = got) := by
  have e1 : ellIn want = inQ want := by unfold ellIn inQ; rw [occ_fast]; rfl
  have e2 : ellW want = splF want [46, 46, 46] := split_fast want [46, 46, 46]
  have e3 : ∀ ws, ellF got ws = ellFF got ws := fun ws => by
    cases ws with
    | nil => rfl
    | cons w r => unfold ellF ellFF; dsimp only; rw [sta_fast]
  have e4 : ∀ ws, ellB got ws = ellBF got ws := fun ws => by
    unfold ellB ellBF
    cases ws.getLast? with
    | none => rfl
    | some w => dsimp only; rw [end_fast]
  unfold ellM
  rw [e1, e2, e3]
  unfold ellQ
  split
  · cases ellFF got (splF want [46, 46, 46]) with
    | none => rfl
    | some p =>
      dsimp only
      unfold ellY
      rw [e4]
      cases ellBF got p.2 with
      | none => rfl
      | some q => dsimp only; rw [ellZ, ellGF_eq]
  · rfl
noncomputable def texF (p0 p1 : List Nat) (c : Nat) : List Nat := ((textI c).map fun i => if i = 0 then p0 else p1).flatten
theorem tex_fast (p0 p1 : List Nat) (c : Nat) : textN p0 p1 c = texF p0 p1 c := joiT_nil _
noncomputable def patF (text gaps : List Nat) : List Nat := (patL text gaps).flatten
theorem pat_fast (text gaps : List Nat) : patN text gaps = patF text gaps := joiT_nil _
noncomputable def fitF (text : List Nat) (begin low front c : Nat) : List Nat := (List.range' low (min (front + 2) (text.length + 1) - low)).filter fun p => endF (sub text begin front ++ [c]) (sub text begin p)
noncomputable def rowF (text gaps letters : List Nat) (front : Nat) : List Nat := letters.map fun c => ownLast (text.length + 1) (fitF text (ownBL gaps front).1 (ownBL gaps front).2 front c)
noncomputable def ownF (text gaps letters : List Nat) : List (List Nat) := (List.range (text.length + 1)).map (rowF text gaps letters) ++ [[text.length + 1, text.length + 1]]
theorem own_fast (text gaps letters : List Nat) : ownT text gaps letters = ownF text gaps letters := by
  have e : ∀ b l f c, ownFits text b l f c = fitF text b l f c := fun b l f c => by
    unfold ownFits fitF
    simp only [end_fast]
  unfold ownT ownF
  congr 1
  apply List.map_congr_left
  intro f _
  unfold ownRow rowF
  simp only [e]
noncomputable def ellAt (words : List (List Nat)) (want : List Nat) (ws : List (List Nat)) (inn : Bool) (fr : List Nat) (len : Nat) : Bool :=
  decide (want.length < 1000) && (!inn || (decide (2 ≤ ws.length) && decide (ws.length < 300) && ws.all (fun w => decide (w.length < 1000000)))) &&
    (List.range 15).all fun j => decide ((words.getD j []).length < 1000) && ((if inn then ellQ (words.getD j []) ws else decide (want = words.getD j [])) == decide (fr.getD j 0 = len))
noncomputable def texT (p0 p1 : List Nat) (ti : List Nat) : List Nat := (ti.map fun i => if i = 0 then p0 else p1).flatten
noncomputable def elpT (k : Nat) (ti g : List Nat) : Bool :=
  ellAt (wl (pwK k 0) (pwK k 1) 7) (patF (texT (pwK k 0) (pwK k 1) ti) g) (splF (patF (texT (pwK k 0) (pwK k 1) ti) g) [46, 46, 46]) (inQ (patF (texT (pwK k 0) (pwK k 1) ti) g)) (frN (ownF (texT (pwK k 0) (pwK k 1) ti) g (pwK k 0 ++ pwK k 1)) 7) (texT (pwK k 0) (pwK k 1) ti).length
noncomputable def elpB (k c : Nat) : Bool := elpT k (textI c) (gpsN c)

noncomputable def allL (b : Nat) : Nat → List (List Nat)
  | 0 => [[]]
  | n + 1 => (allL b n).flatMap fun l => (List.range b).map fun d => l ++ [d]
theorem mem_allL {b : Nat} {f : Nat → Nat} (h : ∀ p, f p < b) : ∀ n, (List.range n).map f ∈ allL b n
  | 0 => List.mem_singleton_self _
  | n + 1 => by
    rw [List.range_succ, List.map_append]
    exact List.mem_flatMap.mpr ⟨_, mem_allL h n, List.mem_map.mpr ⟨f n, List.mem_range.mpr (h n), rfl⟩⟩
noncomputable def elpA (k l : Nat) : Bool := (allL 2 l).all fun ti => (allL 3 (l + 1)).all fun g => elpT k ti g
theorem elp_00 : elpA 0 0 = true := by decide +kernel
theorem elp_01 : elpA 0 1 = true := by decide +kernel
theorem elp_02 : elpA 0 2 = true := by decide +kernel
theorem elp_10 : elpA 1 0 = true := by decide +kernel
theorem elp_11 : elpA 1 1 = true := by decide +kernel
theorem elp_12 : elpA 1 2 = true := by decide +kernel
theorem elp_20 : elpA 2 0 = true := by decide +kernel
theorem elp_21 : elpA 2 1 = true := by decide +kernel
theorem elp_22 : elpA 2 2 = true := by decide +kernel
theorem elp_k {k l : Nat} (hk : k < 3) (hl : l < 3) : elpA k l = true := match k, l, hk, hl with
  | 0, 0, _, _ => elp_00
  | 0, 1, _, _ => elp_01
  | 0, 2, _, _ => elp_02
  | 1, 0, _, _ => elp_10
  | 1, 1, _, _ => elp_11
  | 1, 2, _, _ => elp_12
  | 2, 0, _, _ => elp_20
  | 2, 1, _, _ => elp_21
  | 2, 2, _, _ => elp_22
theorem elpB_all {k : Nat} (hk : k < 3) (c : Nat) : elpB k c = true := List.all_eq_true.mp (List.all_eq_true.mp (elp_k hk (Nat.mod_lt c (by decide))) _ (mem_allL (fun p => Nat.mod_lt _ (by decide)) _)) _ (mem_allL (fun p => Nat.mod_lt _ (by decide)) _)
theorem ell_all (c4 c : Nat) : Ell (pwN c4 0) (pwN c4 1) (wordsN c4) c := by
  have h := elpB_all (Nat.mod_lt c4 (show 0 < 3 by decide)) c
  intro j hj m b τ Q q
  have hj15 : j < 15 := by
    have : (wordsN c4).length = 15 := wl_len _ _ 7
    exact Nat.lt_of_lt_of_eq (by with_reducible assumption) (by with_reducible assumption)
  unfold wordsN at hj ⊢
  rw [pwN_K, pwN_K] at hj q ⊢
  generalize c4 % 3 = k at *
  unfold elpB elpT ellAt at h
  rw [show texT (pwK k 0) (pwK k 1) (textI c) = texF (pwK k 0) (pwK k 1) c from rfl] at h
  rw [← tex_fast, ← pat_fast, ← own_fast] at h
  simp only [Bool.and_eq_true, decide_eq_true_eq, Bool.or_eq_true, Bool.not_eq_true', List.all_eq_true, List.mem_range] at h
  obtain ⟨⟨h1, h2⟩, h3⟩ := h
  obtain ⟨h4, h5⟩ := h3 j hj15
  have hv : vN (pwK k 0) (pwK k 1) c j = decide ((frN (ownT (textN (pwK k 0) (pwK k 1) c) (gpsN c) (pwK k 0 ++ pwK k 1)) 7).getD j 0 = (textN (pwK k 0) (pwK k 1) c).length) := rfl
  rw [hv, ← eq_of_beq h5] at q
  generalize patN (textN (pwK k 0) (pwK k 1) c) (gpsN c) = want at *
  generalize (wl (pwK k 0) (pwK k 1) 7).getD j [] = got at *
  rw [← ell_fast] at q
  refine el_call h1 h4 (fun hi => ?_) q
  have e1 : ellIn want = inQ want := by unfold ellIn inQ; rw [occ_fast]; rfl
  have e2 : ellW want = splF want [46, 46, 46] := split_fast want [46, 46, 46]
  rw [e1] at hi
  rw [e2]
  rcases h2 with h2 | ⟨⟨h6, h7⟩, h8⟩
  · rw [hi] at h2; cases h2
  · exact ⟨⟨h6, h7⟩, h8, partsOk (by omega)⟩

noncomputable def prepC (c : Nat) : List Nat := if inB1 c then [] else mapB3 c
theorem prepL_flat : ∀ t : List Nat, (prepL t).flatten = t.flatMap prepC
  | [] => rfl
  | c :: t => by
    have ih := prepL_flat t
    unfold prepL at *
    rw [List.flatMap_cons, ← ih, List.filter_cons]
    unfold prepC
    cases inB1 c <;> simp
theorem prepN_flat (w : List Nat) (st : Nat) (p0 p1 p2 p3 mk : List Nat) (al : Nat) : prepN w st p0 p1 p2 p3 mk al = (typN w st p0 p1 p2 p3 mk al).flatMap prepC := by
  unfold prepN
  rw [joiT_nil, prepL_flat]
noncomputable def signG (c : Nat) : Prop := signOk c = true ∧ (prepC c).length ≤ 2
theorem prep_fin {t : List Nat} (ht : t.length < 290) (hg : ∀ c ∈ t, signG c) : joiOk [] (prepL t) = true := by
  refine joiOk_small (by simp) ?_ fun w hw => ?_
  · unfold prepL
    rw [List.length_map]
    exact Nat.le_trans (List.length_filter_le _ _) (by omega)
  · unfold prepL at hw
    obtain ⟨c, hc, rfl⟩ := List.mem_map.mp hw
    rw [List.mem_filter] at hc
    have h := (hg c hc.1).2
    have : inB1 c = false := by simpa using hc.2
    unfold prepC at h
    rw [this] at h
    simp only [Bool.false_eq_true, if_false] at h
    exact Nat.le_trans (by with_reducible assumption) (by decide)
noncomputable def lettersL : List Nat := [115, 116, 102, 105, 108]
noncomputable def markNs : List Nat := markL.map Int.toNat
noncomputable def alphaNs : List Nat := alphaL.map fun k => 119808 + 52 * k.toNat
noncomputable def ligs : List (Nat × List Nat) := [(223, [115, 115]), (64262, [115, 116]), (64256, [102, 102]), (64257, [102, 105]), (64258, [102, 108])]
noncomputable def chB (c : Nat) (r : List Nat) : Bool := signOk c && decide (prepC c = r) && decide (r.length ≤ 2)
theorem ch_of {c : Nat} {r : List Nat} (h : chB c r = true) : signG c ∧ prepC c = r := by
  unfold chB at h
  simp only [Bool.and_eq_true, decide_eq_true_eq] at h
  exact ⟨⟨h.1.1, by rw [h.1.2]; exact h.2⟩, h.1.2⟩
theorem ch_l : lettersL.all (fun c => chB c [c]) = true := by decide +kernel
theorem ch_u : lettersL.all (fun c => chB (65 + c - 97) [c]) = true := by decide +kernel
theorem ch_m : markNs.all (fun m => chB m []) = true := by decide +kernel
theorem ch_g : ligs.all (fun p => chB p.1 p.2) = true := by decide +kernel
theorem ch_a : alphaNs.all (fun a => lettersL.all fun c => chB (a + c - 97) [c]) = true := by decide +kernel
noncomputable def ligQ (c : Nat) : List Nat := (ligs.lookup c).getD [c]
theorem lig_of {c : Nat} (h : lettersL.contains c = true ∨ (ligs.map (·.1)).contains c = true) : signG c ∧ prepC c = ligQ c := by
  rcases h with h | h
  · have hm := List.contains_iff_mem.mp h
    have h1 := ch_of (List.all_eq_true.mp ch_l c hm)
    refine ⟨h1.1, h1.2.trans ?_⟩
    have : lettersL.all (fun c => ligQ c == [c]) = true := by decide
    exact (eq_of_beq (List.all_eq_true.mp this c hm)).symm
  · obtain ⟨p, hp, rfl⟩ := List.mem_map.mp (List.contains_iff_mem.mp h)
    have h1 := ch_of (List.all_eq_true.mp ch_g p hp)
    refine ⟨h1.1, h1.2.trans ?_⟩
    have : ligs.all (fun p => ligQ p.1 == p.2) = true := by decide
    exact (eq_of_beq (List.all_eq_true.mp this p hp)).symm
noncomputable def smallB (l : List (List Nat)) : Bool := decide (l.length ≤ 1000) && l.all fun w => decide (w.length ≤ 1000)
noncomputable def two2B (k : Nat) (w : List Nat) : Bool :=
  let l1 := splF w (pwK k 0 ++ pwK k 0)
  let j1 := joiF (pwK k 2) l1
  let l2 := splF j1 (pwK k 0 ++ pwK k 1)
  let t := joiF (pwK k 3) l2
  smallB l1 && decide (j1.length ≤ 1000) && smallB l2 && decide (t.length < 290) && t.all (fun c => lettersL.contains c || (ligs.map (·.1)).contains c) && decide (t.flatMap ligQ = w)
noncomputable def wordsK (k : Nat) : List (List Nat) := wl (pwK k 0) (pwK k 1) 7
noncomputable def pairB (k : Nat) : Bool := (wordsK k).all (fun w => decide (w.length ≤ 3) && w.all (fun c => lettersL.contains c) && two2B k w) && decide ((pwK k 0).length = 1) && decide ((pwK k 1).length = 1) && decide ((pwK k 2).length = 1) && decide ((pwK k 3).length = 1)
theorem pairB0 : pairB 0 = true := by decide +kernel
theorem pairB1 : pairB 1 = true := by decide +kernel
theorem pairB2 : pairB 2 = true := by decide +kernel
theorem pair_all {k : Nat} (hk : k < 3) : pairB k = true := by
  rcases (show k = 0 ∨ k = 1 ∨ k = 2 by omega) with rfl | rfl | rfl
  · exact pairB0
  · exact pairB1
  · exact pairB2
theorem joi_marks (m : Nat) (hm : prepC m = []) : ∀ w : List Nat, (joiF [m] (signs w)).flatMap prepC = w.flatMap prepC
  | [] => rfl
  | c :: w => by
    have go : ∀ w : List Nat, ((signs w).flatMap fun p => [m] ++ p).flatMap prepC = w.flatMap prepC := by
      intro w
      induction w with
      | nil => rfl
      | cons c w ih =>
        show (([m] ++ [c]) ++ (signs w).flatMap fun p => [m] ++ p).flatMap prepC = _
        rw [List.flatMap_append, ih]
        simp [hm]
    show ([c] ++ (signs w).flatMap fun p => [m] ++ p).flatMap prepC = _
    rw [List.flatMap_append, go]
    simp
theorem joi_marks_len (m : Nat) : ∀ w : List Nat, (joiF [m] (signs w)).length ≤ 2 * w.length
  | [] => Nat.le_refl _
  | c :: w => by
    have go : ∀ w : List Nat, ((signs w).flatMap fun p => [m] ++ p).length = 2 * w.length := by
      intro w
      induction w with
      | nil => rfl
      | cons c w ih =>
        show (([m] ++ [c]) ++ (signs w).flatMap fun p => [m] ++ p).length = _
        rw [List.length_append, ih]
        simp; omega
    show ([c] ++ (signs w).flatMap fun p => [m] ++ p).length ≤ _
    rw [List.length_append, go]
    simp; omega
theorem joi_marks_mem (m : Nat) : ∀ w : List Nat, ∀ c ∈ joiF [m] (signs w), c = m ∨ c ∈ w
  | [], c, h => by cases h
  | a :: w, c, h => by
    have h : c ∈ [a] ++ (signs w).flatMap fun p => [m] ++ p := h
    rcases List.mem_append.mp h with h | h
    · exact .inr (by rw [List.mem_singleton.mp h]; exact List.mem_cons_self ..)
    · obtain ⟨p, hp, hc⟩ := List.mem_flatMap.mp h
      obtain ⟨x, hx, rfl⟩ := List.mem_map.mp hp
      rcases List.mem_append.mp hc with h | h
      · exact .inl (List.mem_singleton.mp h)
      · rw [List.mem_singleton.mp h]
        exact .inr (List.mem_cons_of_mem _ hx)
theorem flat_self {w : List Nat} {f : Nat → List Nat} (h : ∀ c ∈ w, f c = [c]) : w.flatMap f = w := by
  induction w with
  | nil => rfl
  | cons c w ih =>
    rw [List.flatMap_cons, h c (List.mem_cons_self ..), ih fun x hx => h x (List.mem_cons_of_mem _ hx)]
    rfl

theorem prep_word {k st m al : Nat} {w : List Nat} (hk : k < 3) (hst : st < 4) (hw : w ∈ wordsK k) (hm : m ∈ markNs) (ha : al ∈ alphaNs) :
    PrepOk w st (pwK k 0) (pwK k 1) (pwK k 2) (pwK k 3) [m] al ∧ prepN w st (pwK k 0) (pwK k 1) (pwK k 2) (pwK k 3) [m] al = w := by
  have hp := pair_all hk
  unfold pairB at hp
  simp only [Bool.and_eq_true, decide_eq_true_eq] at hp
  obtain ⟨⟨⟨⟨hp, n0⟩, n1⟩, n2⟩, n3⟩ := hp
  have hww := List.all_eq_true.mp hp w hw
  simp only [Bool.and_eq_true, decide_eq_true_eq] at hww
  obtain ⟨⟨h3, hlet⟩, htwo⟩ := hww
  have hlet : ∀ c ∈ w, c ∈ lettersL := fun c hc => List.contains_iff_mem.mp (List.all_eq_true.mp hlet c hc)
  have hal : 60000 ≤ al ∧ al < 900000 := by
    have : alphaNs.all (fun a => decide (60000 ≤ a) && decide (a < 900000)) = true := by decide
    have := List.all_eq_true.mp this al ha
    simpa using this
  have h97 : ∀ c ∈ lettersL, 97 ≤ c ∧ c < 1000 := by decide
  have hmk := ch_of (List.all_eq_true.mp ch_m m hm)
  have hjl := joi_marks_len m w
  have key : ∀ t, typN w st (pwK k 0) (pwK k 1) (pwK k 2) (pwK k 3) [m] al = t → t.length < 290 → (∀ c ∈ t, signG c) → t.flatMap prepC = w →
      (st = 2 → smallB (splT w (pwK k 0 ++ pwK k 0)) = true ∧ (joiT (pwK k 2) (splT w (pwK k 0 ++ pwK k 0))).length ≤ 1000 ∧ smallB (splT (joiT (pwK k 2) (splT w (pwK k 0 ++ pwK k 0))) (pwK k 0 ++ pwK k 1)) = true) →
      PrepOk w st (pwK k 0) (pwK k 1) (pwK k 2) (pwK k 3) [m] al ∧ prepN w st (pwK k 0) (pwK k 1) (pwK k 2) (pwK k 3) [m] al = w := by
    intro t ht hl hg hf h2
    have sm : ∀ {x : List Nat} {l : List (List Nat)}, x.length = 1 → smallB l = true → joiOk x l = true := fun hx h => by
      unfold smallB at h
      simp only [Bool.and_eq_true, decide_eq_true_eq, List.all_eq_true] at h
      exact joiOk_small (Nat.le_trans (Nat.le_of_eq (by with_reducible assumption)) (by decide)) h.1 h.2
    have ne : ∀ {x y : List Nat}, x.length = 1 → x ++ y ≠ [] := fun hx h => by
      have := congrArg List.length h
      rw [List.length_append, List.length_nil] at this
      omega
    refine ⟨⟨by exact Nat.lt_of_le_of_lt (by with_reducible assumption) (by decide), hst, fun h => ?_, fun h => ?_, fun h c hc => ?_, ?_, ?_, ?_⟩, ?_⟩
    · obtain ⟨a1, a2, a3⟩ := h2 h
      exact ⟨by omega, by rw [(by with_reducible assumption : List.length _ = _)]; decide, splOk_of (ne n0) (Nat.le_trans (by with_reducible assumption) (by decide)), sm n2 a1, splOk_of (ne n0) (Nat.le_trans (by with_reducible assumption) (by decide)), sm n3 a3⟩
    · refine ⟨joiOk_small (by simp) (by simp [signs]; exact Nat.le_trans (by with_reducible assumption) (by decide)) (fun x hx => ?_), ?_⟩
      · obtain ⟨c, _, rfl⟩ := List.mem_map.mp hx
        simp
      · rw [join_fast, List.length_singleton]; omega
    · have := h97 c (hlet c hc)
      exact ⟨this.1, this.2, .inr hal⟩
    · rw [ht]; exact fun c hc => (hg c hc).1
    · rw [ht]; exact hl
    · rw [ht]; exact prep_fin hl hg
    · rw [prepN_flat, ht, hf]
  have hself : ∀ f : Nat → List Nat, (∀ c ∈ lettersL, f c = [c]) → w.flatMap f = w := fun f hf => flat_self fun c hc => hf c (hlet c hc)
  rcases (show st = 0 ∨ st = 1 ∨ st = 2 ∨ st = 3 by omega) with rfl | rfl | rfl | rfl
  · refine key (joiT [m] (signs w) ++ [m]) rfl ?_ ?_ ?_ (fun h => by cases h)
    · rw [join_fast]; simp; omega
    · intro c hc
      rw [join_fast] at hc
      rcases List.mem_append.mp hc with h | h
      · rcases joi_marks_mem m w c h with rfl | h
        · exact hmk.1
        · exact (ch_of (List.all_eq_true.mp ch_l c (hlet c h))).1
      · rw [List.mem_singleton.mp h]; exact hmk.1
    · rw [join_fast, List.flatMap_append, joi_marks m hmk.2, hself prepC fun c hc => (ch_of (List.all_eq_true.mp ch_l c hc)).2]
      simp [hmk.2]
  · refine key (w.map fun c => 65 + c - 97) rfl (by simp; exact Nat.lt_of_le_of_lt (by with_reducible assumption) (by decide)) ?_ ?_ (fun h => by cases h)
    · intro c hc
      obtain ⟨x, hx, rfl⟩ := List.mem_map.mp hc
      exact (ch_of (List.all_eq_true.mp ch_u x (hlet x hx))).1
    · rw [List.flatMap_map]
      exact hself _ fun c hc => (ch_of (List.all_eq_true.mp ch_u c hc)).2
  · unfold two2B at htwo
    simp only [Bool.and_eq_true, decide_eq_true_eq] at htwo
    obtain ⟨⟨⟨⟨⟨b1, b2⟩, b3⟩, b4⟩, b5⟩, b6⟩ := htwo
    have hch : ∀ c ∈ joiF (pwK k 3) (splF (joiF (pwK k 2) (splF w (pwK k 0 ++ pwK k 0))) (pwK k 0 ++ pwK k 1)), signG c ∧ prepC c = ligQ c := fun c hc => by
      have := List.all_eq_true.mp b5 c hc
      rw [Bool.or_eq_true] at this
      exact lig_of this
    refine key (joiF (pwK k 3) (splF (joiF (pwK k 2) (splF w (pwK k 0 ++ pwK k 0))) (pwK k 0 ++ pwK k 1))) ?_ b4 (fun c hc => (hch c hc).1) ?_ (fun _ => ?_)
    · show typ2 _ _ _ _ _ = _
      unfold typ2
      rw [splT_fast, join_fast, splT_fast, join_fast]
    · rw [← b6]
      rw [b6]
      conv => rhs; rw [← b6]
      have go : ∀ t : List Nat, (∀ c ∈ t, prepC c = ligQ c) → t.flatMap prepC = t.flatMap ligQ := by
        intro t
        induction t with
        | nil => intro _; rfl
        | cons c t ih => intro h; rw [List.flatMap_cons, List.flatMap_cons, h c (List.mem_cons_self ..), ih fun x hx => h x (List.mem_cons_of_mem _ hx)]
      exact go _ fun c hc => (hch c hc).2
    · rw [splT_fast, join_fast, splT_fast]
      exact ⟨b1, b2, b3⟩
  · refine key (w.map fun c => al + c - 97) rfl (by simp; exact Nat.lt_of_le_of_lt (by with_reducible assumption) (by decide)) ?_ ?_ (fun h => by cases h)
    · intro c hc
      obtain ⟨x, hx, rfl⟩ := List.mem_map.mp hc
      exact (ch_of (List.all_eq_true.mp (List.all_eq_true.mp ch_a al ha) x (hlet x hx))).1
    · rw [List.flatMap_map]
      exact hself _ fun c hc => (ch_of (List.all_eq_true.mp (List.all_eq_true.mp ch_a al ha) c hc)).2
theorem mark_in (c4 : Nat) : ∃ m ∈ markNs, markN c4 = [m] := by
  have h : c4 / 3 % 27 < markL.length := Nat.mod_lt _ (by decide)
  refine ⟨(markL.getD (c4 / 3 % 27) 0).toNat, ?_, rfl⟩
  rw [getD_lt h]
  exact List.mem_map_of_mem (List.getElem_mem h)
theorem alpha_in (c4 : Nat) : alphaN c4 ∈ alphaNs := by
  have h : c4 / 81 % 10 < alphaL.length := Nat.mod_lt _ (by decide)
  unfold alphaN alphaNs
  rw [getD_lt h]
  exact List.mem_map.mpr ⟨_, List.getElem_mem h, rfl⟩
theorem prep_all (c4 c5 : Nat) (w : List Nat) (hw : w ∈ wordsN c4) : PrepOk w ((c5 + w.length) % 4) (pwN c4 0) (pwN c4 1) (pwN c4 2) (pwN c4 3) (markN c4) (alphaN c4) ∧ prepN w ((c5 + w.length) % 4) (pwN c4 0) (pwN c4 1) (pwN c4 2) (pwN c4 3) (markN c4) (alphaN c4) = w := by
  obtain ⟨m, hm, e⟩ := mark_in c4
  rw [e]
  exact prep_word (k := c4 % 3) (Nat.mod_lt _ (by decide)) (Nat.mod_lt _ (by decide)) hw hm (alpha_in c4)

theorem runK_bind {α β : Type} {f : Nat → Nat → Option Bool} (g : α → KasT β) : ∀ t : KasT α, runK f (t.bind g) = (runK f t).bind fun a => runK f (g a)
  | .ret a => rfl
  | .ask i j k => by
    show (f i j).bind (fun c => runK f ((k c).bind g)) = ((f i j).bind fun c => runK f (k c)).bind fun a => runK f (g a)
    cases f i j with
    | none => rfl
    | some c => exact runK_bind g (k c)
section
variable {f : Nat → Nat → Option Bool} {K : Nat → Int} {N : Nat}
noncomputable def kp (K : Nat → Int) (p : Array Nat) (i : Nat) : Int := K (p.getD i 0)
noncomputable def AOk (N : Nat) (p : Array Nat) : Prop := p.Perm (List.range N).toArray
theorem AOk.size {p : Array Nat} (h : AOk N p) : p.size = N := by
  have := (Array.perm_iff_toList_perm.mp h).length_eq
  simpa using this
theorem AOk.at {p : Array Nat} (h : AOk N p) {i : Nat} (hi : i < N) : ∃ hl : i < p.toList.length, p.getD i 0 = p.toList[i] := by
  have hs := h.size
  refine ⟨by rw [Array.length_toList]; exact Nat.lt_of_lt_of_le (by with_reducible assumption) (Nat.le_of_eq (Eq.symm (by with_reducible assumption))), ?_⟩
  rw [Array.getD_eq_getD_getElem?, Array.getElem?_eq_getElem (Nat.lt_of_lt_of_le (by with_reducible assumption) (Nat.le_of_eq (Eq.symm (by with_reducible assumption))))]
  simp
theorem AOk.lt {p : Array Nat} (h : AOk N p) {i : Nat} (hi : i < N) : p.getD i 0 < N := by
  obtain ⟨hl, e⟩ := h.at hi
  rw [e]
  have hm := (Array.perm_iff_toList_perm.mp h).mem_iff.mp (List.getElem_mem hl)
  simpa using hm
theorem AOk.ne {p : Array Nat} (h : AOk N p) {i j : Nat} (hi : i < N) (hj : j < N) (hij : i ≠ j) : p.getD i 0 ≠ p.getD j 0 := by
  obtain ⟨hl, e⟩ := h.at hi
  obtain ⟨hl', e'⟩ := h.at hj
  rw [e, e']
  have hn : p.toList.Nodup := (Array.perm_iff_toList_perm.mp h).nodup_iff.mpr (by simpa using List.nodup_range)
  intro he
  exact hij ((List.getElem_inj hn).mp he)
structure KOk (f : Nat → Nat → Option Bool) (K : Nat → Int) (N : Nat) : Prop where
  ask : ∀ i j, i < N → j < N → f i j = some (decide (K i < K j))
  inj : ∀ i j, i < N → j < N → K i = K j → i = j
theorem KOk.run {α : Type} (H : KOk f K N) {p : Array Nat} (h : AOk N p) {a b : Nat} (ha : a < N) (hb : b < N) (k : Bool → KasT α) : runK f (.ask (p.getD a 0) (p.getD b 0) k) = runK f (k (decide (kp K p a < kp K p b))) := by
  show (f _ _).bind (fun c => runK f (k c)) = _
  rw [H.ask _ _ (h.lt ha) (h.lt hb)]
  rfl
theorem KOk.ne (H : KOk f K N) {p : Array Nat} (h : AOk N p) {a b : Nat} (ha : a < N) (hb : b < N) (hab : a ≠ b) : kp K p a ≠ kp K p b := fun e => h.ne ha hb hab (H.inj _ _ (h.lt ha) (h.lt hb) e)
theorem asc_spec (H : KOk f K N) {p : Array Nat} (h : AOk N p) : ∀ (fu n : Nat), 1 ≤ n → n + fu ≤ N → ∃ m, runK f (kas_asc p fu n) = some m ∧ n ≤ m ∧ m ≤ n + fu ∧ (∀ i, n ≤ i → i < m → kp K p (i - 1) ≤ kp K p i) ∧ (m < n + fu → kp K p m < kp K p (m - 1))
  | 0, n, _, _ => ⟨n, rfl, Nat.le_refl _, Nat.le_refl _, fun i h1 h2 => by omega, fun h => by omega⟩
  | fu + 1, n, h1, h2 => by
    unfold kas_asc
    rw [H.run h (by omega) (by omega)]
    by_cases hc : kp K p n < kp K p (n - 1)
    · rw [decide_eq_true hc]
      exact ⟨n, rfl, Nat.le_refl _, by exact Nat.le_add_right _ _, fun i h1 h2 => by omega, fun _ => hc⟩
    · rw [decide_eq_false hc]
      obtain ⟨m, e, a1, a2, a3, a4⟩ := asc_spec H h fu (n + 1) (Nat.le_add_left _ _) (by omega)
      refine ⟨m, e, by omega, by omega, fun i b1 b2 => ?_, fun hm => a4 (by omega)⟩
      by_cases hi : i = n
      · subst hi; omega
      · exact a3 i (by omega) b2
theorem desc_spec (H : KOk f K N) {p : Array Nat} (h : AOk N p) : ∀ (fu n : Nat), 1 ≤ n → n + fu ≤ N → ∃ m, runK f (kas_desc fu p n 0) = some (p, m, 0) ∧ n ≤ m ∧ m ≤ n + fu ∧ (∀ i, n ≤ i → i < m → kp K p i < kp K p (i - 1))
  | 0, n, _, _ => ⟨n, rfl, Nat.le_refl _, Nat.le_refl _, fun i h1 h2 => by omega⟩
  | fu + 1, n, h1, h2 => by
    unfold kas_desc
    rw [H.run h (by omega) (by omega)]
    by_cases hc : kp K p n < kp K p (n - 1)
    · rw [decide_eq_true hc]
      obtain ⟨m, e, a1, a2, a3⟩ := desc_spec H h fu (n + 1) (Nat.le_add_left _ _) (by omega)
      refine ⟨m, e, by omega, by omega, fun i b1 b2 => ?_⟩
      by_cases hi : i = n
      · subst hi; exact hc
      · exact a3 i (by omega) b2
    · rw [decide_eq_false hc]
      have hne := H.ne h (a := n) (b := n - 1) (by omega) (by omega) (by omega)
      have hd : kp K p (n - 1) < kp K p n := by omega
      simp only [Bool.false_eq_true, if_false]
      rw [H.run h (by omega) (by omega), decide_eq_true hd]
      exact ⟨n, rfl, Nat.le_refl _, by exact Nat.le_add_right _ _, fun i h1 h2 => by omega⟩
noncomputable def Adj (K : Nat → Int) (p : Array Nat) (m : Nat) : Prop := ∀ i, 1 ≤ i → i < m → kp K p (i - 1) ≤ kp K p i
theorem kp_of {p q : Array Nat} {i j : Nat} (e : p[i]? = q[j]?) : kp K p i = kp K q j := by
  unfold kp
  rw [Array.getD_eq_getD_getElem?, Array.getD_eq_getD_getElem?, e]
theorem rev_adj {p : Array Nat} {m : Nat} (hm : m ≤ p.size) (hd : ∀ i, 1 ≤ i → i < m → kp K p i < kp K p (i - 1)) : Adj K (kas_rev p 0 m) m := by
  have hget : ∀ i, (kas_rev p 0 m)[i]? = if 0 ≤ i ∧ i < m then p[0 + m - 1 - i]? else p[i]? := fun i => getElem?_mirror_all hm i
  have e : ∀ j, j < m → kp K (kas_rev p 0 m) j = kp K p (m - 1 - j) := fun j hj => kp_of (by rw [hget, if_pos ⟨Nat.zero_le _, hj⟩, Nat.zero_add])
  intro i i1 i2
  have i0 : i - 1 < i := Nat.sub_one_lt (Nat.ne_of_gt i1)
  rw [e _ (Nat.lt_trans i0 i2), e _ i2, Nat.sub_sub, Nat.add_sub_of_le i1, Nat.sub_sub, Nat.add_comm 1 i, ← Nat.sub_sub]
  exact Int.le_of_lt (hd (m - i) (Nat.sub_pos_of_lt i2) (Nat.sub_lt (Nat.lt_of_lt_of_le i1 (Nat.le_of_lt i2)) i1))
theorem up_first {p : Array Nat} {n : Nat} (h : Adj K p n) : ∀ i, i < n → kp K p 0 ≤ kp K p i
  | 0, _ => Int.le_refl _
  | i + 1, hi => Int.le_trans (up_first h i (Nat.lt_of_succ_lt hi)) (h (i + 1) (Nat.le_add_left _ _) hi)
theorem count_down (H : KOk f K N) {p : Array Nat} (h : AOk N p) (hN : 2 ≤ N) (h10 : kp K p 1 < kp K p 0) : ∃ m p', runK f (kas_descPart 1 N p) = some (m, p') ∧ AOk N p' ∧ 1 ≤ m ∧ m ≤ N ∧ Adj K p' m := by
  obtain ⟨m, e2, b1, b2, b3⟩ := desc_spec H h (N - (1 + 1)) (1 + 1) (Nat.le_add_right _ _) (Nat.le_of_eq (Nat.add_sub_of_le hN))
  have hmN : m ≤ N := Nat.le_trans b2 (Nat.le_of_eq (Nat.add_sub_of_le hN))
  have hm1 : 1 ≤ m := Nat.le_trans (by decide) b1
  have hrev : AOk N (kas_rev p 0 m) := (mirror_perm _ _ _ _).trans h
  have hadj : Adj K (kas_rev p 0 m) m := rev_adj (h.size.symm ▸ hmN) fun i i1 i2 => by
    rcases Nat.eq_or_lt_of_le i1 with c | c
    · subst c; exact h10
    · exact b3 i c i2
  obtain ⟨m', e3, c1, c2, c3, _⟩ := asc_spec H hrev (N - m) m hm1 (Nat.le_of_eq (Nat.add_sub_of_le hmN))
  unfold kas_descPart
  rw [runK_bind, e2, Option.bind_some]
  dsimp only
  rw [if_neg (Nat.not_lt.mpr (Nat.zero_le _))]
  unfold kas_tail3
  rw [runK_bind, e3, Option.bind_some]
  refine ⟨m', _, rfl, hrev, Nat.le_trans hm1 c1, Nat.le_trans c2 (Nat.le_of_eq (Nat.add_sub_of_le hmN)), fun i i1 i2 => ?_⟩
  rcases Nat.lt_or_ge i m with c | c
  · exact hadj i i1 c
  · exact c3 i c i2
theorem count_spec (H : KOk f K N) {p : Array Nat} (h : AOk N p) (hN : 2 ≤ N) : ∃ m p', runK f (kas_count N p) = some (m, p') ∧ AOk N p' ∧ 1 ≤ m ∧ m ≤ N ∧ Adj K p' m := by
  have e1 : 1 + (N - 1) = N := Nat.add_sub_of_le (Nat.le_of_succ_le hN)
  obtain ⟨n, e, a1, a2, a3, a4⟩ := asc_spec H h (N - 1) 1 (Nat.le_refl _) (Nat.le_of_eq e1)
  rw [e1] at a2 a4
  unfold kas_count
  rw [runK_bind, e, Option.bind_some]
  by_cases hn : n = N
  · rw [if_pos (by simp [hn])]
    exact ⟨n, p, rfl, h, a1, a2, a3⟩
  · rw [if_neg (by simp [hn])]
    have hnN := Nat.lt_of_le_of_ne a2 hn
    by_cases h1 : n > 1
    · rw [if_pos h1]
      have hn0 : n - 1 < n := Nat.sub_one_lt (Nat.ne_of_gt a1)
      have hlt : kp K p 0 < kp K p (n - 1) := Int.lt_iff_le_and_ne.mpr ⟨up_first a3 _ hn0, H.ne h (Nat.lt_of_lt_of_le (by decide) hN) (Nat.lt_trans hn0 hnN) (Nat.ne_of_lt (Nat.sub_pos_of_lt h1))⟩
      rw [H.run h (Nat.lt_of_lt_of_le (by decide) hN) (Nat.lt_trans hn0 hnN), decide_eq_true hlt]
      exact ⟨n, p, rfl, h, a1, a2, a3⟩
    · rw [if_neg h1]
      have hn1 : n = 1 := Nat.le_antisymm (Nat.not_lt.mp h1) a1
      subst hn1
      exact count_down H h hN (a4 hnN)
theorem adj_mono {p : Array Nat} {m : Nat} (h : Adj K p m) {i : Nat} : ∀ j, i ≤ j → j < m → kp K p i ≤ kp K p j
  | 0, h1, _ => by
    have : i = 0 := by omega
    subst this; exact Int.le_refl _
  | j + 1, h1, h2 => by
    by_cases hi : i = j + 1
    · subst hi; exact Int.le_refl _
    · have a := adj_mono (m := m) (i := i) h j (by omega) (Nat.le_of_lt (by with_reducible assumption))
      have b := h (j + 1) (Nat.le_add_left _ _) h2
      simp at b; omega
theorem place_spec (H : KOk f K N) {p : Array Nat} (h : AOk N p) {k : Nat} (hk : k < N) (ha : Adj K p k) : ∀ (fu l r : Nat), l ≤ r → r ≤ k → r - l ≤ fu → (∀ i, i < l → kp K p i ≤ kp K p k) → (∀ i, r ≤ i → i < k → kp K p k < kp K p i) →
    ∃ l', runK f (kas_place p k fu l r) = some l' ∧ l' ≤ k ∧ (∀ i, i < l' → kp K p i ≤ kp K p k) ∧ (∀ i, l' ≤ i → i < k → kp K p k < kp K p i)
  | 0, l, r, h1, h2, h3, h4, h5 => ⟨l, rfl, by exact Nat.le_trans (by with_reducible assumption) (by with_reducible assumption), h4, fun i hi => h5 i (Nat.le_trans (Nat.le_of_sub_eq_zero (Nat.le_zero.mp h3)) hi)⟩
  | fu + 1, l, r, h1, h2, h3, h4, h5 => by
    unfold kas_place
    by_cases hlr : l ≥ r
    · rw [if_pos hlr]
      exact ⟨l, rfl, by exact Nat.le_trans (by with_reducible assumption) (by with_reducible assumption), h4, fun i hi => h5 i (Nat.le_trans (by with_reducible assumption) (by with_reducible assumption))⟩
    · have hlt := Nat.not_le.mp hlr
      have hmk := Nat.lt_of_lt_of_le (ltH hlt) h2
      rw [if_neg hlr, H.run h hk (Nat.lt_trans hmk hk)]
      by_cases hc : kp K p k < kp K p ((l + r) / 2)
      · rw [decide_eq_true hc, if_pos rfl]
        exact place_spec H h hk ha fu l ((l + r) / 2) (geH hlt) (Nat.le_of_lt hmk) (Nat.le_of_lt_succ (halfD (Nat.lt_succ_of_le h3) hlt)) h4 fun i i1 i2 => Int.lt_of_lt_of_le hc (adj_mono ha i i1 i2)
      · rw [decide_eq_false hc, if_neg (by decide)]
        exact place_spec H h hk ha fu ((l + r) / 2 + 1) r (ltH hlt) h2 (Nat.le_of_lt_succ (halfU (Nat.lt_succ_of_le h3) hlt)) (fun i hi => Int.le_trans (adj_mono ha ((l + r) / 2) (Nat.le_of_lt_succ hi) hmk) (Int.not_lt.mp hc)) h5
structure Bub (K : Nat → Int) (p q : Array Nat) (k l : Nat) : Prop where
  lo : ∀ i, i < l → kp K q i = kp K p i
  at' : kp K q l = kp K p k
  hi : ∀ i, l < i → i ≤ k → kp K q i = kp K p (i - 1)
theorem bub {p : Array Nat} {k l : Nat} (h : AOk N p) (hk : k < N) (hl : l ≤ k) : Bub K p (bubble p k (k - l)) k l := by
  have e : k - (k - l) = l := Nat.sub_sub_self hl
  have hget : ∀ i, (bubble p k (k - l))[i]? = if i = k - (k - l) then p[k]? else if k - (k - l) < i ∧ i ≤ k then p[i - 1]? else p[i]? := fun i => getElem?_bubble (by rw [h.size]; exact hk) (k - l) (Nat.sub_le _ _) i
  rw [e] at hget
  exact ⟨fun i hi => kp_of (by rw [hget, if_neg (Nat.ne_of_lt hi), if_neg fun c => Nat.lt_asymm hi c.1]), kp_of (by rw [hget, if_pos rfl]), fun i h1 h2 => kp_of (by rw [hget, if_neg (Nat.ne_of_gt h1), if_pos ⟨h1, h2⟩])⟩
theorem bub_adj {p q : Array Nat} {k l : Nat} (B : Bub K p q k l) (hl : l ≤ k) (ha : Adj K p k) (a2 : ∀ i, i < l → kp K p i ≤ kp K p k) (a3 : ∀ i, l ≤ i → i < k → kp K p k < kp K p i) : Adj K q (k + 1) := by
  intro i i1 i2
  have i2 := Nat.le_of_lt_succ i2
  have i0 : i - 1 < i := Nat.sub_one_lt (Nat.ne_of_gt i1)
  rcases Nat.lt_trichotomy i l with c | c | c
  · rw [B.lo _ (Nat.lt_trans i0 c), B.lo _ c]
    exact ha i i1 (Nat.lt_of_lt_of_le c hl)
  · subst c
    rw [B.lo _ i0, B.at']
    exact a2 _ i0
  · have il : l ≤ i - 1 := Nat.le_sub_one_of_lt c
    rw [B.hi i c i2]
    rcases Nat.eq_or_lt_of_le il with c2 | c2
    · rw [← c2, B.at']
      exact Int.le_of_lt (a3 l (Nat.le_refl l) (Nat.lt_of_lt_of_le c i2))
    · rw [B.hi _ c2 (Nat.le_trans (Nat.le_of_lt i0) i2)]
      exact ha (i - 1) (Nat.lt_of_le_of_lt (Nat.zero_le l) c2) (Nat.lt_of_lt_of_le i0 i2)
theorem bin_spec (H : KOk f K N) : ∀ (fu : Nat) (p : Array Nat) (k : Nat), k + fu = N → AOk N p → Adj K p k → ∃ p', runK f (kas_bin fu p k) = some p' ∧ AOk N p' ∧ Adj K p' N
  | 0, p, k, hk, h, ha => ⟨p, rfl, h, hk ▸ ha⟩
  | fu + 1, p, k, hk, h, ha => by
    have hkN : k < N := hk ▸ Nat.lt_add_of_pos_right (Nat.succ_pos fu)
    obtain ⟨l, e, a1, a2, a3⟩ := place_spec H h hkN ha k 0 k (Nat.zero_le _) (Nat.le_refl _) (Nat.le_refl _) (fun i hi => absurd hi (Nat.not_lt_zero i)) (fun i h1 h2 => absurd h2 (Nat.not_lt.mpr h1))
    unfold kas_bin
    rw [runK_bind, e, Option.bind_some]
    exact bin_spec H fu _ (k + 1) (by rw [← hk, Nat.add_assoc, Nat.add_comm 1 fu]) ((bubble_perm _ _ _).trans h) (bub_adj (bub h hkN a1) a1 ha a2 a3)
theorem sort_spec (H : KOk f K N) (hN : 2 ≤ N) : ∃ p, runK f (kas_sort N) = some p ∧ AOk N p ∧ Adj K p N := by
  unfold kas_sort
  obtain ⟨m, p', e, h1, h2, h3, h4⟩ := count_spec H (p := (List.range N).toArray) (Array.Perm.refl _) hN
  rw [runK_bind, e, Option.bind_some]
  by_cases hm : m < N
  · rw [if_pos hm]
    have hmx : max m 1 = m := by omega
    dsimp only
    rw [hmx]
    exact bin_spec H (N - m) p' m (by omega) h1 h4
  · rw [if_neg hm]
    exact ⟨p', rfl, h1, by rw [show N = m by omega]; exact h4⟩
end

noncomputable def Up (ks : List Int) : Prop := ∀ i j, i ≤ j → j < ks.length → ks.getD i 0 ≤ ks.getD j 0
theorem up_of {ks : List Int} (h : ks.Pairwise (· ≤ ·)) : Up ks := fun i j hij hj => by
  by_cases e : i = j
  · subst e; exact Int.le_refl _
  · have := List.pairwise_iff_getElem.mp h i j (Nat.lt_of_le_of_lt (by with_reducible assumption) (by with_reducible assumption)) hj (by omega)
    rw [getD_lt (Nat.lt_of_le_of_lt (by with_reducible assumption) (by with_reducible assumption)), getD_lt hj]; exact this
theorem bl_spec {ks : List Int} (h : Up ks) (x : Int) : ∀ (n lo hi : Nat), lo ≤ hi → hi ≤ ks.length → hi - lo ≤ n → (∀ i, i < lo → ks.getD i 0 < x) → (∀ i, hi ≤ i → i < ks.length → x ≤ ks.getD i 0) →
    blR ks x n lo hi ≤ hi ∧ (∀ i, i < blR ks x n lo hi → ks.getD i 0 < x) ∧ (∀ i, blR ks x n lo hi ≤ i → i < ks.length → x ≤ ks.getD i 0)
  | 0, lo, hi, h1, h2, h3, h4, h5 => ⟨h1, h4, fun i hi => h5 i (Nat.le_trans (Nat.le_of_sub_eq_zero (Nat.le_zero.mp h3)) hi)⟩
  | n + 1, lo, hi, h1, h2, h3, h4, h5 => by
    unfold blR
    by_cases hlt : lo < hi
    · rw [if_pos hlt]
      by_cases hc : ks.getD ((lo + hi) / 2) 0 < x
      · rw [if_pos hc]
        exact bl_spec h x n _ _ (ltH hlt) h2 (Nat.le_of_lt_succ (halfU (Nat.lt_succ_of_le h3) hlt)) (fun i hi' => Int.lt_of_le_of_lt (h i ((lo + hi) / 2) (Nat.le_of_lt_succ hi') (Nat.lt_of_lt_of_le (ltH hlt) h2)) hc) h5
      · rw [if_neg hc]
        have q := bl_spec h x n lo ((lo + hi) / 2) (geH hlt) (Nat.le_trans (Nat.le_of_lt (ltH hlt)) h2) (Nat.le_of_lt_succ (halfD (Nat.lt_succ_of_le h3) hlt)) h4 (fun i i1 i2 => Int.le_trans (Int.not_lt.mp hc) (h ((lo + hi) / 2) i i1 i2))
        exact ⟨Nat.le_trans q.1 (Nat.le_of_lt (ltH hlt)), q.2⟩
    · rw [if_neg hlt]
      exact ⟨h1, h4, fun i hi => h5 i (Nat.le_trans (Nat.not_lt.mp hlt) hi)⟩
theorem br_spec {ks : List Int} (h : Up ks) (x : Int) : ∀ (n lo hi : Nat), lo ≤ hi → hi ≤ ks.length → hi - lo ≤ n → (∀ i, i < lo → ks.getD i 0 ≤ x) → (∀ i, hi ≤ i → i < ks.length → x < ks.getD i 0) →
    brR ks x n lo hi ≤ hi ∧ (∀ i, i < brR ks x n lo hi → ks.getD i 0 ≤ x) ∧ (∀ i, brR ks x n lo hi ≤ i → i < ks.length → x < ks.getD i 0)
  | 0, lo, hi, h1, h2, h3, h4, h5 => ⟨h1, h4, fun i hi => h5 i (Nat.le_trans (Nat.le_of_sub_eq_zero (Nat.le_zero.mp h3)) hi)⟩
  | n + 1, lo, hi, h1, h2, h3, h4, h5 => by
    unfold brR
    by_cases hlt : lo < hi
    · rw [if_pos hlt]
      by_cases hc : x < ks.getD ((lo + hi) / 2) 0
      · rw [if_pos hc]
        have q := br_spec h x n lo ((lo + hi) / 2) (geH hlt) (Nat.le_trans (Nat.le_of_lt (ltH hlt)) h2) (Nat.le_of_lt_succ (halfD (Nat.lt_succ_of_le h3) hlt)) h4 (fun i i1 i2 => Int.lt_of_lt_of_le hc (h ((lo + hi) / 2) i i1 i2))
        exact ⟨Nat.le_trans q.1 (Nat.le_of_lt (ltH hlt)), q.2⟩
      · rw [if_neg hc]
        exact br_spec h x n _ _ (ltH hlt) h2 (Nat.le_of_lt_succ (halfU (Nat.lt_succ_of_le h3) hlt)) (fun i hi' => Int.le_trans (h i ((lo + hi) / 2) (Nat.le_of_lt_succ hi') (Nat.lt_of_lt_of_le (ltH hlt) h2)) (Int.not_lt.mp hc)) h5
    · rw [if_neg hlt]
      exact ⟨h1, h4, fun i hi => h5 i (Nat.le_trans (Nat.not_lt.mp hlt) hi)⟩
theorem bl_at {ks : List Int} (h : ks.Pairwise (· ≤ ·)) (x : Int) : blR ks x ks.length 0 ks.length ≤ ks.length ∧ (∀ i, i < blR ks x ks.length 0 ks.length → ks.getD i 0 < x) ∧ (∀ i, blR ks x ks.length 0 ks.length ≤ i → i < ks.length → x ≤ ks.getD i 0) :=
  bl_spec (up_of h) x _ _ _ (Nat.le_add_left _ _) (by omega) (by omega) (fun i hi => by omega) (fun i h1 h2 => by omega)
theorem br_at {ks : List Int} (h : ks.Pairwise (· ≤ ·)) (x : Int) : brR ks x ks.length 0 ks.length ≤ ks.length ∧ (∀ i, i < brR ks x ks.length 0 ks.length → ks.getD i 0 ≤ x) ∧ (∀ i, brR ks x ks.length 0 ks.length ≤ i → i < ks.length → x < ks.getD i 0) :=
  br_spec (up_of h) x _ _ _ (Nat.le_add_left _ _) (by omega) (by omega) (fun i hi => by omega) (fun i h1 h2 => by omega)

theorem mem_take_at {α : Type} {l : List α} {n : Nat} {a : α} (h : a ∈ l.take n) : ∃ i, ∃ hi : i < l.length, i < n ∧ l[i] = a := by
  obtain ⟨i, hi, e⟩ := List.mem_iff_getElem.mp h
  rw [List.length_take] at hi
  rw [List.getElem_take] at e
  exact ⟨i, by omega, by omega, e⟩
theorem mem_drop_at {α : Type} {l : List α} {n : Nat} {a : α} (h : a ∈ l.drop n) : ∃ i, ∃ hi : i < l.length, n ≤ i ∧ l[i] = a := by
  obtain ⟨i, hi, e⟩ := List.mem_iff_getElem.mp h
  rw [List.length_drop] at hi
  rw [List.getElem_drop] at e
  exact ⟨n + i, by omega, by exact Nat.le_add_right _ _, e⟩
theorem ins_pairwise {α : Type} {R : α → α → Prop} {l : List α} {n : Nat} {x : α} (h : l.Pairwise R) (h1 : ∀ a ∈ l.take n, R a x) (h2 : ∀ a ∈ l.drop n, R x a) : (l.take n ++ x :: l.drop n).Pairwise R := by
  have h' : (l.take n ++ l.drop n).Pairwise R := by rw [List.take_append_drop]; exact h
  obtain ⟨a, b, c⟩ := List.pairwise_append.mp h'
  refine List.pairwise_append.mpr ⟨a, List.pairwise_cons.mpr ⟨h2, b⟩, fun y hy z hz => ?_⟩
  rcases List.mem_cons.mp hz with rfl | hz
  · exact h1 y hy
  · exact c y hy z hz
theorem ins_mem {α : Type} {l : List α} {n : Nat} {x a : α} : a ∈ l.take n ++ x :: l.drop n ↔ a ∈ l ∨ a = x := by
  rw [List.mem_append, List.mem_cons]
  conv => rhs; rw [← List.take_append_drop n l, List.mem_append]
  constructor
  · rintro (h | h | h)
    · exact .inl (.inl h)
    · exact .inr h
    · exact .inl (.inr h)
  · rintro ((h | h) | h)
    · exact .inl h
    · exact .inr (.inr h)
    · exact .inr (.inl h)
theorem strict_ext {α : Type} {k : α → Int} : ∀ {l l' : List α}, l.Pairwise (fun a b => k a < k b) → l'.Pairwise (fun a b => k a < k b) → (∀ a, a ∈ l ↔ a ∈ l') → l = l'
  | [], [], _, _, _ => rfl
  | [], b :: l', _, _, h => by cases (h b).mpr (List.mem_cons_self ..)
  | a :: l, [], _, _, h => by cases (h a).mp (List.mem_cons_self ..)
  | a :: l, b :: l', h1, h2, h => by
    obtain ⟨a1, a2⟩ := List.pairwise_cons.mp h1
    obtain ⟨b1, b2⟩ := List.pairwise_cons.mp h2
    have hab : a = b := by
      rcases List.mem_cons.mp ((h a).mp (List.mem_cons_self ..)) with e | e
      · exact e
      · rcases List.mem_cons.mp ((h b).mpr (List.mem_cons_self ..)) with e' | e'
        · exact e'.symm
        · have := a1 b e'; have := b1 a e; omega
    subst hab
    congr 1
    refine strict_ext a2 b2 fun x => ?_
    constructor
    · intro hx
      rcases List.mem_cons.mp ((h x).mp (List.mem_cons_of_mem _ hx)) with e | e
      · subst e; have := a1 x hx; omega
      · exact e
    · intro hx
      rcases List.mem_cons.mp ((h x).mpr (List.mem_cons_of_mem _ hx)) with e | e
      · subst e; have := b1 x hx; omega
      · exact e
noncomputable def kk (p : Nat × Int) : Int := p.1 * 1000 + p.2
theorem kk_aux {x y : Nat} {s t : Int} (hs : s < t + 1000) (h : x < y) : (x : Int) * 1000 + s < y * 1000 + t := by omega
theorem kk_lt {a b : Nat × Int} (ha : a.2.natAbs < 100) (hb : b.2.natAbs < 100) : kk a < kk b ↔ a.1 < b.1 ∨ (a.1 = b.1 ∧ a.2 < b.2) := by
  have b1 : a.2 < b.2 + 1000 := by omega
  have b2 : b.2 < a.2 + 1000 := by omega
  unfold kk
  rcases Nat.lt_trichotomy a.1 b.1 with h | h | h
  · exact ⟨fun _ => .inl h, fun _ => kk_aux b1 h⟩
  · rw [h]
    exact ⟨fun z => .inr ⟨rfl, Int.lt_of_add_lt_add_left z⟩, fun z => z.elim (fun z => absurd z (Nat.lt_irrefl _)) fun z => Int.add_lt_add_left z.2 _⟩
  · exact ⟨fun z => absurd z (Int.lt_asymm (kk_aux b2 h)), fun z => z.elim (fun z => absurd h (Nat.lt_asymm z)) fun z => absurd h (z.1 ▸ Nat.lt_irrefl _)⟩
theorem kk_inj {a b : Nat × Int} (ha : a.2.natAbs < 100) (hb : b.2.natAbs < 100) (h : kk a = kk b) : a.2 = b.2 := by
  have n1 := fun z => Int.lt_irrefl _ (h ▸ (kk_lt ha hb).mpr z)
  have n2 := fun z => Int.lt_irrefl _ (h ▸ (kk_lt hb ha).mpr z)
  rcases Nat.lt_trichotomy a.1 b.1 with g | g | g
  · exact (n1 (.inl g)).elim
  · exact Int.le_antisymm (Int.not_lt.mp fun z => n2 (.inr ⟨g.symm, z⟩)) (Int.not_lt.mp fun z => n1 (.inr ⟨g, z⟩))
  · exact (n2 (.inl g)).elim
theorem abs_in {x : Int} {j : Nat} (h : x.natAbs < j) : -(j : Int) < x ∧ x < j := by omega
theorem sign_abs (j : Nat) : (signN j).natAbs = j := by
  unfold signN
  split <;> omega
theorem zB_map (W : List (List Nat)) (sk : List (Nat × Int)) : keysL (fun x : Nat × List Nat => x.1) (sk.map (behind W)) = sk.map fun p => (p.1 : Int) := by
  unfold keysL
  rw [List.map_map]
  rfl
theorem book_step {W : List (List Nat)} {sk : List (Nat × Int)} {j r : Nat} (h : sk.Pairwise fun a b => kk a < kk b) (hj : j < 50) (hb : ∀ a ∈ sk, a.2.natAbs < j) :
    ∃ n, insB (decide (j % 2 = 1)) (sk.map (behind W)) (r, W.getD j []) = (sk.take n ++ (r, signN j) :: sk.drop n).map (behind W) ∧ (sk.take n ++ (r, signN j) :: sk.drop n).Pairwise fun a b => kk a < kk b := by
  have hA : ∀ a ∈ sk, a.2.natAbs < 100 := fun a ha => Nat.lt_trans (hb a ha) (Nat.lt_trans hj (by decide))
  have hS : (signN j).natAbs < 100 := (sign_abs j).symm ▸ Nat.lt_trans hj (by decide)
  have hz : (sk.map fun p => (p.1 : Int)).Pairwise (· ≤ ·) := by
    rw [List.pairwise_map]
    refine List.Pairwise.imp_of_mem (fun {a b} ha hb' hab => ?_) h
    exact ((kk_lt (hA a ha) (hA b hb')).mp hab).elim (fun z => Int.ofNat_le.mpr (Nat.le_of_lt z)) fun z => Int.ofNat_le.mpr (Nat.le_of_eq z.1)
  have hlen : (sk.map fun p => (p.1 : Int)).length = sk.length := List.length_map ..
  have hget : ∀ i (hi : i < sk.length), (sk.map fun p => (p.1 : Int)).getD i 0 = (sk[i].1 : Int) := fun i hi => by
    rw [getD_lt (by rw [hlen]; exact hi)]; simp
  have hs := sign_abs j
  have hbe : behind W (r, signN j) = (r, W.getD j []) := by unfold behind; rw [hs]
  have hins : ∀ n, atB (decide (j % 2 = 1)) (sk.map (behind W)) r = n → insB (decide (j % 2 = 1)) (sk.map (behind W)) (r, W.getD j []) = (sk.take n ++ (r, signN j) :: sk.drop n).map (behind W) := fun n hn => by
    unfold insB
    dsimp only
    rw [hn, List.map_append, List.map_cons, List.map_take, List.map_drop, hbe]
  refine ⟨atB (decide (j % 2 = 1)) (sk.map (behind W)) r, hins _ rfl, ?_⟩
  unfold atB
  rw [zB_map, List.length_map]
  by_cases hp : j % 2 = 1
  · rw [decide_eq_true hp, if_pos rfl]
    obtain ⟨a1, a2, a3⟩ := bl_at hz (r : Int)
    rw [hlen] at a1 a2 a3
    have hsg : signN j = -(j : Int) := by unfold signN; rw [if_pos hp]
    refine ins_pairwise h (fun a ha => ?_) (fun a ha => ?_)
    · obtain ⟨i, hi, hlt, e⟩ := mem_take_at ha
      have := a2 i hlt
      rw [hget i hi, e] at this
      exact (kk_lt (hA a (List.mem_of_mem_take ha)) hS).mpr (.inl (Int.ofNat_lt.mp this))
    · obtain ⟨i, hi, hlt, e⟩ := mem_drop_at ha
      have := a3 i hlt hi
      rw [hget i hi, e] at this
      have hm := List.mem_of_mem_drop ha
      exact (kk_lt hS (hA a hm)).mpr ((Nat.lt_or_eq_of_le (Int.ofNat_le.mp this)).imp id fun e => ⟨e, hsg ▸ (abs_in (hb a hm)).1⟩)
  · rw [decide_eq_false hp, if_neg (by decide)]
    obtain ⟨a1, a2, a3⟩ := br_at hz (r : Int)
    rw [hlen] at a1 a2 a3
    have hsg : signN j = (j : Int) := by unfold signN; rw [if_neg hp]
    refine ins_pairwise h (fun a ha => ?_) (fun a ha => ?_)
    · obtain ⟨i, hi, hlt, e⟩ := mem_take_at ha
      have := a2 i hlt
      rw [hget i hi, e] at this
      have hm := List.mem_of_mem_take ha
      exact (kk_lt (hA a hm) hS).mpr ((Nat.lt_or_eq_of_le (Int.ofNat_le.mp this)).imp id fun e => ⟨e, hsg ▸ (abs_in (hb a hm)).2⟩)
    · obtain ⟨i, hi, hlt, e⟩ := mem_drop_at ha
      have := a3 i hlt hi
      rw [hget i hi, e] at this
      exact (kk_lt hS (hA a (List.mem_of_mem_drop ha))).mpr (.inl (Int.ofNat_lt.mp this))
theorem book_all (R : List Nat) (W : List (List Nat)) : ∀ (m j : Nat) (sk : List (Nat × Int)), j + m < 50 → (sk.Pairwise fun a b => kk a < kk b) → (∀ a ∈ sk, a.2.natAbs < j) →
    ∃ sk' : List (Nat × Int), bookN R W (List.range' j m) (sk.map (behind W)) = sk'.map (behind W) ∧ (sk'.Pairwise fun a b => kk a < kk b) ∧ (∀ a ∈ sk', a.2.natAbs < j + m) ∧ (∀ a, a ∈ sk' ↔ a ∈ sk ∨ ∃ i, j ≤ i ∧ i < j + m ∧ a = (R.getD i 0, signN i))
  | 0, j, sk, _, h, hb => ⟨sk, rfl, h, hb, fun a => ⟨.inl, fun q => by
      rcases q with q | ⟨i, h1, h2, _⟩
      · exact q
      · exact absurd h2 (Nat.not_lt.mpr h1)⟩⟩
  | m + 1, j, sk, hj, h, hb => by
    obtain ⟨n, e, hp⟩ := book_step (W := W) (r := R.getD j 0) h (Nat.lt_of_le_of_lt (Nat.le_add_right _ _) (by with_reducible assumption)) hb
    have hs := sign_abs j
    obtain ⟨sk', e', q1, q2, q3⟩ := book_all R W m (j + 1) _ (Nat.lt_of_le_of_lt (Nat.le_of_eq (Nat.succ_add_eq_add_succ j m)) hj) hp (fun a ha => (ins_mem.mp ha).elim (fun ha => Nat.lt_succ_of_lt (hb a ha)) fun e => e ▸ Nat.lt_succ_of_le (Nat.le_of_eq hs))
    refine ⟨sk', ?_, q1, fun a ha => Nat.lt_of_lt_of_eq (q2 a ha) (Nat.succ_add_eq_add_succ j m), fun a => ?_⟩
    · show bookN R W (List.range' (j + 1) m) (insB (decide (j % 2 = 1)) (sk.map (behind W)) (R.getD j 0, W.getD j [])) = _
      rw [e, e']
    · rw [q3 a, ins_mem]
      constructor
      · rintro ((q | q) | ⟨i, h1, h2, q⟩)
        · exact .inl q
        · exact .inr ⟨j, Nat.le_refl _, Nat.lt_add_of_pos_right (Nat.succ_pos _), q⟩
        · exact .inr ⟨i, Nat.le_of_succ_le h1, Nat.lt_of_lt_of_eq h2 (Nat.succ_add_eq_add_succ j m), q⟩
      · rintro (q | ⟨i, h1, h2, q⟩)
        · exact .inl (.inl q)
        · by_cases hi : i = j
          · subst hi; exact .inl (.inr q)
          · exact .inr ⟨i, Nat.lt_of_le_of_ne h1 (Ne.symm hi), Nat.lt_of_lt_of_eq h2 (Nat.succ_add_eq_add_succ j m).symm, q⟩
theorem pickedJ {α β : Type} (g : α → β) (l : List α) (is : List Nat) : picked (l.map g) is = (picked l is).map g := by
  unfold picked
  rw [List.map_filterMap]
  congr 1
  funext i
  rw [List.getElem?_map]
theorem sgl {i : Nat} (h : i < 15) : (signN i).natAbs < 100 := (sign_abs i).symm ▸ Nat.lt_trans h (by decide)
theorem sort_keys (R : List Nat) {sk : List (Nat × Int)} (h : sk.Pairwise fun a b => kk a < kk b) (hm : ∀ a, a ∈ sk ↔ a ∈ keysN R) : sortV ((keysN R).map kV) = some (sk.map kV) := by
  have hl : (keysN R).length = 15 := by simp [keysN]
  have hget : ∀ i, i < 15 → (keysN R)[i]? = some (R.getD i 0, signN i) := fun i hi => by simp [keysN, hi]
  let K : Nat → Int := fun i => kk (R.getD i 0, signN i)
  have H : KOk (ltAtV ((keysN R).map kV)) K 15 := by
    constructor
    · intro i j hi hj
      unfold ltAtV
      rw [List.getElem?_map, List.getElem?_map, hget i hi, hget j hj]
      show some (decide (((R.getD i 0 : Nat) : Int) < (R.getD j 0 : Nat)) || (decide (((R.getD i 0 : Nat) : Int) = (R.getD j 0 : Nat)) && decide (signN i < signN j))) = some (decide (K i < K j))
      congr 1
      rw [Bool.eq_iff_iff]
      simp only [Bool.or_eq_true, Bool.and_eq_true, decide_eq_true_eq]
      exact (or_congr Int.ofNat_lt (and_congr Int.ofNat_inj Iff.rfl)).trans (kk_lt (a := (R.getD i 0, signN i)) (b := (R.getD j 0, signN j)) (sgl hi) (sgl hj)).symm
    · intro i j hi hj e
      have e' : signN i = signN j := kk_inj (a := (R.getD i 0, signN i)) (b := (R.getD j 0, signN j)) (sgl hi) (sgl hj) e
      exact (sign_abs i).symm.trans ((congrArg Int.natAbs e').trans (sign_abs j))
  obtain ⟨p, e, hp, hadj⟩ := sort_spec H (by decide)
  have hps : p.toList.length = 15 := by rw [Array.length_toList]; exact hp.size
  have hlt : ∀ i ∈ p.toList, i < 15 := fun i hi => by
    have := (Array.perm_iff_toList_perm.mp hp).mem_iff.mp hi
    simpa using this
  have hall : p.toList.all (fun i => decide (i < ((keysN R).map kV).length)) = true := by
    rw [List.all_eq_true]
    intro i hi
    rw [List.length_map, hl]
    exact decide_eq_true (hlt i hi)
  have hpi : ((keysN R).map kV).all pairI = true := by
    rw [List.all_eq_true]
    intro v hv
    obtain ⟨a, _, rfl⟩ := List.mem_map.mp hv
    rfl
  have hpk : picked (keysN R) p.toList = p.toList.map fun i => (R.getD i 0, signN i) := by
    unfold picked
    have go : ∀ is : List Nat, (∀ i ∈ is, i < 15) → is.filterMap (fun i => (keysN R)[i]?) = is.map fun i => (R.getD i 0, signN i) := by
      intro is
      induction is with
      | nil => intro _; rfl
      | cons i is ih =>
        intro h
        rw [List.filterMap_cons, hget i (h i (List.mem_cons_self ..)), ih fun x hx => h x (List.mem_cons_of_mem _ hx)]
        rfl
    exact go _ hlt
  have hpw : (picked (keysN R) p.toList).Pairwise fun a b => kk a < kk b := by
    rw [hpk, List.pairwise_map, List.pairwise_iff_getElem]
    intro i j hi hj hij
    have a1 := adj_mono hadj (i := i) j (Nat.le_of_lt (by with_reducible assumption)) (Nat.lt_of_lt_of_eq (by with_reducible assumption) (by with_reducible assumption))
    have a2 := H.ne hp (a := i) (b := j) (by omega) (Nat.lt_of_lt_of_eq (by with_reducible assumption) (by with_reducible assumption)) (Nat.ne_of_lt (by with_reducible assumption))
    obtain ⟨l1, e1⟩ := hp.at (i := i) (by omega)
    obtain ⟨l2, e2⟩ := hp.at (i := j) (Nat.lt_of_lt_of_eq (by with_reducible assumption) (by with_reducible assumption))
    unfold kp at a1 a2
    rw [e1, e2] at a1 a2
    show K p.toList[i] < K p.toList[j]
    omega
  have hmem : ∀ a, a ∈ picked (keysN R) p.toList ↔ a ∈ sk := fun a => by
    rw [hm a, hpk]
    unfold keysN
    rw [List.mem_map, List.mem_map]
    constructor
    · rintro ⟨i, hi, rfl⟩
      exact ⟨i, List.mem_range.mpr (hlt i hi), rfl⟩
    · rintro ⟨i, hi, rfl⟩
      exact ⟨i, (Array.perm_iff_toList_perm.mp hp).mem_iff.mpr (by simpa using hi), rfl⟩
  have := strict_ext hpw h hmem
  unfold sortV
  rw [hpi, if_pos rfl, List.length_map, hl, e, Option.bind_some]
  rw [List.length_map, hl] at hall
  rw [hall, if_pos rfl, pickedJ, this]
theorem sort_all (R : List Nat) (W : List (List Nat)) : ∃ sk : List (Nat × Int), sortV ((keysN R).map kV) = some (sk.map kV) ∧ sk.length < 200 ∧ (∀ p ∈ sk, p.2.natAbs < 15) ∧ bookN R W (List.range' 0 15) [] = sk.map (behind W) ∧ (sk.Pairwise fun a b => kk a < kk b) ∧ (∀ a, a ∈ sk ↔ a ∈ keysN R) := by
  obtain ⟨sk, e, h1, h2, h3⟩ := book_all R W 15 0 [] (by decide) List.Pairwise.nil (fun a ha => by cases ha)
  rw [List.map_nil] at e
  have hm : ∀ a, a ∈ sk ↔ a ∈ keysN R := fun a => by
    rw [h3 a]
    unfold keysN
    rw [List.mem_map]
    constructor
    · rintro (q | ⟨i, _, hi, rfl⟩)
      · cases q
      · exact ⟨i, List.mem_range.mpr (by with_reducible assumption), rfl⟩
    · rintro ⟨i, hi, rfl⟩
      exact .inr ⟨i, by exact Nat.le_add_left _ _, by have := List.mem_range.mp hi; with_reducible assumption, rfl⟩
  have hlen : sk.length = 15 := by
    have := bookN_length R W (List.range' 0 15) []
    rw [e] at this
    simpa using this
  exact ⟨sk, sort_keys R h1 hm, by exact Nat.lt_of_le_of_lt (Nat.le_of_eq (by with_reducible assumption)) (by decide), fun p hp => by have := h2 p hp; with_reducible assumption, e, h1, hm⟩

noncomputable def Sub (a b : Nat) : Prop := a &&& b = a
theorem sub_comm {a b : Nat} : b &&& a = a ↔ Sub a b := by unfold Sub; rw [Nat.and_comm]
theorem sub_and {x a b : Nat} : Sub x (a &&& b) ↔ Sub x a ∧ Sub x b := by
  unfold Sub
  constructor
  · intro h
    constructor
    · apply Nat.eq_of_testBit_eq
      intro i
      have := congrArg (fun n => n.testBit i) h
      simp only [Nat.testBit_and] at this ⊢
      revert this
      cases x.testBit i <;> cases a.testBit i <;> cases b.testBit i <;> decide
    · apply Nat.eq_of_testBit_eq
      intro i
      have := congrArg (fun n => n.testBit i) h
      simp only [Nat.testBit_and] at this ⊢
      revert this
      cases x.testBit i <;> cases a.testBit i <;> cases b.testBit i <;> decide
  · rintro ⟨h1, h2⟩
    rw [← Nat.and_assoc, h1, h2]
theorem Sub.refl (a : Nat) : Sub a a := Nat.and_self a
theorem Sub.trans {a b c : Nat} (h : Sub a b) (k : Sub b c) : Sub a c := by
  have : Sub a (b &&& c) := by unfold Sub at *; rw [k]; exact h
  exact (sub_and.mp this).2
theorem Sub.anti {a b : Nat} (h : Sub a b) (k : Sub b a) : a = b := by
  unfold Sub at *
  rw [← h, Nat.and_comm]; exact k
theorem Sub.le {a b : Nat} (h : Sub a b) : a ≤ b := by
  unfold Sub at h
  rw [← h]; exact Nat.and_le_right
theorem sub_15 {x : Nat} (h : x < 16) : Sub x 15 := by
  unfold Sub
  have : ∀ x, x < 16 → x &&& 15 = x := by decide
  exact this x h
theorem commonN_cons (c r : Nat) (L : List Nat) (t : Nat) : commonN c (r :: L) t = commonN c L (if r &&& c = c then t &&& r else t) := by
  show (if r &&& c = c then commonN c L (t &&& r) else commonN c L t) = _
  split <;> rfl
theorem com_iff (c x : Nat) : ∀ (L : List Nat) (t : Nat), Sub x (commonN c L t) ↔ Sub x t ∧ ∀ r ∈ L, Sub c r → Sub x r
  | [], t => ⟨fun h => ⟨h, fun r hr => by cases hr⟩, fun h => h.1⟩
  | r :: L, t => by
    rw [commonN_cons, com_iff c x L]
    by_cases hr : r &&& c = c
    · rw [if_pos hr, sub_and]
      have hs := sub_comm.mp hr
      constructor
      · rintro ⟨⟨h1, h2⟩, h3⟩
        refine ⟨h1, fun q hq hcq => ?_⟩
        rcases List.mem_cons.mp hq with rfl | hq
        · exact h2
        · exact h3 q hq hcq
      · rintro ⟨h1, h2⟩
        exact ⟨⟨h1, h2 r (List.mem_cons_self ..) hs⟩, fun q hq => h2 q (List.mem_cons_of_mem _ hq)⟩
    · rw [if_neg hr]
      constructor
      · rintro ⟨h1, h3⟩
        refine ⟨h1, fun q hq hcq => ?_⟩
        rcases List.mem_cons.mp hq with rfl | hq
        · exact absurd (sub_comm.mpr hcq) hr
        · exact h3 q hq hcq
      · rintro ⟨h1, h2⟩
        exact ⟨h1, fun q hq => h2 q (List.mem_cons_of_mem _ hq)⟩
noncomputable def pc (x : Nat) : Nat := x % 2 + x / 2 % 2 + x / 4 % 2 + x / 8 % 2
theorem pc_lt {a b : Nat} (ha : a < 16) (hb : b < 16) (h : Sub a b) (hne : a ≠ b) : pc a < pc b := by
  have : ∀ a, a < 16 → ∀ b, b < 16 → a &&& b = a → a ≠ b → pc a < pc b := by decide +kernel
  exact this a ha b hb h hne
theorem pc_le {a : Nat} (ha : a < 16) : pc a ≤ 4 := (show ∀ a, a < 16 → pc a ≤ 4 by decide) a ha
section
variable {R : List Nat}

noncomputable def cl (R : List Nat) (c : Nat) : Nat := commonN c R 15
theorem cl_lt (c : Nat) : cl R c < 16 := commonN_lt c R 15 (by decide)
theorem cl_iff {c x : Nat} (hx : x < 16) : Sub x (cl R c) ↔ ∀ r ∈ R, Sub c r → Sub x r := by
  unfold cl
  rw [com_iff]
  exact ⟨fun h => h.2, fun h => ⟨sub_15 hx, h⟩⟩
theorem cl_ext {c : Nat} (hc : c < 16) : Sub c (cl R c) := (cl_iff hc).mpr fun _ _ h => h
theorem cl_mono {a b : Nat} (h : Sub a b) : Sub (cl R a) (cl R b) := (cl_iff (cl_lt a)).mpr fun r hr hb => (cl_iff (cl_lt a)).mp (Sub.refl _) r hr (h.trans hb)
theorem cl_least {a b : Nat} (ha : a < 16) (h : Sub a (cl R b)) : Sub (cl R a) (cl R b) := (cl_iff (cl_lt a)).mpr fun r hr hb => (cl_iff (cl_lt a)).mp (Sub.refl _) r hr ((cl_iff ha).mp h r hr hb)

structure Inv (R Sh : List Nat) : Prop where
  up : Sh.Pairwise (· < ·)
  sub : ∀ s ∈ Sh, s ∈ R
theorem zL_up {Sh : List Nat} (h : Sh.Pairwise (· < ·)) : (zL Sh).Pairwise (· ≤ ·) := by
  unfold zL
  rw [List.pairwise_map]
  exact List.Pairwise.imp (fun {a b} h => by omega) h
theorem zL_len (Sh : List Nat) : (zL Sh).length = Sh.length := by simp [zL]
theorem zL_get {Sh : List Nat} {i : Nat} (hi : i < Sh.length) : (zL Sh).getD i 0 = (Sh[i] : Int) := by
  rw [getD_lt (by rw [zL_len]; exact hi)]; simp [zL]
theorem told_sub {Sh : List Nat} (h : Inv R Sh) (c : Nat) : Sub (cl R c) (commonN c Sh 15) := (com_iff _ _ _ _).mpr ⟨sub_15 (cl_lt c), fun s hs hcs => (cl_iff (cl_lt c)).mp (Sub.refl _) s (h.sub s hs) hcs⟩
theorem add_spec {Sh : List Nat} {r : Nat} (h : Inv R Sh) (hr : r ∈ R) (hn : r ∉ Sh) : blR (zL Sh) r Sh.length 0 Sh.length = brR (zL Sh) r Sh.length 0 Sh.length ∧ Inv R (addSh Sh r) ∧ ∀ x, x ∈ addSh Sh r ↔ x ∈ Sh ∨ x = r := by
  obtain ⟨a1, a2, a3⟩ := bl_at (zL_up h.up) (r : Int)
  obtain ⟨b1, b2, b3⟩ := br_at (zL_up h.up) (r : Int)
  rw [zL_len] at a1 a2 a3 b1 b2 b3
  have hne : ∀ i (hi : i < Sh.length), Sh[i] ≠ r := fun i hi e => hn (e ▸ List.getElem_mem hi)
  have hup : Up (zL Sh) := up_of (zL_up h.up)
  have heq : blR (zL Sh) r Sh.length 0 Sh.length = brR (zL Sh) r Sh.length 0 Sh.length := by
    rcases Nat.lt_trichotomy (blR (zL Sh) r Sh.length 0 Sh.length) (brR (zL Sh) r Sh.length 0 Sh.length) with q | q | q
    · have hl : blR (zL Sh) r Sh.length 0 Sh.length < Sh.length := by exact Nat.lt_of_lt_of_le (by with_reducible assumption) (by with_reducible assumption)
      have c1 := a3 _ (Nat.le_refl _) hl
      have c2 := b2 _ q
      rw [zL_get hl] at c1 c2
      exact absurd (show Sh[blR (zL Sh) r Sh.length 0 Sh.length] = r by omega) (hne _ hl)
    · exact q
    · have hl : brR (zL Sh) r Sh.length 0 Sh.length < Sh.length := by exact Nat.lt_of_lt_of_le (by with_reducible assumption) (by with_reducible assumption)
      have c1 := b3 _ (Nat.le_refl _) hl
      have c2 := a2 _ q
      rw [zL_get hl] at c1 c2
      omega
  have hins : addSh Sh r = Sh.take (blR (zL Sh) r Sh.length 0 Sh.length) ++ r :: Sh.drop (blR (zL Sh) r Sh.length 0 Sh.length) := by
    unfold addSh insL insRt
    split
    · rfl
    · rw [← heq]
  refine ⟨heq, ⟨?_, ?_⟩, ?_⟩
  · rw [hins]
    refine ins_pairwise h.up (fun a ha => ?_) (fun a ha => ?_)
    · obtain ⟨i, hi, hlt, e⟩ := mem_take_at ha
      have := a2 i hlt
      rw [zL_get hi, e] at this
      exact Int.ofNat_lt.mp (by with_reducible assumption)
    · obtain ⟨i, hi, hlt, e⟩ := mem_drop_at ha
      have := a3 i hlt hi
      rw [zL_get hi, e] at this
      have := hne i hi
      rw [e] at this
      omega
  · intro s hs
    rw [hins, ins_mem] at hs
    rcases hs with hs | rfl
    · exact h.sub s hs
    · exact hr
  · intro x
    rw [hins, ins_mem]

structure BookOk (R : List Nat) (bk : List (Nat × List Nat)) : Prop where
  up : (bk.map fun p => (p.1 : Int)).Pairwise (· ≤ ·)
  row : ∀ p ∈ bk, p.1 ∈ R
  all : ∀ r ∈ R, ∃ p ∈ bk, p.1 = r
theorem ask_none {bk : List (Nat × List Nat)} (B : BookOk R bk) {c t : Nat} (h : askX bk c t = none) : ∀ r ∈ R, Sub c r → Sub t r := by
  intro r hr hcr
  obtain ⟨p, hp, rfl⟩ := B.all r hr
  unfold askX at h
  rw [Option.map_eq_none_iff, List.find?_eq_none] at h
  obtain ⟨a1, a2, a3⟩ := bl_at B.up (c : Int)
  rw [List.length_map] at a1 a2 a3
  obtain ⟨i, hi, e⟩ := List.mem_iff_getElem.mp hp
  have hge : blR (bk.map fun p => (p.1 : Int)) c bk.length 0 bk.length ≤ i := by
    rcases Nat.lt_or_ge i (blR (bk.map fun p => (p.1 : Int)) c bk.length 0 bk.length) with q | q
    · have := a2 i q
      rw [getD_lt (by rw [List.length_map]; exact hi), List.getElem_map, e] at this
      have := hcr.le
      omega
    · exact q
  have hm : p ∈ bk.drop (blR (bk.map fun p => (p.1 : Int)) c bk.length 0 bk.length) := by
    rw [List.mem_iff_getElem]
    refine ⟨i - blR (bk.map fun p => (p.1 : Int)) c bk.length 0 bk.length, by rw [List.length_drop]; omega, ?_⟩
    rw [List.getElem_drop]
    rw [← e]
    congr 1
    omega
  have h1 := h p hm
  unfold expP at h1
  have hc' : p.1 &&& c = c := sub_comm.mpr hcr
  rw [decide_eq_true hc', Bool.true_and, Bool.not_eq_true, Bool.not_eq_false', decide_eq_true_eq] at h1
  exact sub_comm.mp h1
theorem ask_some {bk : List (Nat × List Nat)} (B : BookOk R bk) {c t r : Nat} (h : askX bk c t = some r) : r ∈ R ∧ Sub c r ∧ ¬ Sub t r := by
  unfold askX at h
  rw [Option.map_eq_some_iff] at h
  obtain ⟨p, hf, rfl⟩ := h
  have h1 := List.find?_some hf
  have h2 := List.mem_of_mem_drop (List.mem_of_find?_eq_some hf)
  unfold expP at h1
  simp only [Bool.and_eq_true, decide_eq_true_eq, Bool.not_eq_true', decide_eq_false_iff_not] at h1
  exact ⟨B.row p h2, sub_comm.mp h1.1, fun q => h1.2 (sub_comm.mpr q)⟩
theorem in_spec {bk : List (Nat × List Nat)} (B : BookOk R bk) {c : Nat} (hc : c < 16) {Rl : List (Nat × Nat)} : ∀ (t : Nat) (Sh : List Nat), Inv R Sh → pc (commonN c Sh 15) + 1 ≤ t →
    ∃ Sh', inGo bk c t Rl Sh = some (if cl R c = c then Rl else insRule Rl (c, cl R c), Sh') ∧ Inv R Sh' ∧ (∀ s ∈ Sh, s ∈ Sh') ∧ commonN c Sh' 15 = cl R c
  | 0, Sh, _, h => by omega
  | t + 1, Sh, hI, ht => by
    have hts := told_sub hI c
    have htl : commonN c Sh 15 < 16 := commonN_lt c Sh 15 (by decide)
    unfold inGo
    by_cases h0 : commonN c Sh 15 = c
    · rw [if_pos h0]
      have he : cl R c = c := Sub.anti (by rw [h0] at hts; exact hts) (cl_ext hc)
      rw [if_pos he]
      exact ⟨Sh, rfl, hI, fun s hs => hs, by rw [he]; exact h0⟩
    · rw [if_neg h0]
      cases ha : askX bk c (commonN c Sh 15) with
      | none =>
        have he : commonN c Sh 15 = cl R c := Sub.anti ((cl_iff htl).mpr (ask_none B ha)) hts
        refine ⟨Sh, ?_, hI, fun s hs => hs, he⟩
        dsimp only
        rw [he] at h0 ⊢
        rw [if_neg h0]
      | some r =>
        obtain ⟨hr, hcr, hnt⟩ := ask_some B ha
        have hn : r ∉ Sh := fun hm => hnt (((com_iff c (commonN c Sh 15) Sh 15).mp (Sub.refl _)).2 r hm hcr)
        obtain ⟨heq, hI', hm'⟩ := add_spec hI hr hn
        dsimp only
        rw [if_pos heq]
        have hsub : Sub (commonN c (addSh Sh r) 15) (commonN c Sh 15) := (com_iff _ _ _ _).mpr ⟨sub_15 (commonN_lt c _ 15 (by decide)), fun s hs hcs => ((com_iff c (commonN c (addSh Sh r) 15) (addSh Sh r) 15).mp (Sub.refl _)).2 s ((hm' s).mpr (.inl hs)) hcs⟩
        have hne : commonN c (addSh Sh r) 15 ≠ commonN c Sh 15 := fun e => hnt (by
          rw [← e]
          exact ((com_iff c (commonN c (addSh Sh r) 15) (addSh Sh r) 15).mp (Sub.refl _)).2 r ((hm' r).mpr (.inr rfl)) hcr)
        have hpc := pc_lt (commonN_lt c _ 15 (by decide)) htl hsub hne
        obtain ⟨Sh', e, i1, i2, i3⟩ := in_spec B hc t (addSh Sh r) hI' (by omega)
        exact ⟨Sh', e, i1, fun s hs => i2 s ((hm' s).mpr (.inl hs)), i3⟩

noncomputable def RG (R : List Nat) : Nat → List (Nat × Nat)
  | 0 => []
  | n + 1 => if (RG R n).any (blocked n) then RG R n else if cl R n = n then RG R n else RG R n ++ [(n, cl R n)]
theorem RG_succ (R : List Nat) (n : Nat) : RG R (n + 1) = if (RG R n).any (blocked n) = true then RG R n else if cl R n = n then RG R n else RG R n ++ [(n, cl R n)] := rfl
noncomputable def PCb (R : List Nat) (c : Nat) : Bool := !(RG R c).any (blocked c) && !decide (cl R c = c)
theorem RG_eq (R : List Nat) : ∀ n, RG R n = ((List.range n).filter (PCb R)).map fun c => (c, cl R c)
  | 0 => rfl
  | n + 1 => by
    have ih := RG_eq R n
    rw [List.range_succ, List.filter_append, List.map_append, ← ih, RG_succ]
    have e : List.filter (PCb R) [n] = if PCb R n then [n] else [] := by
      rw [List.filter_cons]; rfl
    rw [e]
    unfold PCb
    cases (RG R n).any (blocked n) with
    | true => simp
    | false =>
      by_cases h : cl R n = n
      · simp [h]
      · simp [h]
theorem RG_mem {n a b : Nat} : (a, b) ∈ RG R n ↔ a < n ∧ PCb R a = true ∧ b = cl R a := by
  rw [RG_eq, List.mem_map]
  constructor
  · rintro ⟨x, hx, e⟩
    cases e
    rw [List.mem_filter, List.mem_range] at hx
    exact ⟨hx.1, hx.2, rfl⟩
  · rintro ⟨h1, h2, rfl⟩
    exact ⟨a, List.mem_filter.mpr ⟨List.mem_range.mpr h1, h2⟩, rfl⟩
theorem RG_up (n : Nat) : (zR (RG R n)).Pairwise (· ≤ ·) ∧ ∀ x ∈ zR (RG R n), x < (n : Int) := by
  rw [RG_eq]
  have e : zR (((List.range n).filter (PCb R)).map fun c => (c, cl R c)) = ((List.range n).filter (PCb R)).map fun (c : Nat) => (c : Int) := by
    unfold zR keysL
    rw [List.map_map]; rfl
  rw [e]
  constructor
  · rw [List.pairwise_map]
    refine List.Pairwise.imp (fun {a b} h => ?_) (List.Pairwise.filter _ List.pairwise_lt_range)
    omega
  · intro x hx
    obtain ⟨c, hc, rfl⟩ := List.mem_map.mp hx
    have := List.mem_range.mp (List.mem_filter.mp hc).1
    exact Int.ofNat_lt.mpr (by with_reducible assumption)
theorem zR_len (Rl : List (Nat × Nat)) : (zR Rl).length = Rl.length := by simp [zR, keysL]
theorem ahead_all (n : Nat) : aheadR (RG R n) n = RG R n := by
  obtain ⟨h1, h2⟩ := RG_up (R := R) n
  obtain ⟨a1, a2, a3⟩ := bl_at h1 (n : Int)
  rw [zR_len] at a1 a2 a3
  unfold aheadR
  apply List.take_of_length_le
  rcases Nat.lt_or_ge (blR (zR (RG R n)) n (RG R n).length 0 (RG R n).length) (RG R n).length with q | q
  · have := a3 _ (Nat.le_refl _) q
    have hm := h2 _ (List.getElem_mem (show blR (zR (RG R n)) n (RG R n).length 0 (RG R n).length < (zR (RG R n)).length by rw [zR_len]; exact q))
    rw [getD_lt (by rw [zR_len]; exact q)] at this
    omega
  · exact q
theorem ins_last (n d : Nat) : insRule (RG R n) (n, d) = RG R n ++ [(n, d)] := by
  obtain ⟨h1, h2⟩ := RG_up (R := R) n
  obtain ⟨a1, a2, a3⟩ := br_at h1 (n : Int)
  rw [zR_len] at a1 a2 a3
  have hp : brR (zR (RG R n)) n (RG R n).length 0 (RG R n).length = (RG R n).length := by
    rcases Nat.lt_or_ge (brR (zR (RG R n)) n (RG R n).length 0 (RG R n).length) (RG R n).length with q | q
    · have := a3 _ (Nat.le_refl _) q
      have hm := h2 _ (List.getElem_mem (show brR (zR (RG R n)) n (RG R n).length 0 (RG R n).length < (zR (RG R n)).length by rw [zR_len]; exact q))
      rw [getD_lt (by rw [zR_len]; exact q)] at this
      omega
    · omega
  unfold insRule
  dsimp only
  rw [hp, List.take_length, List.drop_length]
theorem go_spec {bk : List (Nat × List Nat)} (B : BookOk R bk) : ∀ (m n : Nat) (Sh : List Nat), n + m ≤ 16 → Inv R Sh → (∀ c, c < n → (RG R c).any (blocked c) = false → commonN c Sh 15 = cl R c) →
    ∃ Sh', exGo bk (List.range' n m) (RG R n) Sh = some (RG R (n + m), Sh') ∧ Inv R Sh' ∧ (∀ c, c < n + m → (RG R c).any (blocked c) = false → commonN c Sh' 15 = cl R c)
  | 0, n, Sh, _, hI, hd => ⟨Sh, rfl, hI, hd⟩
  | m + 1, n, Sh, hn, hI, hd => by
    have keep : ∀ Sh', Inv R Sh' → (∀ s ∈ Sh, s ∈ Sh') → ∀ c, commonN c Sh 15 = cl R c → commonN c Sh' 15 = cl R c := fun Sh' hI' hs c h => by
      refine Sub.anti ?_ (told_sub hI' c)
      rw [← h]
      exact (com_iff _ _ _ _).mpr ⟨sub_15 (commonN_lt c _ 15 (by decide)), fun s hm hcs => ((com_iff c (commonN c Sh' 15) Sh' 15).mp (Sub.refl _)).2 s (hs s hm) hcs⟩
    have e1 : n + (m + 1) = n + 1 + m := by omega
    show ∃ Sh', exGo bk (n :: List.range' (n + 1) m) (RG R n) Sh = _ ∧ _
    unfold exGo exStep
    rw [ahead_all]
    by_cases hb : (RG R n).any (blocked n) = true
    · have hf : ((RG R n).filter (blocked n)).isEmpty = false := by
        obtain ⟨x, hx, hbx⟩ := List.any_eq_true.mp hb
        cases hq : (RG R n).filter (blocked n) with
        | nil =>
          have := List.mem_filter.mpr ⟨hx, hbx⟩
          rw [hq] at this; cases this
        | cons => rfl
      rw [hf, if_neg (by decide)]
      have hrg : RG R (n + 1) = RG R n := by
        rw [RG_succ, if_pos hb]
      dsimp only
      rw [← hrg, e1]
      refine go_spec B m (n + 1) Sh (by omega) hI fun c hc hcb => ?_
      by_cases h : c = n
      · subst h; rw [hb] at hcb; cases hcb
      · exact hd c (by omega) hcb
    · have hb' : (RG R n).any (blocked n) = false := by simpa using hb
      have hf : ((RG R n).filter (blocked n)).isEmpty = true := by
        rw [List.isEmpty_iff, List.filter_eq_nil_iff]
        intro x hx hbx
        exact hb (List.any_eq_true.mpr ⟨x, hx, hbx⟩)
      rw [hf, if_pos rfl]
      have hp := pc_le (commonN_lt n Sh 15 (by decide))
      obtain ⟨Sh1, e, i1, i2, i3⟩ := in_spec B (c := n) (by omega) (Rl := RG R n) 8 Sh hI (Nat.lt_of_le_of_lt (by with_reducible assumption) (by decide))
      rw [e]
      have hrg : (if cl R n = n then RG R n else insRule (RG R n) (n, cl R n)) = RG R (n + 1) := by
        rw [RG_succ, if_neg hb, ins_last]
      dsimp only
      rw [hrg, e1]
      refine go_spec B m (n + 1) Sh1 (by omega) i1 fun c hc hcb => ?_
      by_cases h : c = n
      · subst h; exact i3
      · exact keep Sh1 i1 i2 c (hd c (by omega) hcb)
end
section
variable {R : List Nat}

theorem PC_iff {c : Nat} : PCb R c = true ↔ cl R c ≠ c ∧ ∀ q, q < c → PCb R q = true → Sub q c → Sub (cl R q) c := by
  unfold PCb
  rw [Bool.and_eq_true, Bool.not_eq_true', Bool.not_eq_true', decide_eq_false_iff_not]
  constructor
  · rintro ⟨h1, h2⟩
    refine ⟨h2, fun q hq hp hs => ?_⟩
    have hm : (q, cl R q) ∈ RG R c := RG_mem.mpr ⟨hq, hp, rfl⟩
    have h := List.any_eq_false.mp h1 _ hm
    unfold blocked at h
    dsimp only at h
    have hs' : q &&& c = q := hs
    rw [decide_eq_true hs', Bool.true_and, Bool.not_eq_true, Bool.not_eq_false', decide_eq_true_eq] at h
    exact h
  · rintro ⟨h2, h1⟩
    refine ⟨List.any_eq_false.mpr fun x hx => ?_, h2⟩
    obtain ⟨q, b⟩ := x
    obtain ⟨a1, a2, rfl⟩ := RG_mem.mp hx
    unfold blocked
    dsimp only
    intro hb
    rw [Bool.and_eq_true, decide_eq_true_eq, Bool.not_eq_true', decide_eq_false_iff_not] at hb
    exact hb.2 (h1 q a1 a2 hb.1)
theorem Sub.lt {a b : Nat} (h : Sub a b) (hne : a ≠ b) : a < b := Nat.lt_of_le_of_ne h.le hne

theorem closed_of {y : Nat} (hy : y < 16) (h : ∀ q, q < 16 → PCb R q = true → Sub q y → Sub (cl R q) y) : cl R y = y := by
  rcases Decidable.em (cl R y = y) with e | e
  · exact e
  · have hp : PCb R y = true := PC_iff.mpr ⟨e, fun q hq hp hs => h q (Nat.lt_trans (by with_reducible assumption) (by with_reducible assumption)) hp hs⟩
    exact Sub.anti (h y hy hp (Sub.refl _)) (cl_ext hy)
noncomputable def Quasi (R : List Nat) (c : Nat) : Prop := ∀ p, p < 16 → Sub p c → cl R p ≠ cl R c → Sub (cl R p) c
theorem PC_quasi {c : Nat} (hc : c < 16) (h : PCb R c = true) : Quasi R c := by
  intro p hp hpc hne
  obtain ⟨h1, h2⟩ := PC_iff.mp h
  have hy : cl R p &&& c < 16 := Nat.lt_of_le_of_lt Nat.and_le_right hc
  have hcl : cl R (cl R p &&& c) = cl R p &&& c := closed_of hy fun q hq hqp hqy => by
    obtain ⟨q1, q2⟩ := sub_and.mp hqy
    refine sub_and.mpr ⟨cl_least hq q1, ?_⟩
    by_cases e : q = c
    · subst e
      have : cl R p = cl R q := Sub.anti (cl_mono hpc) (cl_least hc q1)
      exact absurd this hne
    · exact h2 q (q2.lt e) hqp q2
  have hsub : Sub p (cl R p &&& c) := sub_and.mpr ⟨cl_ext hp, hpc⟩
  have := cl_mono (R := R) hsub
  rw [hcl] at this
  exact (sub_and.mp this).2
theorem PC_least {c : Nat} (hc : c < 16) (h : PCb R c = true) : ∀ p, p < c → Sub p c → Quasi R p → cl R p ≠ cl R c := by
  intro p hpc hs hq e
  obtain ⟨h1, h2⟩ := PC_iff.mp h
  have hpn : cl R p ≠ p := fun e' => by
    have : Sub (cl R c) p := by rw [← e, e']; exact Sub.refl _
    have := ((cl_ext hc).trans this).le
    omega
  refine hpn (closed_of (Nat.lt_trans (by with_reducible assumption) (by with_reducible assumption)) fun q hq16 hqp hqs => ?_)
  by_cases e2 : cl R q = cl R p
  · have := h2 q (by have := hqs.le; exact Nat.lt_of_le_of_lt (by with_reducible assumption) (by with_reducible assumption)) hqp (hqs.trans hs)
    rw [e2, e] at this
    exact absurd (Sub.anti this (cl_ext hc)) h1
  · exact hq q hq16 hqs e2
theorem PC_char {c : Nat} (hc : c < 16) : PCb R c = true ↔ cl R c ≠ c ∧ Quasi R c ∧ ∀ p, p < c → Sub p c → Quasi R p → cl R p ≠ cl R c := by
  constructor
  · intro h
    exact ⟨(PC_iff.mp h).1, PC_quasi hc h, PC_least hc h⟩
  · rintro ⟨h1, h2, h3⟩
    refine PC_iff.mpr ⟨h1, fun q hq hp hs => ?_⟩
    by_cases e : cl R q = cl R c
    · exact absurd e (h3 q hq hs (PC_quasi (Nat.lt_trans (by with_reducible assumption) (by with_reducible assumption)) hp))
    · exact h2 q (Nat.lt_trans (by with_reducible assumption) (by with_reducible assumption)) hs e
theorem com_get {p : Nat} (hp : p < 16) : (comN R).getD p 0 = cl R p := by
  unfold comN cl
  rw [getD_lt (by simpa using hp)]
  simp
theorem part_mem {p c : Nat} : p ∈ partN c ↔ Sub p c := by
  unfold partN
  rw [List.mem_filter, List.mem_range, decide_eq_true_eq]
  exact ⟨fun h => h.2, fun h => ⟨Nat.lt_succ_of_le (Sub.le h), h⟩⟩
theorem part_init (c : Nat) : (partN c).take ((partN c).length - 1) = (List.range c).filter fun p => decide (p &&& c = p) := by
  have e : partN c = ((List.range c).filter fun p => decide (p &&& c = p)) ++ [c] := by
    unfold partN
    rw [List.range_succ, List.filter_append]
    congr 1
    rw [List.filter_cons]
    have : c &&& c = c := Nat.and_self c
    rw [if_pos (decide_eq_true this)]
    rfl
  rw [e, List.length_append]
  simp
theorem whole_iff {c : Nat} : c ∈ wholeN (comN R) ↔ c < 16 ∧ Quasi R c := by
  unfold wholeN
  rw [List.mem_filter, List.mem_range, List.isEmpty_iff, List.filter_eq_nil_iff]
  constructor
  · rintro ⟨hc, h⟩
    refine ⟨hc, fun p hp hpc hne => ?_⟩
    have := h p (part_mem.mpr hpc)
    unfold wholeP at this
    rw [com_get hp, com_get hc, decide_eq_false hne] at this
    simp at this
    exact this
  · rintro ⟨hc, h⟩
    refine ⟨hc, fun p hp hw => ?_⟩
    have hpc := part_mem.mp hp
    have hp16 : p < 16 := by have := hpc.le; exact Nat.lt_of_le_of_lt (by with_reducible assumption) (by with_reducible assumption)
    unfold wholeP at hw
    rw [com_get hp16, com_get hc, Bool.and_eq_true, Bool.not_eq_true', Bool.not_eq_true', decide_eq_false_iff_not, decide_eq_false_iff_not] at hw
    exact hw.2 (h p hp16 hpc hw.1)
theorem base_iff {c : Nat} (hc : c < 16) : baseC (comN R) (wholeN (comN R)) c = true ↔ cl R c ≠ c ∧ ∀ p, p < c → Sub p c → Quasi R p → cl R p ≠ cl R c := by
  unfold baseC
  rw [com_get hc, part_init, Bool.and_eq_true, Bool.not_eq_true', decide_eq_false_iff_not, List.isEmpty_iff, List.filter_eq_nil_iff]
  refine and_congr Iff.rfl ?_
  constructor
  · intro h p hpc hs hq e
    have := h p (List.mem_filter.mpr ⟨List.mem_range.mpr hpc, decide_eq_true hs⟩)
    unfold baseP at this
    rw [com_get (Nat.lt_trans (by with_reducible assumption) (by with_reducible assumption)), com_get hc, decide_eq_true e, Bool.and_true] at this
    exact this (List.contains_iff_mem.mpr (whole_iff.mpr ⟨by exact Nat.lt_trans (by with_reducible assumption) (by with_reducible assumption), hq⟩))
  · intro h p hp hb
    rw [List.mem_filter, List.mem_range, decide_eq_true_eq] at hp
    unfold baseP at hb
    rw [com_get (by omega), com_get hc, Bool.and_eq_true, decide_eq_true_eq] at hb
    exact h p hp.1 hp.2 (whole_iff.mp (List.contains_iff_mem.mp hb.1)).2 hb.2
theorem rules_base (R : List Nat) : RG R 16 = baseN (comN R) (wholeN (comN R)) := by
  rw [RG_eq]
  unfold baseN
  have e : (wholeN (comN R)).filter (baseC (comN R) (wholeN (comN R))) = (List.range 16).filter (PCb R) := by
    have hw : wholeN (comN R) = (List.range 16).filter fun c => decide (c ∈ wholeN (comN R)) := by
      conv => lhs; unfold wholeN
      apply List.filter_congr
      intro c hc
      rw [Bool.eq_iff_iff, decide_eq_true_eq]
      unfold wholeN
      rw [List.mem_filter]
      exact ⟨fun h => ⟨hc, h⟩, fun h => h.2⟩
    generalize hB : baseC (comN R) (wholeN (comN R)) = B
    rw [hw, List.filter_filter]
    apply List.filter_congr
    intro c hc
    have hc := List.mem_range.mp hc
    rw [Bool.eq_iff_iff, Bool.and_eq_true, decide_eq_true_eq, ← hB, base_iff hc, whole_iff, PC_char hc]
    exact ⟨fun h => ⟨h.1.1, h.2.2, h.1.2⟩, fun h => ⟨⟨h.1, h.2.2⟩, hc, h.2.1⟩⟩
  rw [e]
  apply List.map_congr_left
  intro c hc
  rw [com_get (List.mem_range.mp (List.mem_filter.mp hc).1)]

theorem shown_all {Sh : List Nat} (hI : Inv R Sh) (h : ∀ c, c < 16 → (RG R c).any (blocked c) = false → commonN c Sh 15 = cl R c) : ∀ (k c : Nat), c < 16 → 16 - c ≤ k → commonN c Sh 15 = cl R c
  | 0, c, hc, hk => absurd hc (Nat.not_lt.mpr (Nat.le_of_sub_eq_zero (Nat.le_zero.mp hk)))
  | k + 1, c, hc, hk => by
    cases hb : (RG R c).any (blocked c) with
    | false => exact h c hc hb
    | true =>
      obtain ⟨x, hx, hbx⟩ := List.any_eq_true.mp hb
      obtain ⟨q, b⟩ := x
      obtain ⟨a1, a2, rfl⟩ := RG_mem.mp hx
      unfold blocked at hbx
      dsimp only at hbx
      rw [Bool.and_eq_true, decide_eq_true_eq, Bool.not_eq_true', decide_eq_false_iff_not] at hbx
      obtain ⟨hqc, hnc⟩ := hbx
      have hqc : Sub q c := hqc
      have hd : c ||| cl R q < 16 := Nat.or_lt_two_pow (n := 4) hc (cl_lt q)
      have hcd : Sub c (c ||| cl R q) := by
        unfold Sub
        apply Nat.eq_of_testBit_eq
        intro i
        simp only [Nat.testBit_and, Nat.testBit_or]
        cases c.testBit i <;> simp
      have hbd : Sub (cl R q) (c ||| cl R q) := by
        unfold Sub
        apply Nat.eq_of_testBit_eq
        intro i
        simp only [Nat.testBit_and, Nat.testBit_or]
        cases (cl R q).testBit i <;> simp
      have hne : c ≠ c ||| cl R q := fun e => hnc (by rw [← e] at hbd; exact hbd)
      have ih := shown_all hI h k (c ||| cl R q) hd (Nat.le_of_lt_succ (Nat.lt_of_lt_of_le (Nat.sub_lt_sub_left hc (hcd.lt hne)) hk))
      have hup : ∀ r, Sub c r → Sub (cl R q) r → Sub (c ||| cl R q) r := fun r h1 h2 => by
        unfold Sub at *
        apply Nat.eq_of_testBit_eq
        intro i
        have t1 := congrArg (fun n => n.testBit i) h1
        have t2 := congrArg (fun n => n.testBit i) h2
        simp only [Nat.testBit_and, Nat.testBit_or] at t1 t2 ⊢
        revert t1 t2
        cases c.testBit i <;> cases (cl R q).testBit i <;> cases r.testBit i <;> decide
      have hrow : ∀ r ∈ R, Sub c r → Sub (c ||| cl R q) r := fun r hr hcr => hup r hcr ((cl_iff (cl_lt q)).mp (Sub.refl _) r hr (hqc.trans hcr))
      refine Sub.anti ?_ (told_sub hI c)
      have e1 : Sub (commonN c Sh 15) (commonN (c ||| cl R q) Sh 15) := (com_iff _ _ _ _).mpr ⟨sub_15 (commonN_lt c _ 15 (by decide)), fun s hs hcs => ((com_iff c (commonN c Sh 15) Sh 15).mp (Sub.refl _)).2 s hs (hcd.trans hcs)⟩
      have e2 : Sub (cl R (c ||| cl R q)) (cl R c) := (cl_iff (cl_lt _)).mpr fun r hr hcr => (cl_iff (cl_lt _)).mp (Sub.refl _) r hr (hrow r hr hcr)
      rw [ih] at e1
      exact e1.trans e2
theorem exGo_len (bk : List (Nat × List Nat)) : ∀ (cs : List Nat) (Rl : List (Nat × Nat)) (Sh : List Nat) (R' : List (Nat × Nat)) (Sh' : List Nat), exGo bk cs Rl Sh = some (R', Sh') → Sh'.length ≤ Sh.length + 8 * cs.length
  | [], Rl, Sh, R', Sh', h => by cases h; simp
  | c :: cs, Rl, Sh, R', Sh', h => by
    unfold exGo exStep at h
    by_cases hb : ((aheadR Rl c).filter (blocked c)).isEmpty = true
    · rw [if_pos hb] at h
      cases hi : inGo bk c 8 Rl Sh with
      | none => rw [hi] at h; cases h
      | some x =>
        obtain ⟨R1, Sh1⟩ := x
        rw [hi] at h
        have h1 := (inGo_len bk c 8 Rl Sh R1 Sh1 hi).2
        have h2 := exGo_len bk cs R1 Sh1 R' Sh' h
        rw [List.length_cons]; omega
    · rw [if_neg hb] at h
      have h2 := exGo_len bk cs Rl Sh R' Sh' h
      rw [List.length_cons]; omega
theorem expl_all {bk : List (Nat × List Nat)} (B : BookOk R bk) (hbl : bk.length < 200) : ∃ Sh : List Nat, exGo bk (List.range 16) [] [] = some (baseN (comN R) (wholeN (comN R)), Sh) ∧ Sh.length < 200 ∧ (∀ i, i < Sh.length → blR (zL Sh) (Sh.getD i 0) Sh.length 0 Sh.length = i ∧ brR (zL Sh) (Sh.getD i 0) Sh.length 0 Sh.length = i + 1) ∧ comN Sh = comN R := by
  obtain ⟨Sh, e, hI, hd⟩ := go_spec B 16 0 [] (by decide) ⟨List.Pairwise.nil, fun s hs => by cases hs⟩ (fun c hc => by omega)
  rw [← List.range_eq_range'] at e
  have e' : exGo bk (List.range 16) [] [] = some (RG R 16, Sh) := e
  rw [rules_base] at e'
  refine ⟨Sh, e', ?_, fun i hi => ?_, ?_⟩
  · have hx := exGo_len bk (List.range 16) [] [] _ _ e'
    simp at hx
    exact Nat.lt_of_le_of_lt (by with_reducible assumption) (by decide)
  · obtain ⟨a1, a2, a3⟩ := bl_at (zL_up hI.up) ((Sh.getD i 0 : Nat) : Int)
    obtain ⟨b1, b2, b3⟩ := br_at (zL_up hI.up) ((Sh.getD i 0 : Nat) : Int)
    rw [zL_len] at a1 a2 a3 b1 b2 b3
    rw [getD_lt hi] at a1 a2 a3 b1 b2 b3 ⊢
    have lt : ∀ {j k : Nat} (hj : j < Sh.length) (hk : k < Sh.length), j < k → Sh[j] < Sh[k] := fun hj hk h => List.pairwise_iff_getElem.mp hI.up _ _ hj hk h
    constructor
    · rcases Nat.lt_trichotomy (blR (zL Sh) (Sh[i] : Nat) Sh.length 0 Sh.length) i with q | q | q
      · have := a3 _ (Nat.le_refl _) (Nat.lt_trans (by with_reducible assumption) (by with_reducible assumption))
        rw [zL_get (Nat.lt_trans (by with_reducible assumption) (by with_reducible assumption))] at this
        have := lt (Nat.lt_trans (by with_reducible assumption) (by with_reducible assumption)) hi q
        omega
      · exact q
      · have := a2 i q
        rw [zL_get hi] at this
        omega
    · rcases Nat.lt_trichotomy (brR (zL Sh) (Sh[i] : Nat) Sh.length 0 Sh.length) (i + 1) with q | q | q
      · have := b3 i (Nat.le_of_lt_succ (by with_reducible assumption)) hi
        rw [zL_get hi] at this
        omega
      · exact q
      · have := b2 (i + 1) q
        rw [zL_get (Nat.lt_of_lt_of_le (by with_reducible assumption) (by with_reducible assumption))] at this
        have := lt hi (show i + 1 < Sh.length by exact Nat.lt_of_lt_of_le (by with_reducible assumption) (by with_reducible assumption)) (by omega)
        omega
  · unfold comN
    apply List.map_congr_left
    intro c hc
    exact shown_all hI (fun c hc => hd c (by with_reducible assumption)) 16 c (List.mem_range.mp hc) (by omega)
end

theorem plain_all (C : List Nat) (h8 : C.length = 8) : Plain C := by
  obtain ⟨sk, s1, s2, s3, s4, s5, s6⟩ := sort_all (rowsN C) (wordsN (C.getD 4 0))
  have hbk : bkN C = sk.map (behind (wordsN (C.getD 4 0))) := s4
  have hR15 : (rowsN C).length = 15 := by simp [rowsN, dueN]
  have hbl : (bkN C).length = 15 := by unfold bkN; rw [bookN_length]; simp
  have B : BookOk (rowsN C) (bkN C) := by
    refine ⟨?_, fun p hp => ?_, fun r hr => ?_⟩
    · rw [hbk, List.map_map]
      show (sk.map fun p => (p.1 : Int)).Pairwise (· ≤ ·)
      rw [List.pairwise_map]
      refine List.Pairwise.imp_of_mem (fun {a b} ha hb hab => ?_) s5
      have := (kk_lt (by have := s3 a ha; exact Nat.lt_trans (by with_reducible assumption) (by decide)) (by have := s3 b hb; exact Nat.lt_trans (by with_reducible assumption) (by decide))).mp hab
      omega
    · rw [hbk] at hp
      obtain ⟨a, ha, rfl⟩ := List.mem_map.mp hp
      have ha := (s6 a).mp ha
      unfold keysN at ha
      obtain ⟨j, hj, rfl⟩ := List.mem_map.mp ha
      have hj := List.mem_range.mp hj
      show (rowsN C).getD j 0 ∈ rowsN C
      rw [getD_lt (Nat.lt_of_lt_of_le (by with_reducible assumption) (Nat.le_of_eq (Eq.symm (by with_reducible assumption))))]
      exact List.getElem_mem _
    · obtain ⟨j, hj, e⟩ := List.mem_iff_getElem.mp hr
      refine ⟨behind (wordsN (C.getD 4 0)) ((rowsN C).getD j 0, signN j), ?_, ?_⟩
      · rw [hbk]
        refine List.mem_map_of_mem ((s6 _).mpr ?_)
        unfold keysN
        exact List.mem_map.mpr ⟨j, List.mem_range.mpr (Nat.lt_of_lt_of_eq (by with_reducible assumption) (by with_reducible assumption)), rfl⟩
      · show (rowsN C).getD j 0 = r
        rw [getD_lt hj]; exact e
  exact {
    prep := fun w hw => (prep_all _ _ w hw).1
    same := fun w hw => (prep_all _ _ w hw).2
    ell := fun k _ => ell_all _ _
    sort := ⟨sk, s1, s2, s3, hbk⟩
    hears := hears_all (Nat.mod_lt _ (by decide)) (Nat.mod_lt _ (by decide)) (Nat.mod_lt _ (by decide))
    expl := expl_all B (Nat.lt_of_le_of_lt (Nat.le_of_eq (by with_reducible assumption)) (by decide)) }
end Mine
set_option maxRecDepth 100000 in
set_option maxHeartbeats 8000000 in
theorem PySem.Challenge.cw_ta0099_03_holds : PySem.Challenge.rw_ta0099_03.Holds := by
  exact holds_law Mine.said_law fun said => Mine.holds_row said Mine.plain_all
