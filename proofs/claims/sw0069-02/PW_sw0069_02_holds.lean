import PyProof.Rows.All
import Wide.All
import OpenK.AllK
import Wide.FinOn
import PySem.Challenge.RW_sw0069_02

open PySem PySem.W PyProof.Rows
namespace Mine
set_option Elab.async false

theorem halt_done {den : Code → Sem Fin} {p : Program} {w : World} {s s' : Shared} {t : Thread} {f : Flow}
    (h : step den p w s t = .halt (.done f) s') : s = s' ∧ through t = true := by
  obtain ⟨heap, gens, drawn, toks, os⟩ := s
  obtain ⟨cur, code, pos, stack⟩ := t
  cases cur with
  | pure fin =>
    cases fin with
    | again c => unfold step at h; cases h
    | done f0 =>
      cases stack with
      | nil =>
        unfold step at h
        dsimp only [PySem.finish] at h
        generalize leftWithCleanup gens = x at h
        cases x <;> (cases h; try exact ⟨rfl, rfl⟩)
      | cons F fs => unfold step at h; cases F <;> cases h
  | raise e =>
    cases stack with
    | nil =>
      unfold step at h
      dsimp only [PySem.finish] at h
      generalize leftWithCleanup gens = x at h
      cases x <;> cases h
    | cons F fs => unfold step at h; cases F <;> cases h
  | finish e =>
    unfold step at h
    dsimp only at h
    generalize leftWithCleanup gens = x at h
    cases x <;> cases h
  | load a q k =>
    unfold step at h
    dsimp only at h
    generalize heap.get? a = x at h
    cases x <;> cases h
  | update a q g k =>
    unfold step at h
    dsimp only at h
    generalize (heap.get? a).isSome = x at h
    cases x <;> cases h
  | choose src n k =>
    unfold step at h
    cases n <;> cases h
  | genState g k =>
    unfold step at h
    dsimp only at h
    generalize gens[g]? = x at h
    cases x <;> cases h
  | resume g r l k =>
    unfold step at h
    dsimp only at h
    generalize gens[g]? = x at h
    cases x with
    | none => cases h
    | some st =>
      cases st with
      | fresh c =>
        cases r with
        | send v => cases v <;> cases h
        | throw e => cases h
      | _ => cases h
  | yield v g l k =>
    unfold step at h
    dsimp only at h
    generalize splitAtGen stack = x at h
    cases x with
    | none => cases h
    | some y => cases h
  | _ => unfold step at h; cases h

theorem run_back {den : Code → Sem Fin} {p : Program} {w : World} {f : Flow} : ∀ (n : Nat) (s : Shared) (t : Thread) (s' : Shared),
    runN den p w n s t = .halted (.done f) s' → ∃ k t', runN den p w k s t = .running s' t' ∧ through t' = true
  | 0, s, t, s', h => by cases h
  | n + 1, s, t, s', h => by
    simp only [runN] at h
    cases hs : step den p w s t with
    | go s₁ t₁ =>
      simp only [hs] at h
      obtain ⟨k, t', hk, ht⟩ := run_back n s₁ t₁ s' h
      exact ⟨k + 1, t', by simp only [runN, hs]; exact hk, ht⟩
    | halt o s₁ =>
      simp only [hs] at h
      cases h
      obtain ⟨rfl, ht⟩ := halt_done hs
      exact ⟨0, t, rfl, ht⟩

theorem halted_one {den : Code → Sem Fin} {p : Program} {w : World} : ∀ (n k : Nat) (s : Shared) (t : Thread) {o o' : Outcome} {s' s'' : Shared},
    runN den p w n s t = .halted o s' → runN den p w k s t = .halted o' s'' → o = o'
  | 0, _, _, _, _, _, _, _, h, _ => by cases h
  | _ + 1, 0, _, _, _, _, _, _, _, h => by cases h
  | n + 1, k + 1, s, t, _, _, _, _, h, h' => by
    simp only [runN] at h h'
    cases hs : step den p w s t with
    | go s₁ t₁ => simp only [hs] at h h'; exact halted_one n k s₁ t₁ h h'
    | halt o s₁ => simp only [hs] at h h'; cases h; cases h'; rfl

theorem runs_through {p : Program} {w : World} {s₀ : Shared} {t : Sem Fin} {P : Shared → Prop} (hreg : s₀.asleep)
    (h : wpAny (model p w) callerA t (fun fin s' => ∃ f, fin = .done f ∧ P s' ∧ s'.gens = #[]) (fun _ _ => False) s₀) :
    ∃ s₁, (∃ n t', schedN (denote table) p w n (.single s₀ ⟨t, .builtin "claim.caller" {}, default, []⟩) = .running (.single s₁ t') ∧ through t' = true) ∧
      P s₁ ∧ s₁.gens = #[] ∧ s₁.heap.life = s₀.heap.life := by
  have hw := wp_of_wpAny_done (R := fun r s' => ((∃ f, r = .ok f) ∧ P s' ∧ s'.gens = #[]) ∧ leftWithCleanup s'.gens = false) caller_in
    (wpAny_mono h (fun fin s' ⟨f, e, hp, hg⟩ => ⟨f, e, ⟨⟨f, rfl⟩, hp, hg⟩, by rw [hg]; simp [leftWithCleanup]⟩) (fun _ _ x => x.elim)) default
  obtain ⟨n, r, s', hn, ⟨⟨f, rfl⟩, hP, hg⟩⟩ := (wp_iff_halts (M := model p w) t (fun r s' => (∃ f, r = .ok f) ∧ P s' ∧ s'.gens = #[]) default s₀).mp hw
  obtain ⟨s'', hr, hf, hc⟩ := runNI_real (denote table) p w hn (outcomeOf_ends _)
  obtain rfl := Shared.eq_of_forget_eq hf hg
  obtain ⟨k, t', hk, ht⟩ := run_back n _ _ _ hr
  have hseq : Sequential (denote table) p w s₀ ⟨t, .builtin "claim.caller" {}, default, []⟩ := ⟨hc, fun k' s' hk' => by
    have := halted_one _ _ _ _ hr hk'
    cases this⟩
  refine ⟨s'', ⟨k, t', ?_, ht⟩, hP, hg, runN_life_running hk⟩
  rw [schedN_eq_runN _ _ _ _ _ hreg hseq, hk]
  rfl
end Mine

open PySem PySem.W PyProof.Rows
namespace Mine
set_option Elab.async false

/- a dict's pairs as they lie: ints and strs with whatever tokens -/
inductive Are : List (Int × Value) → List (Int × Str) → Prop
  | nil : Are [] []
  | cons {k : Int} {v : Str} {t : Tok} {kvs ps} : Are kvs ps → Are ((k, .str v t) :: kvs) ((k, v) :: ps)
theorem Are.append {a b : List (Int × Value)} {p q : List (Int × Str)} (h : Are a p) (h' : Are b q) : Are (a ++ b) (p ++ q) := by
  induction h with
  | nil => exact h'
  | cons _ ih => exact .cons ih
theorem Are.keys {a : List (Int × Value)} {p : List (Int × Str)} (h : Are a p) : a.map (·.1) = p.map (·.1) := by
  induction h with
  | nil => rfl
  | cons _ ih => simp [ih]
theorem Are.length {a : List (Int × Value)} {p : List (Int × Str)} (h : Are a p) : a.length = p.length := by
  have := congrArg List.length h.keys; simpa using this

/- the trees of a display's pair -/
noncomputable def PairIs (M : Model) (t : Sem Value × Sem Value) (p : Int × Str) : Prop :=
  (∀ (A : Around) (E : Value → Shared → Prop) (s : Shared) (Q : Value → Shared → Prop), Q (.int p.1 s.toks) { s with toks := s.toks + 1 } → wpAny M A t.1 Q E s) ∧
  (∀ (A : Around) (E : Value → Shared → Prop) (s : Shared) (Q : Value → Shared → Prop), Q (.str p.2 s.toks) { s with toks := s.toks + 1 } → wpAny M A t.2 Q E s)
inductive PairsAre (M : Model) : List (Sem Value × Sem Value) → List (Int × Str) → Prop
  | nil : PairsAre M [] []
  | cons {t p ts ps} : PairIs M t p → PairsAre M ts ps → PairsAre M (t :: ts) (p :: ps)
theorem PairsAre.append {M : Model} {a b p q} (h : PairsAre M a p) (h' : PairsAre M b q) : PairsAre M (a ++ b) (p ++ q) := by
  induction h with
  | nil => exact h'
  | cons x _ ih => exact .cons x ih
/- all that stood stands -/
structure KeepsAll (h h' : Heap) : Prop where
  sz : h.objs.size ≤ h'.objs.size
  get : ∀ b o, h.get? b = some o → h'.get? b = some o
theorem KeepsAll.refl (h : Heap) : KeepsAll h h := ⟨Nat.le_refl _, fun _ _ e => e⟩
theorem KeepsAll.trans {a b c : Heap} (x : KeepsAll a b) (y : KeepsAll b c) : KeepsAll a c := ⟨Nat.le_trans x.sz y.sz, fun _ _ e => y.get _ _ (x.get _ _ e)⟩
theorem KeepsAll.push (h : Heap) (o : Obj) : KeepsAll h (h.push o) := ⟨by rw [Heap.size_push]; exact Nat.le_succ _, fun _ _ e => Heap.get?_push_of_some _ e⟩
theorem KeepsAll.same {a b c : Heap} {d : Addr} (x : KeepsAll a b) (hd : a.objs.size ≤ d) (hs : Heap.SameBut d b c) : KeepsAll a c :=
  ⟨by rw [hs.1]; exact x.sz, fun _ _ e => (hs.2 _ (Nat.ne_of_lt (Nat.lt_of_lt_of_le (Heap.lt_size e) hd))).trans (x.get _ _ e)⟩

section
variable {prog : Program} {w : World} {A : Around} {E : Value → Shared → Prop} {s : Shared}

theorem dictPut_pairs {d : Addr} {kvs : List (Int × Value)} {k : Int} {key v : Value} {Q : Unit → Shared → Prop} (hkey : (intKind prog w).is k key = true) (hm : s.heap.DictOf (intKind prog w) d kvs)
    (hfresh : k ∉ kvs.map (·.1))
    (hQ : ∀ h', h'.DictOf (intKind prog w) d (kvs ++ [(k, v)]) → Heap.SameBut d s.heap h' → Q () { s with heap := h' })
    (hsz : kvs.length ≤ sizeLine) :
    wpAny (model prog w) A (dictPut d ((intKind prog w).hash k) key v) Q E s := by
  obtain ⟨o, es, ep, ho, hc, hd, hk, hp, hn⟩ := hm
  have hes : es.size ≤ sizeLine := by have e1 := hp.length; have e2 : es.toList.length = es.size := by simp
                                      omega
  unfold dictPut
  refine wpAny_bind (wpAny_dictFind_of hkey ho hd hk ?_)
  have hidx : (es.findIdx? fun e => (intKind prog w).is k e.key) = kvs.findIdx? fun kv => decide (kv.1 = k) := by
    rw [← hp.findIdx k]; obtain ⟨l⟩ := es; simp
  cases hi : es.findIdx? fun e => (intKind prog w).is k e.key with
  | some i =>
    exfalso
    have hi' := hidx ▸ hi
    obtain ⟨hlt, hpj, _⟩ := List.findIdx?_eq_some_iff_getElem.mp hi'
    exact hfresh (List.mem_map.mpr ⟨kvs[i], List.getElem_mem hlt, of_decide_eq_true hpj⟩)
  | none =>
    refine wpAny_updateDictKeys (hz := hes) ho hd (hQ _ ⟨_, _, ep + 1, Heap.get?_update_self _ ho (Obj.isFreed_of_dict (Obj.data_mapDictKeys hd _)),
      hc.mapDictKeys _, Obj.data_mapDictKeys hd _, hk.push hkey _, ?_, ?_⟩ (Heap.SameBut.update ..))
    · have := hp.append hkey ((intKind prog w).hash k) v
      obtain ⟨l⟩ := es
      simpa using this
    · rw [List.map_append, List.nodup_append]
      refine ⟨hn, by simp, ?_⟩
      intro a ha b hb
      simp only [List.map_cons, List.map_nil, List.mem_singleton] at hb
      subst hb
      exact fun e => hfresh (e ▸ ha)

theorem stored_fresh {kvs : List (Int × Value)} {k : Int} {v : Value} (h : k ∉ kvs.map (·.1)) : stored kvs k v = kvs ++ [(k, v)] := by
  unfold stored
  rw [if_neg]
  rw [List.any_eq_true]; rintro ⟨kv, hkv, he⟩
  exact h (List.mem_map.mpr ⟨kv, hkv, of_decide_eq_true he⟩)

theorem nodup_mid {a b : List Int} {k : Int} (h : (a ++ k :: b).Nodup) : k ∉ a := by
  rw [List.nodup_append] at h
  exact fun hk => h.2.2 k hk k (.head _) rfl

/- the long sub-dict's loop -/
theorem fill_long {d : Addr} {ts : List (Sem Value × Sem Value)} {ps : List (Int × Str)} (hx : PairsAre (model prog w) ts ps) : ∀ (aps : List (Int × Str)) (acc : List (Int × Value)) (s : Shared) (Q : PUnit → Shared → Prop),
    Are acc aps → ((aps ++ ps).map (·.1)).Nodup → s.heap.DictOf (intKind prog w) d acc → (aps ++ ps).length ≤ sizeLine →
    (∀ h' tk kvs, Are kvs (aps ++ ps) → h'.DictOf (intKind prog w) d kvs → Heap.SameBut d s.heap h' → Q PUnit.unit { s with heap := h', toks := tk }) →
    wpAny (model prog w) A (forIn ts PUnit.unit fun (x : Sem Value × Sem Value) (_ : PUnit) => (do
        let kv ← x.1
        let vv ← holding [kv] x.2
        holding [kv, vv] (dictSet d kv vv)
        pure (ForInStep.yield PUnit.unit) : Sem (ForInStep PUnit))) Q E s := by
  induction hx with
  | nil =>
    intro aps acc s Q ha _ hm _ hQ
    rw [List.forIn_nil]
    exact wpAny_pure (by simpa using hQ s.heap s.toks acc (by simpa using ha) hm (Heap.SameBut.refl _ _))
  | cons hx hr ih =>
    rename_i t p ts ps
    obtain ⟨k, v⟩ := p
    intro aps acc s Q ha hn hm hz hQ
    rw [List.forIn_cons]
    refine wpAny_bind (wpAny_bind (hx.1 _ _ _ _ (wpAny_bind (wpAny_holding (hx.2 _ _ _ _ (wpAny_bind (wpAny_holding ?_)))))))
    have hfresh : k ∉ acc.map (·.1) := by
      rw [ha.keys]
      rw [List.map_append, List.map_cons] at hn
      exact nodup_mid hn
    have hle : acc.length ≤ sizeLine := by
      have := ha.length
      simp only [List.length_append, List.length_cons] at hz
      omega
    refine wpAny_dictSet_pairs (knd := intKind prog w) (k := k) (hsz := hle) (intKind_is _ _ _ _) hm fun h₁ hm₁ hs₁ => wpAny_pure ?_
    rw [stored_fresh hfresh] at hm₁
    refine ih (aps ++ [(k, v)]) _ _ Q (ha.append (.cons .nil)) (by simpa using hn) hm₁ (by simpa using hz) fun h' tk kvs hk hm' hs' => ?_
    exact hQ h' tk kvs (by simpa using hk) hm' (hs₁.trans hs')

theorem pairs_all {ts : List (Sem Value × Sem Value)} {ps : List (Int × Str)} (hx : PairsAre (model prog w) ts ps) : ∀ (s : Shared) (Q : List (Value × Value) → Shared → Prop),
    (∀ vs tk kvs, Are kvs ps → Carries (intKind prog w) vs kvs → Q vs { s with toks := tk }) → wpAny (model prog w) A (evalPairs ts) Q E s := by
  induction hx with
  | nil =>
    intro s Q hQ
    exact evalPairs_nil (by simpa using hQ [] s.toks [] .nil trivial)
  | cons hx hr ih =>
    rename_i t p ts ps
    obtain ⟨k, v⟩ := p
    intro s Q hQ
    exact evalPairs_cons (hx.1 _ _ _ _ (hx.2 _ _ _ _ (ih _ _ fun vs tk kvs ha hc =>
      hQ _ tk ((k, .str v _) :: kvs) (.cons ha) ⟨intKind_is _ _ _ _, rfl, hc⟩)))

theorem subDict_are {ts : List (Sem Value × Sem Value)} {ps : List (Int × Str)} {Q : Addr → Shared → Prop} (hx : PairsAre (model prog w) ts ps) (hn : (ps.map (·.1)).Nodup) (hz : ps.length ≤ sizeLine)
    (hQ : ∀ h' tk kvs, Are kvs ps → h'.DictOf (intKind prog w) s.heap.objs.size kvs → KeepsAll s.heap h' → Q s.heap.objs.size { s with heap := h', toks := tk }) :
    wpAny (model prog w) A (subDict ts) Q E s := by
  unfold subDict
  refine wpAny_bind (wpAny_alloc ?_)
  have hd : (s.heap.push { cls := .type "dict", data := .dict #[] }).DictOf (intKind prog w) s.heap.objs.size [] := .new s.heap
  have kk : ∀ h', Heap.SameBut s.heap.objs.size (s.heap.push { cls := .type "dict", data := .dict #[] }) h' → KeepsAll s.heap h' := fun h' hs =>
    (KeepsAll.push _ _).same (Nat.le_refl _) hs
  refine wpAny_bind (wpAny_holding ?_)
  split
  · refine wpAny_bind (pairs_all hx _ _ fun vs tk kvs ha hc => wpAny_holding ?_)
    refine wpAny_bind (wpAny_storeAll (knd := intKind prog w) vs kvs [] _ _ hc hd (by rw [List.length_nil, ha.length]; omega) fun h' hm hs => wpAny_pure (wpAny_pure ?_))
    rw [merged_nil_of_nodup _ (by rw [ha.keys]; exact hn)] at hm
    exact hQ _ _ kvs ha hm (kk _ hs)
  · refine wpAny_bind (wpAny_rule ?_)
    refine wpAny_bind (fill_long hx [] [] _ _ .nil hn hd hz fun h' tk kvs hk hm hs => wpAny_pure (wpAny_pure ?_))
    exact hQ _ _ kvs hk hm (kk _ hs)

theorem sub_dict_self : isSubtype (.type "dict") (.type "dict") = pure true := by rw [isSubtype_type]; kernel_rfl

theorem merge_are {d a : Addr} {acc more : List (Int × Value)} {Q : Unit → Shared → Prop} (hda : d ≠ a) (haS : (a == sysModules) = false)
    (hd : s.heap.DictOf (intKind prog w) d acc) (ho : s.heap.DictOf (intKind prog w) a more) (hne : acc ≠ []) (hn : ((acc ++ more).map (·.1)).Nodup) (hz : acc.length + more.length ≤ sizeLine)
    (hQ : ∀ h', h'.DictOf (intKind prog w) d (acc ++ more) → Heap.SameBut d s.heap h' → Q () { s with heap := h' }) :
    wpAny (model prog w) A (mergeMapping d (.ref a) false) Q E s := by
  obtain ⟨od, esd, epd, hod, hcd, hdd, hkd, hpd, hnd⟩ := id hd
  obtain ⟨oo, eso, epo, hoo, hco, hdo', hko, hpo, hno⟩ := id ho
  have hlen : more.length = eso.size := by rw [← hpo.length]; simp
  have hT : s.TypeIs (.ref a) "dict" := ⟨oo, hoo, hco.1⟩
  unfold mergeMapping
  dsimp only
  refine wpAny_bind (wpAny_isInstance hT sub_dict_self ?_)
  rw [if_pos rfl]
  refine wpAny_bind (wpAny_specialOf hT F.slot_dict_iter.lookup ?_)
  refine wpAny_bind (wpAny_pure ?_)
  rw [show ((some (Value.builtin "dict.__iter__") == some (Value.builtin "dict.__iter__"))) = true from by decide +kernel]
  dsimp only
  rw [if_neg (by rw [haS]; exact Bool.false_ne_true)]
  refine wpAny_bind (wpAny_dictEntries hod hdd ?_)
  have hnemp : esd.isEmpty = false := by
    cases hq : esd.isEmpty with
    | false => rfl
    | true =>
      have h0 : esd = #[] := Array.isEmpty_iff.mp hq
      have := hpd.length; rw [h0] at this
      exact absurd (List.length_eq_zero_iff.mp (by simpa using this.symm)) hne
  rw [hnemp]
  simp only [Bool.false_eq_true, if_false]
  refine wpAny_bind (wpAny_dictEntries hoo hdo' ?_)
  refine wpAny_bind (wpAny_dictEpoch hoo hdo' ?_)
  refine wpAny_bind ?_
  rw [List.range_eq_range']
  refine wpAny_forIn_list _
      (fun rest _ s' => ∃ h' i, s' = { s with heap := h' } ∧ rest = List.range' i (eso.size - i) ∧ i ≤ eso.size ∧ h'.DictOf (intKind prog w) d (acc ++ more.take i) ∧ h'.get? a = some oo ∧ Heap.SameBut d s.heap h')
      _ ?_ ?_ _ _ ⟨s.heap, 0, rfl, by simp, Nat.zero_le _, by simpa using hd, hoo, Heap.SameBut.refl _ _⟩
  · rintro x rest b s' ⟨h', i, rfl, hr, hi, hd', hoo', hs'⟩
    have hlt : i < eso.size := by
      rcases Nat.lt_or_ge i eso.size with h | h
      · exact h
      · rw [Nat.sub_eq_zero_of_le h] at hr; simp at hr
    obtain ⟨rfl, hrest⟩ : x = i ∧ rest = List.range' (i + 1) (eso.size - (i + 1)) := by
      have e : eso.size - i = (eso.size - (i + 1)) + 1 := by omega
      rw [e, List.range'_succ] at hr
      injection hr with h1 h2
      exact ⟨h1, h2⟩
    refine wpAny_bind (wpAny_dictEntries hoo' hdo' ?_)
    rw [Array.getElem?_eq_getElem hlt]
    have hltm : x < more.length := by rw [hlen]; exact hlt
    obtain ⟨kv, hkv⟩ : ∃ kv, more[x]? = some kv := ⟨more[x], List.getElem?_eq_getElem _⟩
    obtain ⟨k, v⟩ := kv
    obtain ⟨hkey, hval⟩ := hpo.get? (e := eso[x]) (by simp [hlt]) hkv
    obtain ⟨k', hkey', hhash⟩ := hko eso[x] (Array.getElem_mem hlt)
    obtain rfl : k' = k := (intKind prog w).inj _ _ _ hkey' hkey
    dsimp only
    have htk : more.take (x + 1) = more.take x ++ [(k', v)] := by
      rw [List.take_add_one, hkv]; rfl
    have hfresh : k' ∉ (acc ++ more.take x).map (·.1) := by
      have : acc ++ more = (acc ++ more.take x) ++ (k', v) :: more.drop (x + 1) := by
        conv => lhs; rw [← List.take_append_drop x more]
        rw [List.append_assoc]
        congr 2
        rw [List.getElem?_eq_getElem hltm] at hkv
        rw [List.drop_eq_getElem_cons hltm, Option.some.inj hkv]
      rw [this, List.map_append, List.map_cons] at hn
      exact nodup_mid hn
    refine wpAny_bind (wpAny_holding ?_)
    try simp only [Bool.false_eq_true, if_false]
    rw [hhash, hval]
    refine dictPut_pairs hkey hd' hfresh (fun h'' hd'' hs'' => ?_) (by simp only [List.length_append, List.length_take]; omega)
    have hoo'' : h''.get? a = some oo := (hs''.2 a (Ne.symm hda)).trans hoo'
    refine wpAny_bind (wpAny_dictEpoch hoo'' hdo' ?_)
    rw [if_neg (by simp)]
    exact wpAny_pure ⟨h'', x + 1, rfl, hrest, hlt, by rw [htk, ← List.append_assoc]; exact hd'', hoo'', hs'.trans hs''⟩
  · rintro b s' ⟨h', i, rfl, hr, hi, hd', hoo', hs'⟩
    have hin : i = eso.size := by
      rcases Nat.lt_or_ge i eso.size with h | h
      · have e : eso.size - i = (eso.size - (i + 1)) + 1 := by omega
        rw [e, List.range'_succ] at hr; exact nomatch hr
      · exact Nat.le_antisymm hi h
    refine wpAny_pure (hQ h' ?_ hs')
    rw [hin, ← hlen, List.take_length] at hd'; exact hd'

/- the whole display: its state is the dict so far and the run in hand -/
noncomputable def DispSt (prog : Program) (w : World) (s₀ s' : Shared) (main : Option Addr) (aps : List (Int × Str)) : Prop :=
  ∃ h' tk, s' = { s₀ with heap := h', toks := tk } ∧ KeepsAll s₀.heap h' ∧
    ((main = none ∧ aps = []) ∨ ∃ d kvs, main = some d ∧ s₀.heap.objs.size ≤ d ∧ Are kvs aps ∧ aps ≠ [] ∧ h'.DictOf (intKind prog w) d kvs)

theorem flush_are {s₀ : Shared} {main : Option Addr} {aps rps : List (Int × Str)} {run : List (Sem Value × Sem Value)} {Q : Option Addr → Shared → Prop}
    (hS : DispSt prog w s₀ s main aps) (hr : PairsAre (model prog w) run rps) (hn : ((aps ++ rps).map (·.1)).Nodup) (hz : (aps ++ rps).length ≤ sizeLine) (hlow : sysModules < s.heap.objs.size)
    (hQ : ∀ main' s', DispSt prog w s₀ s' main' (aps ++ rps) → Q main' s') :
    wpAny (model prog w) A (do
      if run.isEmpty then return main
      match main with
      | none => return some (← subDict run)
      | some d =>
        let sub ← holding [.ref d] (subDict run)
        (holding [.ref d, .ref sub] (mergeMapping d (.ref sub) false)).onRaise fun x => do let _ ← holding [.ref d, x] (runValue (.builtin "proto.let_go" {}))
        return some d : Sem (Option Addr)) Q E s := by
  obtain ⟨h', tk, rfl, hk, hc⟩ := hS
  cases hr with
  | nil =>
    simp only [List.isEmpty_nil, if_true]
    exact wpAny_pure (hQ _ _ ⟨h', tk, rfl, hk, by simpa using hc⟩)
  | cons hp hr =>
    rename_i t p ts ps
    simp only [List.isEmpty_cons, Bool.false_eq_true, if_false]
    have hn2 : ((p :: ps).map (·.1)).Nodup := by rw [List.map_append, List.nodup_append] at hn; exact hn.2.1
    have hz2 : (p :: ps).length ≤ sizeLine := by rw [List.length_append] at hz; omega
    have hfresh : s₀.heap.objs.size ≤ h'.objs.size := hk.sz
    rcases hc with ⟨rfl, rfl⟩ | ⟨d, kvs, rfl, hd0, ha, hne, hd⟩
    · dsimp only
      refine wpAny_bind (subDict_are (.cons hp hr) hn2 hz2 fun h2 tk2 kvs2 ha2 hm2 hk2 => wpAny_pure (hQ _ _ ⟨h2, tk2, rfl, hk.trans hk2, .inr ⟨_, kvs2, rfl, hfresh, by simpa using ha2, by simp, hm2⟩⟩))
    · dsimp only
      refine wpAny_bind (wpAny_holding (subDict_are (.cons hp hr) hn2 hz2 fun h2 tk2 kvs2 ha2 hm2 hk2 => ?_))
      obtain ⟨o, es, ep, ho, r⟩ := hd
      have hdne : d ≠ h'.objs.size := Nat.ne_of_lt (Heap.lt_size ho)
      have hd2 : h2.DictOf (intKind prog w) d kvs := ⟨o, es, ep, hk2.get _ _ ho, r⟩
      have hkn : kvs ≠ [] := by
        intro e; subst e
        cases ha
        exact hne rfl
      refine wpAny_bind (wpAny_onRaise (wpAny_holding (merge_are hdne (by simpa using Nat.ne_of_gt hlow) hd2 hm2 hkn ?_ ?_ fun h3 hd3 hs3 => ?_)))
      · rw [(ha.append ha2).keys]; exact hn
      · have e1 := ha.length; have e2 := ha2.length
        rw [List.length_append] at hz; omega
      · exact wpAny_pure (hQ _ _ ⟨h3, tk2, rfl, (hk.trans hk2).same hd0 hs3, .inr ⟨d, _, rfl, hd0, ha.append ha2, by simp, hd3⟩⟩)

theorem DispSt.low {s₀ s' : Shared} {main : Option Addr} {aps : List (Int × Str)} (h : DispSt prog w s₀ s' main aps) (hlow : ∃ o, s₀.heap.get? sysModules = some o) : sysModules < s'.heap.objs.size := by
  obtain ⟨h', tk, rfl, hk, _⟩ := h
  obtain ⟨o, ho⟩ := hlow
  exact Heap.lt_size (hk.get _ _ ho)

theorem display_are {ts : List (Sem Value × Sem Value)} {ps : List (Int × Str)} {Q : Value → Shared → Prop} (hx : PairsAre (model prog w) ts ps) (hn : (ps.map (·.1)).Nodup) (hz : ps.length ≤ sizeLine) (hne : ps ≠ [])
    (hlow : ∃ o, s.heap.get? sysModules = some o)
    (hQ : ∀ d h' tk kvs, Are kvs ps → h'.DictOf (intKind prog w) d kvs → KeepsAll s.heap h' → s.heap.objs.size ≤ d → Q (.ref d) { s with heap := h', toks := tk }) :
    wpAny (model prog w) A (dictDisplay (ts.map fun p => (some p.1, p.2))) Q E s := by
  unfold dictDisplay
  dsimp only
  refine wpAny_bind ?_
  refine wpAny_forIn_list _
      (fun rest st s' => ∃ tsr psr aps rps, rest = (tsr.map fun p => (some p.1, p.2)) ∧ PairsAre (model prog w) tsr psr ∧ PairsAre (model prog w) st.2 rps ∧ st.2.length < 17 ∧ DispSt prog w s s' st.1 aps ∧ aps ++ rps ++ psr = ps)
      _ ?_ ?_ _ _ ⟨ts, ps, [], [], rfl, hx, .nil, by decide, ⟨s.heap, s.toks, rfl, KeepsAll.refl _, .inl ⟨rfl, rfl⟩⟩, by simp⟩
  · rintro ⟨k, v⟩ rest ⟨main, run⟩ s' ⟨tsr, psr, aps, rps, hr, hp, hrun, hlt, hS, he⟩
    dsimp only at hrun hlt hS
    cases hp with
    | nil => cases hr
    | cons hp hps =>
      rename_i t p tsr psr
      simp only [List.map_cons, List.cons.injEq, Prod.mk.injEq] at hr
      obtain ⟨⟨rfl, rfl⟩, rfl⟩ := hr
      dsimp only
      have hrun2 : PairsAre (model prog w) (run ++ [(t.1, t.2)]) (rps ++ [p]) := hrun.append (.cons hp .nil)
      split
      · have hsub : aps ++ (rps ++ [p]) ++ psr = ps := by rw [← he]; simp
        refine wpAny_bind (flush_are hS hrun2 ?_ ?_ (hS.low hlow) fun main' s'' hS' => wpAny_pure ⟨tsr, psr, aps ++ (rps ++ [p]), [], rfl, hps, .nil, Nat.zero_lt_succ _, hS', by rw [← hsub]; simp⟩)
        · rw [← hsub, List.map_append, List.nodup_append] at hn; exact hn.1
        · have := congrArg List.length hsub; rw [List.length_append] at this; omega
      · rename_i hl
        have hl' : (run ++ [(t.1, t.2)]).length ≠ 17 := by simpa using hl
        refine wpAny_pure ⟨tsr, psr, aps, rps ++ [p], rfl, hps, hrun2, ?_, hS, by rw [← he]; simp⟩
        rw [List.length_append, List.length_singleton] at hl'
        show (run ++ [(t.1, t.2)]).length < 17
        rw [List.length_append, List.length_singleton]
        omega
  · rintro ⟨main, run⟩ s' ⟨tsr, psr, aps, rps, hr, hp, hrun, hlt, hS, he⟩
    dsimp only at hrun hlt hS
    cases hp with
    | cons hp hps => cases hr
    | nil =>
      rw [List.append_nil] at he
      dsimp only
      refine wpAny_bind (flush_are hS hrun (by rw [he]; exact hn) (by rw [he]; exact hz) (hS.low hlow) fun main' s'' hS' => ?_)
      obtain ⟨h', tk, rfl, hk, ⟨_, h0⟩ | ⟨d, kvs, rfl, hd0, ha, _, hd⟩⟩ := hS'
      · exact absurd (he ▸ h0) hne
      · exact wpAny_pure (hQ d h' tk kvs (he ▸ ha) hd hk hd0)

/- a written int, a written str -/
noncomputable def intLit : PySem.Expr → Option (Int × Nat × Pos)
  | .Constant c n p => match c with
    | .int k => some (k, n, p)
    | _ => none
  | _ => none
noncomputable def strLit : PySem.Expr → Option (Str × Nat × Pos)
  | .Constant c n p => match c with
    | .str k => some (k, n, p)
    | _ => none
  | _ => none
theorem intLit_eq {e : PySem.Expr} {x : Int × Nat × Pos} (h : intLit e = some x) : e = .Constant (.int x.1) x.2.1 x.2.2 := by
  cases e with
  | Constant c n p => cases c <;> cases h; rfl
  | _ => cases h
theorem strLit_eq {e : PySem.Expr} {x : Str × Nat × Pos} (h : strLit e = some x) : e = .Constant (.str x.1) x.2.1 x.2.2 := by
  cases e with
  | Constant c n p => cases c <;> cases h; rfl
  | _ => cases h

/- the pairs that a display of written ints and strs bears -/
noncomputable def constPairs : List (Option PySem.Expr) → List PySem.Expr → Option (List (Int × Str))
  | [], [] => some []
  | k :: ks, v :: vs => (k.bind intLit).bind fun i => (strLit v).bind fun x => (constPairs ks vs).map ((i.1, x.1) :: ·)
  | _, _ => none

theorem constPairs_are (env : Env) (pos : Pos) : ∀ (ks : List (Option PySem.Expr)) (vs : List PySem.Expr) (ps : List (Int × Str)), constPairs ks vs = some ps →
    ∃ ts, (evalEachOpt ks env).zip ((evalEach vs env).map fun v => do let x ← v; standAt pos; pure x) = ts.map (fun p => (some p.1, p.2)) ∧ PairsAre (model prog w) ts ps
  | [], [], ps, h => by
    cases h
    exact ⟨[], rfl, .nil⟩
  | [], _ :: _, _, h => nomatch h
  | _ :: _, [], _, h => nomatch h
  | k :: ks, v :: vs, ps, h => by
    have h : (k.bind intLit).bind (fun i => (strLit v).bind fun x => (constPairs ks vs).map ((i.1, x.1) :: ·)) = some ps := h
    obtain ⟨i, hi, h⟩ := Option.bind_eq_some_iff.mp h
    obtain ⟨x, hx, h⟩ := Option.bind_eq_some_iff.mp h
    obtain ⟨ps', h', rfl⟩ := Option.map_eq_some_iff.mp h
    obtain ⟨e0, rfl, hi⟩ := Option.bind_eq_some_iff.mp hi
    have e1 := intLit_eq hi
    have e2 := strLit_eq hx
    subst e1
    subst e2
    obtain ⟨ts, e, hp⟩ := constPairs_are env pos ks vs ps' h'
    refine ⟨(eval (.Constant (.int i.1) i.2.1 i.2.2) env, do let y ← eval (.Constant (.str x.1) x.2.1 x.2.2) env; standAt pos; pure y) :: ts, ?_, .cons ⟨fun A E s Q q => wpAny_Constant_int (i := i.1) (k := i.2.1) (pos := i.2.2) (env := env) q, fun A E s Q q => wpAny_bind (wpAny_Constant_str (x := x.1) (k := x.2.1) (pos := x.2.2) (env := env) (wpAny_bind (wpAny_standAt (wpAny_pure q))))⟩ hp⟩
    rw [List.map_cons, ← e]
    rfl

theorem eval_Dict_are {env : Env} {ks : List (Option PySem.Expr)} {vs : List PySem.Expr} {pos : Pos} {ps : List (Int × Str)} {Q : Value → Shared → Prop} (hc : constPairs ks vs = some ps) (hn : (ps.map (·.1)).Nodup) (hz : ps.length ≤ sizeLine) (hne : ps ≠ [])
    (hlow : ∃ o, s.heap.get? sysModules = some o)
    (hQ : ∀ d h' tk kvs, Are kvs ps → h'.DictOf (intKind prog w) d kvs → KeepsAll s.heap h' → s.heap.objs.size ≤ d → Q (.ref d) { s with heap := h', toks := tk }) :
    wpAny (model prog w) A (eval (.Dict ks vs pos) env) Q E s := by
  obtain ⟨ts, e, hp⟩ := constPairs_are (prog := prog) (w := w) env pos ks vs ps hc
  rw [arm_eval_Dict, e]
  exact wpAny_bind (wpAny_standAt (display_are hp hn hz hne hlow hQ))
end
end Mine

open PySem PySem.W PyProof.Rows
namespace Mine
set_option Elab.async false

noncomputable def Lst (h : Heap) (l : Addr) (items : Array Value) : Prop := ∃ n, IsL h l items n
theorem Lst.isList {h : Heap} {l : Addr} {items : Array Value} (x : Lst h l items) : h.IsList l items := let ⟨_, x⟩ := x; x.isList
theorem Lst.new (h : Heap) (items : Array Value) : Lst (h.push { cls := .type "list", data := .seq items }) h.objs.size items := ⟨0, IsL.new h items⟩
inductive IntElts : List PySem.Expr → List Int → Prop
  | nil : IntElts [] []
  | cons (k : Int) (c : Nat) (p : Pos) {es : List PySem.Expr} {ns : List Int} : IntElts es ns → IntElts (.Constant (.int k) c p :: es) (k :: ns)

theorem intsAre_of_items : ∀ (l : List Value) (f : Nat → Int), (∀ (j : Nat) (v : Value), l[j]? = some v → ∃ t, v = .int (f j) t) → IntsAre l ((List.range l.length).map f)
  | [], f, _ => .nil
  | x :: r, f, h => by
    obtain ⟨t, rfl⟩ := h 0 x rfl
    rw [List.length_cons, List.range_succ_eq_map, List.map_cons, List.map_map]
    exact .cons _ t (intsAre_of_items r (f ∘ Nat.succ) fun j v hv => h (j + 1) v (by simpa using hv))

section
variable {prog : Program} {w : World} {A : Around} {E : Value → Shared → Prop} {s : Shared} {env : Env}

theorem items_ints (pos : Pos) {es : List PySem.Expr} {ns : List Int} (h : IntElts es ns) : ∀ (s : Shared) (Q : List Value → Shared → Prop),
    (∀ vs tk, IntsAre vs ns → Q vs { s with toks := tk }) → wpAny (model prog w) A (spliced (backTo pos (starEach es env))) Q E s := by
  induction h with
  | nil =>
    intro s Q hQ
    exact wpAny_items_nil (by simpa using hQ [] s.toks .nil)
  | cons k c p h ih =>
    intro s Q hQ
    exact wpAny_items_cons (wpAny_Constant_int (ih _ _ fun vs tk hv => hQ _ tk (.cons k _ hv)))

theorem eval_List_ints {es : List PySem.Expr} {ns : List Int} {pos : Pos} {Q : Value → Shared → Prop} (h : IntElts es ns) (hz : ns.length ≤ sizeLine)
    (hQ : ∀ vs tk, IntsAre vs ns → Q (.ref s.heap.objs.size) { s with heap := s.heap.push { cls := .type "list", data := .seq vs.toArray }, toks := tk }) :
    wpAny (model prog w) A (eval (.List es pos) env) Q E s :=
  wpAny_List (items_ints pos h s _ fun vs tk hv => ⟨by rw [hv.length]; exact hz, hQ vs tk hv⟩)

/- a name's value, wherever the heap has grown to -/
noncomputable def NameIs (M : Model) (A : Around) (env : Env) (x : Str) (v : Value) (h₀ : Heap) : Prop :=
  ∀ (E : Value → Shared → Prop) (s : Shared) (pos : Pos) (Q : Value → Shared → Prop), KeepsAll h₀ s.heap → Q v s → wpAny M A (eval (.Name x pos) env) Q E s

theorem eval_list_range {a b : Int} {p1 p2 p3 p4 p5 p6 : Pos} {k1 k2 : Nat} {Q : Value → Shared → Prop} (hl : NameIs (model prog w) A env "list" (.type "list") s.heap) (hr : NameIs (model prog w) A env "range" (.type "range") s.heap)
    (hh : A.handled = none) (ha : -(2 ^ 62) ≤ a) (ha' : a < 2 ^ 62) (hb : -(2 ^ 62) ≤ b) (hb' : b < 2 ^ 62) (hab : a ≤ b) (hz : (b - a).toNat ≤ 2 ^ 24)
    (hQ : ∀ h' tk l vs, KeepsAll s.heap h' → s.heap.objs.size ≤ l → Lst h' l vs → IntsAre vs.toList ((List.range (b - a).toNat).map fun (i : Nat) => a + (i : Int) * 1) → Q (.ref l) { s with heap := h', toks := tk }) :
    wpAny (model prog w) A (eval (.Call (.Name "list" p1) [.Call (.Name "range" p2) [.Constant (.int a) k1 p3, .Constant (.int b) k2 p4] [] p5] [] p6) env) Q E s := by
  refine Call_ (hl _ _ _ _ (KeepsAll.refl _) ?_)
  refine PyProof.Rows.callWith_type1 ?_
  refine wpAny_items_cons ?_
  refine Call_ (hr _ _ _ _ (KeepsAll.refl _) ?_)
  refine PyProof.Rows.callWith_type1 ?_
  refine wpAny_items_cons (wpAny_Constant_int ?_)
  refine wpAny_items_cons (wpAny_Constant_int ?_)
  refine wpAny_items_nil ?_
  refine call_range_2 ?_
  refine wpAny_items_nil ?_
  have hn : Builtin.Range.rangeSize a b 1 = ((b - a).toNat : Int) := by
    rw [rangeSize_one]
    split <;> omega
  refine call_list_range hh (IsRange.new _ a b 1 _ _ _) (small_one ha ha' hb hb') hn hz fun h' tk acc c' hk hS hI => ?_
  have hk' : KeepsAll s.heap h' := (KeepsAll.push _ _).trans ⟨Nat.le_of_lt (Heap.lt_size hS), hk⟩
  refine hQ h' tk _ acc hk' (KeepsAll.push _ _).sz ⟨c', hS⟩ ?_
  have := intsAre_of_items acc.toList (fun i => a + (i : Int) * 1) fun j v hv => hI.2 j v (by simpa using hv)
  rw [Array.length_toList, hI.1] at this
  exact this

/- [ints] + list(range(a, b)) -/
theorem eval_ints_range {es : List PySem.Expr} {ns : List Int} {a b : Int} {p0 p1 p2 p3 p4 p5 p6 p7 : Pos} {k1 k2 : Nat} {Q : Value → Shared → Prop} (h : IntElts es ns)
    (hl : NameIs (model prog w) A env "list" (.type "list") s.heap) (hr : NameIs (model prog w) A env "range" (.type "range") s.heap)
    (hh : A.handled = none) (ha : -(2 ^ 62) ≤ a) (ha' : a < 2 ^ 62) (hb : -(2 ^ 62) ≤ b) (hb' : b < 2 ^ 62) (hab : a ≤ b) (hz : ns.length + (b - a).toNat ≤ 4000)
    (hQ : ∀ h' tk l vs, KeepsAll s.heap h' → s.heap.objs.size ≤ l → Lst h' l vs → IntsAre vs.toList (ns ++ (List.range (b - a).toNat).map fun (i : Nat) => a + (i : Int) * 1) → Q (.ref l) { s with heap := h', toks := tk }) :
    wpAny (model prog w) A (eval (.BinOp (.List es p0) .Add (.Call (.Name "list" p1) [.Call (.Name "range" p2) [.Constant (.int a) k1 p3, .Constant (.int b) k2 p4] [] p5] [] p6) p7) env) Q E s := by
  have hsl : sizeLine = 2 ^ 24 := rfl
  refine wpAny_BinOp (eval_List_ints h (by omega) fun us tk hu => ?_)
  have k0 := KeepsAll.push s.heap { cls := .type "list", data := .seq us.toArray }
  refine eval_list_range (fun E s' pos Q k q => hl E s' pos Q (k0.trans k) q) (fun E s' pos Q k q => hr E s' pos Q (k0.trans k) q) hh ha ha' hb hb' hab (by omega) fun h' tk' l vs hk hnone hL hI => ?_
  obtain ⟨n, hL⟩ := hL
  have hU := hk.get _ _ (IsL.new s.heap us.toArray)
  have hzz : us.toArray.size + vs.size ≤ sizeLine := by
    have e1 := hu.length
    have e2 := hI.length
    rw [List.size_toArray, e1]
    rw [Array.length_toList, List.length_map, List.length_range] at e2
    omega
  refine P.add_list hU hL ?_ hzz
  have hk' : KeepsAll s.heap (h'.push { cls := .type "list", data := .seq (us.toArray ++ vs) }) := (k0.trans hk).trans (KeepsAll.push _ _)
  refine hQ _ tk' _ _ hk' (k0.trans hk).sz (Lst.new _ _) ?_
  rw [Array.toList_append]
  exact IntsAre.append hu hI
end
end Mine

open PySem PySem.W PyProof.Rows
namespace Mine
set_option Elab.async false

/- what the opening of a text without imports leaves -/
noncomputable def BootEnd (p : Program) (s : Shared) : Prop := ∃ mb mg c Pl, BootLeft9 p s.heap mb mg c Pl ∧ s.gens = #[]

theorem boot_end {p : Program} {w : World} (hb : p.main.body = []) (hmore : p.main.more = []) :
    (∃ s, AfterRun p w s) ∧ ∀ s, AfterRun p w s → BootEnd p s ∧ s.asleep := by
  have h : BodyOk9 p w (BootEnd p) := by
    intro hp tk mb mg c Pl F hB
    rw [hb]
    refine codeAny_body rfl rfl (wpAny_mono (E := fun _ _ => False) (wpAny_execs_nil ?_) (fun _ _ x => x) fun _ _ x => x.elim)
    exact ⟨⟨_, rfl⟩, .of hB.toBootLeft (fun b o _ _ e => e) hB.g, ⟨mb, mg, c, Pl, hB, rfl⟩, rfl⟩
  have z := AfterImport.of_body9 h hmore
  exact ⟨z.1, fun s hs => ⟨z.2 s hs, AfterImport.life hs⟩⟩

section
variable {M : Model} {A : Around} {E : Value → Shared → Prop} {s : Shared} {prog : Program} {c Pl F : Addr} {h₀ : Heap} {mg₀ mg : Str → Option Value} {ps : Array Value}
  {defs : List DefItem} {consts : List (Str × PyData)} {objs : List (Str × (Obj → Prop))} {names : List Str} {Q : Flow → Shared → Prop}

/- a name that no fact speaks of is bound anew -/
theorem mod_renamed {x : Str} {pos' pos : Pos} {y : Str} {k₁ : Nat} {k₂ : Pos} (X : Mod h₀ mg₀ c Pl s.heap mg ps defs consts objs names) (hx : x ∈ names)
    (hd : ∀ d ∈ defs, d.name ≠ x) (hc : ∀ p ∈ consts, p.1 ≠ x) (ho : ∀ p ∈ objs, p.1 ≠ x)
    (hloc : prog.main.scope.names.lookup x = some .local)
    (k : ∀ h' mg' tk, Mod h₀ mg₀ c Pl h' mg' ps defs consts objs names → Q .next { s with heap := h', toks := tk })
    (hnb : x ≠ "__builtins__" := by decide) (hmod : prog.main.scope.kind = .module := by rfl)
    (hs : swapsWith (.Constant (.str y) k₁ k₂) (some (.Name x pos')) pos.line (mainEnv prog c F) = pure false := by rfl) :
    wpAny M A (exec (.Assign [.Name x pos'] (.Constant (.str y) k₁ k₂) pos) (mainEnv prog c F)) Q E s := by
  refine wpAny_Assign_Name (wpAny_Constant_str ?_) hs
  refine wpAny_storeName_local (env := mainEnv prog c F) hloc X.main.g (fun h' hg' hs' => ?_)
    (by show (prog.main.scope.kind == .class || (prog.main.scope.kind == .module && mainGlobals != mainGlobals)) = false; rw [hmod]; rfl)
  obtain ⟨bm, o, hbm, hne0, hneG, hneP, hbo, hrest⟩ := X.main.bmod
  have keep : ∀ b o, b ≠ Pl → b ≠ mainGlobals → s.heap.get? b = some o → h'.get? b = some o := fun b o _ hG e => (hs'.2 _ hG).trans e
  have hiN : ∀ b o, h₀.objs.size ≤ b → s.heap.get? b = some o → h'.get? b = some o := fun b o hb => keep b o (Nat.ne_of_gt (Nat.lt_of_lt_of_le X.lowP hb)) (Nat.ne_of_gt (Nat.lt_of_lt_of_le X.lowG hb))
  refine k h' _ _ ⟨⟨hg', X.main.code.sameBut hs' (Nat.ne_of_gt X.main.low.1) (Nat.ne_of_gt X.main.low.2), X.main.low,
      ⟨bm, o, by simp only [Ne.symm hnb, if_false]; exact hbm, hne0, hneG, hneP, (hs'.2 _ hneG).trans hbo, hrest⟩⟩,
    fun b o hP hG e => keep b o hP hG (X.keep b o hP hG e), ?_, ?_, ?_, X.dnames, X.cnames, ?_, X.onames, Nat.le_trans X.grows (Nat.le_of_eq hs'.1.symm), X.lowP, X.lowG, ?_⟩
  · intro e he
    obtain ⟨a₁, c₁, o₁, pm₁, doc₁, dV₁, h1, h2, h3, h4, h5, h6, h7⟩ := X.made e he
    refine ⟨a₁, c₁, o₁, pm₁, doc₁, dV₁, h1, h2, ?_, hiN _ _ h1 h4, h5,
      h6.at fun o => hiN _ o h2, h7.above hiN⟩
    show (if e.name = x then _ else mg e.name) = _
    rw [if_neg (hd e he)]; exact h3
  · intro p hp
    obtain ⟨w, hw, hd⟩ := X.bound p hp
    refine ⟨w, ?_, hd⟩
    show (if p.1 = x then _ else mg p.1) = _
    rw [if_neg (hc p hp)]; exact hw
  · intro z hz
    show (if z = x then _ else mg z) = _
    rw [if_neg (fun q => hz (by rw [q]; exact hx))]
    exact X.others z hz
  · intro p hp
    obtain ⟨a, o, hN, hb, ho', hq⟩ := X.held p hp
    refine ⟨a, o, hN, ?_, hiN _ _ hN ho', hq⟩
    show (if p.1 = x then _ else mg p.1) = _
    rw [if_neg (ho p hp)]; exact hb
  · intro e he
    obtain ⟨a₁, o₁, fd₁, c₁, P₁, h1, r⟩ := (X.tabs e he).above (h' := h') hiN
    refine ⟨a₁, o₁, fd₁, c₁, P₁, ?_, r⟩
    show (if e.name = x then _ else mg e.name) = _
    rw [if_neg (hd e he)]; exact h1
end

/- the state behind the top -/
structure TopOut (s₀ s₁ : Shared) (defs : List DefItem) (consts : List (Str × PyData)) (objs : List (Str × (Obj → Prop))) (names : List Str) : Prop where
  ready : Ready defs consts objs names s₁
  keep : ∀ b o, b ≠ mainGlobals → s₀.heap.get? b = some o → s₁.heap.get? b = some o
  same : ∀ mg₀, s₀.heap.Ns mainGlobals mg₀ → ∃ mg, s₁.heap.Ns mainGlobals mg ∧ ∀ x, x ∉ names → mg x = mg₀ x
  os : s₁.os = s₀.os

/- the facts that the walk of a top starts from -/
structure TopIn (h : Heap) (mg : Str → Option Value) : Prop where
  mods : ∃ o, h.get? sysModules = some o
  b : ∃ mb, h.Ns builtinsNs mb ∧ ∀ x : Str, x ≠ "__name__" → mb x = bootBuiltins x
  free : ∀ x, x ∉ bootMainNames → mg x = none

theorem Name_module {M : Model} {A : Around} {E : Value → Shared → Prop} {s : Shared} {env : Env} {x : Str} {pos : Pos} {Q : Value → Shared → Prop} (hk : env.scope.kind = .module) (hlg : env.locals = env.globals)
    (h : wpAny M A (loadGlobal env x) Q E s) (hd : (x == ("__debug__" : Str)) = false) : wpAny M A (eval (.Name x pos) env) Q E s := by
  refine wpAny_Name ?_ hd
  have e : loadName env x = loadGlobal env x := by
    unfold loadName
    simp [Env.blockKind, hk, ScopeKind.isAnnotationScope, hlg]
  rw [e]; exact h

theorem top_name {prog : Program} {w : World} {A : Around} {c Pl F : Addr} {h₀ h : Heap} {mg₀ mg : Str → Option Value} {ps : Array Value}
    {defs : List DefItem} {consts : List (Str × PyData)} {objs : List (Str × (Obj → Prop))} {names : List Str} (I : TopIn h₀ mg₀) (X : Mod h₀ mg₀ c Pl h mg ps defs consts objs names) {x : Str} {v : Value}
    (hP : builtinsNs ≠ Pl) (hv : bootBuiltins x = some v) (hmod : prog.main.scope.kind = .module) (hfree : x ∉ names) (hboot : x ∉ bootMainNames) (hn : x ≠ "__name__") (hd : (x == ("__debug__" : Str)) = false) :
    NameIs (model prog w) A (mainEnv prog c F) x v h := by
  intro E s pos Q k q
  obtain ⟨mb, hb, hbv⟩ := I.b
  exact Name_module hmod rfl (Calls.loadGlobal_builtin (env := mainEnv prog c F) (X.main.g.keeps k.get) ((X.others x hfree).trans (I.free x hboot))
    ((hb.at fun o => X.keep _ o hP (by decide)).keeps k.get) ((hbv x hn).trans hv) q) hd

theorem top_walk {p q : Program} {w : World} {s₀ : Shared} {defs : List DefItem} {consts : List (Str × PyData)} {objs : List (Str × (Obj → Prop))} {names : List Str} (hB : BootEnd q s₀)
    (hbt : behindTheImports p = p.main.body) (hann : hasAnns p.main.body = false) (hdoc : docOf p.main.body = none)
    (walk : ∀ (s : Shared) (mg : Str → Option Value) (c Pl F : Addr) (A : Around) (Q : Flow → Shared → Prop), A.handled = none → TopIn s.heap mg → builtinsNs ≠ Pl → sysModules ≠ Pl → Mod s.heap mg c Pl s.heap mg #[] [] [] [] ["__name__"] →
      (∀ h' mg' ps' tk, Mod s.heap mg c Pl h' mg' ps' defs consts objs names → Q .next { s with heap := h', toks := tk }) →
      wpAny (model p w) A (execs p.main.body (mainEnv p c F)) Q (fun _ _ => False) s) :
    wpAny (model p w) callerA (topStub p).cur (fun fin s' => ∃ f, fin = .done f ∧ TopOut s₀ s' defs consts objs names ∧ s'.gens = #[]) (fun _ _ => False) s₀ := by
  obtain ⟨mb, mg, c₀, Pl₀, hB, hg⟩ := hB
  obtain ⟨bm, bo, hbm, hne0, hneG, hneP, hbo, hbc, hbd, hbdat⟩ := hB.bmod
  have hmods : ∃ o, s₀.heap.get? sysModules = some o := by
    obtain ⟨mm, ⟨o, es, ep, ho, _⟩, _⟩ := hB.noPylong
    exact ⟨o, ho⟩
  unfold topStub
  dsimp only
  refine wpAny_bind (wpAny_moduleCode fun c P h₁ tk₁ hk₁ hc hP hcode => ?_)
  unfold newBodyFrame
  have hg₁ : h₁.Ns mainGlobals mg := hB.g.keeps hk₁
  refine wpAny_bind (wpAny_bind (wpAny_nsGet hg₁ (wpAny_alloc ?_)))
  refine wpAny_bind (wpAny_run ?_)
  rw [hbt]
  show codeAny (model p w) (callerA.mark none) (.body p.main.body (mainEnv p c _)) _ _
  generalize hH : h₁.push _ = H
  have kH : KeepsAll h₁ H := hH ▸ KeepsAll.push _ _
  have k0 : ∀ b o, s₀.heap.get? b = some o → H.get? b = some o := fun b o e => kH.get _ _ (hk₁ _ _ e)
  have lowG : mainGlobals < s₀.heap.objs.size := hB.g.lt
  have lowB : builtinsNs < s₀.heap.objs.size := hB.b.lt
  have hPH : P < H.objs.size := Nat.lt_of_lt_of_le hcode.lt.2 kH.sz
  have hX : Mod H mg c P H mg #[] [] [] [] ["__name__"] :=
    ⟨⟨hg₁.keeps kH.get, hcode.keeps kH.get, ⟨Nat.lt_of_lt_of_le lowG hc, Nat.lt_of_lt_of_le lowG hP⟩,
        ⟨bm, bo, hbm, hne0, hneG, Nat.ne_of_lt (Nat.lt_of_lt_of_le (Heap.lt_size hbo) hP), k0 _ _ hbo, hbc, hbd, hbdat⟩⟩,
      fun _ _ _ _ e => e, (fun _ hd => nomatch hd), (fun _ hp => nomatch hp), fun _ _ => rfl, (fun _ hd => nomatch hd), (fun _ hp => nomatch hp), (fun _ hp => nomatch hp), (fun _ hp => nomatch hp), Nat.le_refl _, hPH,
      (hg₁.keeps kH.get).lt, (fun _ hd => nomatch hd)⟩
  have hI : TopIn H mg := ⟨let ⟨o, ho⟩ := hmods; ⟨o, k0 _ _ ho⟩, ⟨mb, hB.b.keeps k0, hB.builtins⟩, hB.others⟩
  have hPb : builtinsNs ≠ P := Nat.ne_of_lt (Nat.lt_of_lt_of_le lowB hP)
  have hPs : sysModules ≠ P := let ⟨o, ho⟩ := hmods; Nat.ne_of_lt (Nat.lt_of_lt_of_le (Heap.lt_size ho) hP)
  refine codeAny_body hann hdoc (wpAny_mono (E := fun _ _ => False) (walk _ mg c P _ _ _ rfl hI hPb hPs hX fun h' mg' ps' tk' X => ?_) (fun _ _ x => x) fun _ _ x => x.elim)
  refine wpAny_pure ⟨_, rfl, ?_, hg⟩
  have old : ∀ b o, b ≠ mainGlobals → s₀.heap.get? b = some o → h'.get? b = some o := fun b o hb e =>
    X.keep b o (Nat.ne_of_lt (Nat.lt_of_lt_of_le (Heap.lt_size e) hP)) hb (k0 _ _ e)
  refine ⟨⟨_, mg', mb, X.main.g, hB.b.at fun o => old _ o (by decide), hB.builtins,
    Heap.NoLimit.at ⟨_, hB.statics, rfl⟩ fun o => old _ o (by decide), hg, X.made, X.bound, fun x hx hn => (X.others x hx).trans (hB.others x hn), hB.statics.at fun o => old _ o (by decide),
    fun p hp => let ⟨a, o, hN, hb, ho, hq⟩ := X.held p hp; ⟨a, o, Nat.lt_of_lt_of_le X.lowG hN, hb, ho, hq⟩, X.tabs,
    (let ⟨bm, o, hbm, hne0, _, _, hbo, r⟩ := X.main.bmod; ⟨bm, o, hbm, hne0, hbo, r⟩),
    ⟨⟨_, hB.statics.at fun o => old _ o (by decide), rfl, rfl⟩, (let ⟨mm, hm, hp⟩ := hB.noPylong; ⟨mm, hm.at fun o => old _ o (by decide), hp⟩),
      ⟨mb, hB.b.at fun o => old _ o (by decide), hB.builtins⟩, (let ⟨bm, o, hbm, _, _, _, hbo, h1, h2, _⟩ := X.main.bmod; ⟨mg', bm, o, X.main.g, hbm, hbo, h1, h2⟩)⟩⟩,
    old, fun mg₀ h₀ => ⟨mg', X.main.g, fun x hx => (X.others x hx).trans (Heap.Ns.agree hB.g h₀ x)⟩, rfl⟩

theorem top_ran {p q : Program} {w : World} {s₀ s₁ : Shared} {defs : List DefItem} {consts : List (Str × PyData)} {objs : List (Str × (Obj → Prop))} {names : List Str} (hB : BootEnd q s₀)
    (hrun : ∃ n t, schedN (denote table) p w n (.single s₀ (topStub p)) = .running (.single s₁ t) ∧ through t = true) (O : TopOut s₀ s₁ defs consts objs names) (hg : s₁.gens = #[]) (hl : s₁.heap.life = s₀.heap.life)
    (hbound : ∀ x ∈ names, x ∈ startupNames ∨ x ∈ p.boundNames) (hlaid : ∀ x ∈ laidNames, x ∉ names) (hbm : ("__builtins__" : Str) ∉ names) : TopRan p w s₀ s₁ := by
  obtain ⟨mb, mg, c₀, Pl₀, hB, hg₀⟩ := hB
  obtain ⟨N, mg', mb', r1, r2, r3, r4, r5, r6, r7, r8, r9, r10, r11, r12, r13⟩ := O.ready
  obtain ⟨mg'', g1, g2⟩ := O.same mg hB.g
  have ag : ∀ x, mg'' x = mg' x := fun x => Heap.Ns.agree g1 r1 x
  refine ⟨hrun, hl, Shared.rest_eq O.os, fun b o e hn => O.keep b o (fun q => hn (.inl q)) e, ?_, ?_, Pin.keysAreStrs_of_ns r1, ?_, ?_, ?_, ?_, ?_⟩
  · intro key v hv
    rw [Pin.staticOf_of_ns r9 key] at hv; cases hv
  · intro key
    exact .inl ((Pin.staticOf_of_ns r9 key).trans (Pin.staticOf_of_ns hB.statics key).symm)
  · exact fun x hx => (Pin.builtinOf_of_ns r2 x).trans (r3 x hx)
  · obtain ⟨bm, o, hbm, _, hneG, _, hbo, h1, h2, _⟩ := hB.bmod
    exact ⟨bm, o, (Claim2Try.globalOf_of_ns g1 _).trans ((g2 _ (by assumption)).trans hbm), O.keep _ _ hneG hbo, h1, h2⟩
  · rw [hg]; intro g hg'; simp at hg'
  · intro x v hv
    rw [Claim2Try.globalOf_of_ns r1] at hv
    by_cases hx : x ∈ names
    · exact hbound x hx
    · by_cases hx2 : x ∈ bootMainNames
      · exact .inl hx2
      · rw [r8 x hx hx2] at hv; cases hv
  · intro x hx
    rw [Claim2Try.globalOf_of_ns g1, Claim2Try.globalOf_of_ns hB.g]
    exact g2 x (hlaid x hx)
end Mine

open PySem PySem.W PyProof.Rows
namespace Mine
set_option Elab.async false
set_option maxRecDepth 100000
abbrev PW : Program := PySem.Challenge.pw_sw0069_02
abbrev RW : OpenLaw := PySem.Challenge.rw_sw0069_02

noncomputable def stAt (i : Nat) : Stmt := PW.main.body.getD i (.Pass default)
noncomputable def itemOf : Stmt → DefItem
  | .FunctionDef name params body _ _ _ scope _ _ pos => ⟨name, params, body, scope, pos⟩
  | _ => ⟨"", ⟨[], [], none, [], [], none, []⟩, [], default, default⟩
noncomputable def valueOf : Stmt → PySem.Expr
  | .Assign _ v _ => v
  | _ => .Constant .none 0 default
noncomputable def dictKeys : PySem.Expr → List (Option PySem.Expr)
  | .Dict ks _ _ => ks
  | _ => []
noncomputable def dictVals : PySem.Expr → List PySem.Expr
  | .Dict _ vs _ => vs
  | _ => []
noncomputable def posOf : Stmt → Pos × Pos × Pos
  | .Assign [.Name _ p] (.Dict _ _ q) r => (p, q, r)
  | .Assign [.Name _ p] _ r => (p, p, r)
  | _ => default
@[irreducible] noncomputable def b3k : List (Option PySem.Expr) := dictKeys (valueOf (stAt 3))
@[irreducible] noncomputable def b3v : List PySem.Expr := dictVals (valueOf (stAt 3))
@[irreducible] noncomputable def setV : PySem.Expr := valueOf (stAt 1)
@[irreducible] noncomputable def posT (i : Nat) : Pos := (posOf (stAt i)).1
@[irreducible] noncomputable def posV (i : Nat) : Pos := (posOf (stAt i)).2.1
@[irreducible] noncomputable def posS (i : Nat) : Pos := (posOf (stAt i)).2.2
noncomputable def constPos : PySem.Expr → Nat × Pos
  | .Constant _ k p => (k, p)
  | _ => default
@[irreducible] noncomputable def cK (i : Nat) : Nat := (constPos (valueOf (stAt i))).1
@[irreducible] noncomputable def cP (i : Nat) : Pos := (constPos (valueOf (stAt i))).2
noncomputable def strOf : PySem.Expr → Str
  | .Constant (.str x) _ _ => x
  | _ => ""
@[irreducible] noncomputable def cS (i : Nat) : Str := strOf (valueOf (stAt i))
noncomputable def mkDef (d : DefItem) : Stmt := .FunctionDef d.name d.params d.body [] none [] d.scope none d.name d.pos

@[irreducible] noncomputable def dIn : DefItem := itemOf (stAt 2)
@[irreducible] noncomputable def dMap : DefItem := itemOf (stAt 4)
@[irreducible] noncomputable def dColl : DefItem := itemOf (stAt 6)
@[irreducible] noncomputable def dGrp : DefItem := itemOf (stAt 8)
@[irreducible] noncomputable def dSub : DefItem := itemOf (stAt 13)
@[irreducible] noncomputable def dLev : DefItem := itemOf (stAt 14)
@[irreducible] noncomputable def dTyped : DefItem := itemOf (stAt 16)
@[irreducible] noncomputable def dRead : DefItem := itemOf (stAt 17)
@[irreducible] noncomputable def dRuns : DefItem := itemOf (stAt 18)
@[irreducible] noncomputable def dRef : DefItem := itemOf (stAt 19)
@[irreducible] noncomputable def dPair : DefItem := itemOf (stAt 20)
@[irreducible] noncomputable def dLaw : DefItem := itemOf (stAt 21)
theorem body_is : PW.main.body = [.Assign [.Name "__name__" (posT 0)] (.Constant (.str (cS 0)) (cK 0) (cP 0)) (posS 0), .Assign [.Name "b1_set" (posT 1)] setV (posS 1), mkDef dIn, .Assign [.Name "b3_exceptions" (posT 3)] (.Dict b3k b3v (posV 3)) (posS 3), mkDef dMap, .Assign [.Name "__name__" (posT 5)] (.Constant (.str (cS 5)) (cK 5) (cP 5)) (posS 5), mkDef dColl, .Assign [.Name "CHAR_MAX" (posT 7)] (.Constant (.int 127) (cK 7) (cP 7)) (posS 7), mkDef dGrp, .Assign [.Name "__name__" (posT 9)] (.Constant (.str (cS 9)) (cK 9) (cP 9)) (posS 9), .Assign [.Name "_MAX_STRING_SIZE" (posT 10)] (.Constant (.int 40) (cK 10) (cP 10)) (posS 10), .Assign [.Name "_MOVE_COST" (posT 11)] (.Constant (.int 2) (cK 11) (cP 11)) (posS 11), .Assign [.Name "_CASE_COST" (posT 12)] (.Constant (.int 1) (cK 12) (cP 12)) (posS 12), mkDef dSub, mkDef dLev, .Assign [.Name "__name__" (posT 15)] (.Constant (.str (cS 15)) (cK 15) (cP 15)) (posS 15), mkDef dTyped, mkDef dRead, mkDef dRuns, mkDef dRef, mkDef dPair, mkDef dLaw] := by kernel_rfl
theorem dIn_name : dIn.name = "in_table_b1" := by kernel_rfl
theorem dMap_name : dMap.name = "map_table_b3" := by kernel_rfl
theorem dColl_name : dColl.name = "_strcoll" := by kernel_rfl
theorem dGrp_name : dGrp.name = "_grouping_intervals" := by kernel_rfl
theorem dSub_name : dSub.name = "_substitution_cost" := by kernel_rfl
theorem dLev_name : dLev.name = "_levenshtein_distance" := by kernel_rfl
theorem dTyped_name : dTyped.name = "_law_typed" := by kernel_rfl
theorem dRead_name : dRead.name = "_law_read" := by kernel_rfl
theorem dRuns_name : dRuns.name = "_law_marks" := by kernel_rfl
theorem dRef_name : dRef.name = "_law_refused" := by kernel_rfl
theorem dPair_name : dPair.name = "_law_pair" := by kernel_rfl
theorem dLaw_name : dLaw.name = "law" := by kernel_rfl

/- what a plain def must be -/
structure DefOk (d : DefItem) : Prop where
  tree : PlainDefTree d.name d.params d.body d.scope d.pos
  free : ∀ x ∈ d.scope.names, x.2 ≠ .free
  doc : docOf d.body = none
  loc : PW.main.scope.names.lookup d.name = some .local
  q : qualnameIn { scope := PW.main.scope, locals := mainGlobals, globals := mainGlobals, cells := [] } d.name d.name = d.name
  nb : d.name ≠ "__builtins__"
  nd : d.params.defaults = []

theorem dIn_ok : DefOk dIn := ⟨fun env => by kernel_rfl, by decide +kernel, by kernel_rfl, by kernel_rfl, by kernel_rfl, by decide +kernel, by kernel_rfl⟩
theorem dMap_ok : DefOk dMap := ⟨fun env => by kernel_rfl, by decide +kernel, by kernel_rfl, by kernel_rfl, by kernel_rfl, by decide +kernel, by kernel_rfl⟩
theorem dColl_ok : DefOk dColl := ⟨fun env => by kernel_rfl, by decide +kernel, by kernel_rfl, by kernel_rfl, by kernel_rfl, by decide +kernel, by kernel_rfl⟩
theorem dGrp_ok : DefOk dGrp := ⟨fun env => by kernel_rfl, by decide +kernel, by kernel_rfl, by kernel_rfl, by kernel_rfl, by decide +kernel, by kernel_rfl⟩
theorem dSub_ok : DefOk dSub := ⟨fun env => by kernel_rfl, by decide +kernel, by kernel_rfl, by kernel_rfl, by kernel_rfl, by decide +kernel, by kernel_rfl⟩
theorem dLev_ok : DefOk dLev := ⟨fun env => by kernel_rfl, by decide +kernel, by kernel_rfl, by kernel_rfl, by kernel_rfl, by decide +kernel, by kernel_rfl⟩
theorem dTyped_ok : DefOk dTyped := ⟨fun env => by kernel_rfl, by decide +kernel, by kernel_rfl, by kernel_rfl, by kernel_rfl, by decide +kernel, by kernel_rfl⟩
theorem dRead_ok : DefOk dRead := ⟨fun env => by kernel_rfl, by decide +kernel, by kernel_rfl, by kernel_rfl, by kernel_rfl, by decide +kernel, by kernel_rfl⟩
theorem dRuns_ok : DefOk dRuns := ⟨fun env => by kernel_rfl, by decide +kernel, by kernel_rfl, by kernel_rfl, by kernel_rfl, by decide +kernel, by kernel_rfl⟩
theorem dRef_ok : DefOk dRef := ⟨fun env => by kernel_rfl, by decide +kernel, by kernel_rfl, by kernel_rfl, by kernel_rfl, by decide +kernel, by kernel_rfl⟩
theorem dPair_ok : DefOk dPair := ⟨fun env => by kernel_rfl, by decide +kernel, by kernel_rfl, by kernel_rfl, by kernel_rfl, by decide +kernel, by kernel_rfl⟩
theorem dLaw_ok : DefOk dLaw := ⟨fun env => by kernel_rfl, by decide +kernel, by kernel_rfl, by kernel_rfl, by kernel_rfl, by decide +kernel, by kernel_rfl⟩

/- the table b3 as pairs -/
noncomputable def b3 : List (Int × Str) := (constPairs b3k b3v).getD []
theorem b3_is : constPairs b3k b3v = some b3 := by kernel_rfl
noncomputable def incr : List Int → Bool
  | a :: b :: r => decide (a < b) && incr (b :: r)
  | _ => true
theorem incr_lt : ∀ {l : List Int} {a : Int}, incr (a :: l) = true → ∀ x ∈ l, a < x
  | [], _, _, _, hx => nomatch hx
  | b :: r, a, h, x, hx => by
    simp only [incr, Bool.and_eq_true, decide_eq_true_eq] at h
    rcases List.mem_cons.mp hx with rfl | hx
    · exact h.1
    · exact Int.lt_trans h.1 (incr_lt h.2 x hx)
theorem incr_nodup : ∀ {l : List Int}, incr l = true → l.Nodup
  | [], _ => List.nodup_nil
  | [_], _ => by simp
  | a :: b :: r, h => by
    refine List.nodup_cons.mpr ⟨fun hm => Int.lt_irrefl _ (incr_lt h a hm), incr_nodup ?_⟩
    simp only [incr, Bool.and_eq_true] at h
    exact h.2
theorem b3_nodup : (b3.map (·.1)).Nodup := incr_nodup (by decide +kernel)
theorem b3_size : b3.length ≤ 2000 := by decide +kernel
theorem b3_ne : b3 ≠ [] := by
  intro h
  have : b3.length = 0 := by rw [h]; rfl
  exact absurd this (by decide +kernel)

noncomputable def b1a : List Int := [173, 847, 6150, 6155, 6156, 6157, 8203, 8204, 8205, 8288, 65279]
noncomputable def b1 : List Int := b1a ++ (List.range 16).map fun (i : Nat) => (65024 : Int) + (i : Int) * 1
noncomputable def SetObj (o : Obj) : Prop := ∃ S n, o.IntSetOf S n ∧ n < scanBound ∧ ∀ k, S k = b1.any (· == k)
noncomputable def DictObj (w : World) (o : Obj) : Prop := ∃ es ep kvs, o.ExactDict ∧ o.data = .dict es ep ∧ PySem.KeysOf (intKind PW w) es ∧ Pairs (intKind PW w) es.toList kvs ∧ (kvs.map (·.1)).Nodup ∧ Are kvs b3
noncomputable def theDefs : List DefItem := [dLaw, dPair, dRef, dRuns, dRead, dTyped, dLev, dSub, dGrp, dColl, dMap, dIn]
noncomputable def theConsts : List (Str × PyData) := [("_CASE_COST", .int 1), ("_MOVE_COST", .int 2), ("_MAX_STRING_SIZE", .int 40), ("CHAR_MAX", .int 127)]
noncomputable def theObjs (w : World) : List (Str × (Obj → Prop)) := [("b3_exceptions", DictObj w), ("b1_set", SetObj)]
noncomputable def theNames : List Str := [dLaw.name, dPair.name, dRef.name, dRuns.name, dRead.name, dTyped.name, dLev.name, dSub.name, "_CASE_COST", "_MOVE_COST", "_MAX_STRING_SIZE", dGrp.name, "CHAR_MAX", dColl.name, dMap.name, "b3_exceptions", dIn.name, "b1_set", "__name__"]

theorem datum_int {i : Int} {t : Tok} : IsDatum (.int i t) (.int i) := fun h => by first | exact .int | exact .int _ _ | constructor

section
variable {M : Model} {A : Around} {E : Value → Shared → Prop} {s : Shared} {c Pl F : Addr} {h₀ : Heap} {mg₀ mg : Str → Option Value} {ps : Array Value}
  {defs : List DefItem} {consts : List (Str × PyData)} {objs : List (Str × (Obj → Prop))} {names : List Str} {Q : Flow → Shared → Prop} {rest : List Stmt}
theorem step_def {d : DefItem} (ok : DefOk d) (X : Mod h₀ mg₀ c Pl s.heap mg ps defs consts objs names) (hnew : d.name ∉ names) (hnf : codeAmong d.pos ps.toList = none)
    (k : ∀ h' mg' c' tk, Mod h₀ mg₀ c Pl h' mg' (ps ++ #[rawInt d.pos.line, rawInt d.pos.col, .ref c']) (d :: defs) consts objs (d.name :: names) → wpAny M A (execs rest (mainEnv PW c F)) Q E { s with heap := h', toks := tk }) :
    wpAny M A (execs (mkDef d :: rest) (mainEnv PW c F)) Q E s :=
  wpAny_execs_cons (Mod.def_plain X ok.tree ok.free ok.doc ok.loc ok.q hnew (fun h' mg' c' tk Y => k h' mg' c' tk Y) ok.nb rfl hnf ok.nd)
theorem step_name {i : Nat} (X : Mod h₀ mg₀ c Pl s.heap mg ps defs consts objs names) (hx : ("__name__" : Str) ∈ names) (hd : ∀ d ∈ defs, d.name ≠ "__name__") (hc : ∀ p ∈ consts, p.1 ≠ "__name__") (ho : ∀ p ∈ objs, p.1 ≠ "__name__")
    (k : ∀ h' mg' tk, Mod h₀ mg₀ c Pl h' mg' ps defs consts objs names → wpAny M A (execs rest (mainEnv PW c F)) Q E { s with heap := h', toks := tk }) :
    wpAny M A (execs (.Assign [.Name "__name__" (posT i)] (.Constant (.str (cS i)) (cK i) (cP i)) (posS i) :: rest) (mainEnv PW c F)) Q E s :=
  wpAny_execs_cons (mod_renamed X hx hd hc ho (by kernel_rfl) fun h' mg' tk Y => k h' mg' tk Y)
theorem step_int {i : Nat} {x : Str} {n : Int} (X : Mod h₀ mg₀ c Pl s.heap mg ps defs consts objs names) (hloc : PW.main.scope.names.lookup x = some .local) (hnew : x ∉ names) (hnb : x ≠ "__builtins__")
    (k : ∀ h' mg' tk, Mod h₀ mg₀ c Pl h' mg' ps defs ((x, .int n) :: consts) objs (x :: names) → wpAny M A (execs rest (mainEnv PW c F)) Q E { s with heap := h', toks := tk }) :
    wpAny M A (execs (.Assign [.Name x (posT i)] (.Constant (.int n) (cK i) (cP i)) (posS i) :: rest) (mainEnv PW c F)) Q E s :=
  wpAny_execs_cons (Mod.assign (d := .int n) X hloc hnew (fun Q' q => wpAny_Constant_int (q _ _ datum_int)) (fun h' mg' tk Y => k h' mg' tk Y) hnb)
theorem step_obj {i : Nat} {x : Str} {v : PySem.Expr} {P : Obj → Prop} (X : Mod h₀ mg₀ c Pl s.heap mg ps defs consts objs names) (hloc : PW.main.scope.names.lookup x = some .local) (hnew : x ∉ names) (hnb : x ≠ "__builtins__")
    (hs : swapsWith v (some (.Name x (posT i))) (posS i).line (mainEnv PW c F) = pure false)
    (hval : ∀ Q' : Value → Shared → Prop, (∀ a o h₁ tk, s.heap.objs.size ≤ a → h₁.get? a = some o → P o → (∀ b o', s.heap.get? b = some o' → h₁.get? b = some o') → Q' (.ref a) { s with heap := h₁, toks := tk }) →
      wpAny M A (eval v (mainEnv PW c F)) Q' E s)
    (k : ∀ h' mg' tk, Mod h₀ mg₀ c Pl h' mg' ps defs consts ((x, P) :: objs) (x :: names) → wpAny M A (execs rest (mainEnv PW c F)) Q E { s with heap := h', toks := tk }) :
    wpAny M A (execs (.Assign [.Name x (posT i)] v (posS i) :: rest) (mainEnv PW c F)) Q E s :=
  wpAny_execs_cons (Mod.assign_obj (P := P) X hloc hnew hval (fun h' mg' tk Y => k h' mg' tk Y) hnb rfl hs)
end

noncomputable def setParts : PySem.Expr → Option (PySem.Expr × Pos × Pos)
  | .Call (.Name _ p) [a] [] q => some (a, p, q)
  | _ => none
noncomputable def sumParts : PySem.Expr → Option (List PySem.Expr × Pos × Pos × Pos × Pos × Pos × Pos × Pos × Pos × Nat × Nat)
  | .BinOp (.List es p0) .Add (.Call (.Name _ p1) [.Call (.Name _ p2) [.Constant (.int _) k1 p3, .Constant (.int _) k2 p4] [] p5] [] p6) p7 => some (es, p0, p1, p2, p3, p4, p5, p6, p7, k1, k2)
  | _ => none
@[irreducible] noncomputable def sP : PySem.Expr × Pos × Pos := (setParts setV).getD (default, default, default)
@[irreducible] noncomputable def sQ : List PySem.Expr × Pos × Pos × Pos × Pos × Pos × Pos × Pos × Pos × Nat × Nat := (sumParts sP.1).getD default
theorem setV_is : setV = .Call (.Name "set" sP.2.1) [.BinOp (.List sQ.1 sQ.2.1) .Add (.Call (.Name "list" sQ.2.2.1) [.Call (.Name "range" sQ.2.2.2.1) [.Constant (.int 65024) sQ.2.2.2.2.2.2.2.2.2.1 sQ.2.2.2.2.1, .Constant (.int 65040) sQ.2.2.2.2.2.2.2.2.2.2 sQ.2.2.2.2.2.1] [] sQ.2.2.2.2.2.2.1] [] sQ.2.2.2.2.2.2.2.1) sQ.2.2.2.2.2.2.2.2.1] [] sP.2.2 := by kernel_rfl
theorem intElts_of : ∀ (es : List PySem.Expr) (ns : List Int), (es.map fun e => match e with | .Constant (.int k) _ _ => some k | _ => none) = ns.map some → IntElts es ns := by
  intro es
  induction es with
  | nil => intro ns h; cases ns with
    | nil => exact .nil
    | cons => simp at h
  | cons e r ih =>
    intro ns h
    cases ns with
    | nil => simp at h
    | cons n ns =>
      simp only [List.map_cons, List.cons.injEq] at h
      obtain ⟨h1, h2⟩ := h
      split at h1
      · cases h1; exact .cons _ _ _ (ih ns h2)
      · cases h1
theorem sQ_ints : IntElts sQ.1 b1a := intElts_of _ _ (by kernel_rfl)

theorem eval_setV {w : World} {A : Around} {E : Value → Shared → Prop} {s : Shared} {c F : Addr} {Q : Value → Shared → Prop} (hh : A.handled = none)
    (n1 : NameIs (model PW w) A (mainEnv PW c F) "set" (.type "set") s.heap) (n2 : NameIs (model PW w) A (mainEnv PW c F) "list" (.type "list") s.heap) (n3 : NameIs (model PW w) A (mainEnv PW c F) "range" (.type "range") s.heap)
    (q : ∀ a o h₁ tk, s.heap.objs.size ≤ a → h₁.get? a = some o → SetObj o → (∀ b o', s.heap.get? b = some o' → h₁.get? b = some o') → Q (.ref a) { s with heap := h₁, toks := tk }) :
    wpAny (model PW w) A (eval setV (mainEnv PW c F)) Q E s := by
  rw [setV_is]
  refine Call_ (n1 _ _ _ _ (KeepsAll.refl _) ?_)
  refine PyProof.Rows.callWith_type1 ?_
  refine wpAny_items_cons ?_
  refine eval_ints_range (ns := b1a) sQ_ints n2 n3 hh (by decide) (by decide) (by decide) (by decide) (by decide) (by decide) fun h' tk l vs hk hl hL hI => ?_
  refine wpAny_items_nil ?_
  have hlen : vs.size = 27 := by have := hI.length; rw [Array.length_toList, List.length_append, List.length_map, List.length_range] at this; exact this
  refine call_set_list (ns := b1) hh hL.isList hI (by rw [hlen]; decide) fun h2 tk2 hS hk2 => ?_
  obtain ⟨o, ho, hso⟩ := hS.objOf
  refine q _ o _ _ hk.sz ho ⟨_, _, hso.intSetOf, ?_, fun k => ?_⟩ fun b o' e => hk2 b o' (Heap.lt_size (hk.get _ _ e)) (hk.get _ _ e)
  · have := firstMet_length_le (fun i => b1.getD i 0) vs.size
    rw [hlen] at this ⊢
    exact Nat.lt_of_le_of_lt this (by decide)
  · rw [firstMet_any, hlen]
    rfl

set_option maxHeartbeats 4000000 in
theorem the_walk (w : World) (s : Shared) (mg : Str → Option Value) (c Pl F : Addr) (A : Around) (Q : Flow → Shared → Prop) (hh : A.handled = none) (I : TopIn s.heap mg) (hP : builtinsNs ≠ Pl) (hPs : sysModules ≠ Pl)
    (X0 : Mod s.heap mg c Pl s.heap mg #[] [] [] [] ["__name__"])
    (k : ∀ h' mg' ps' tk, Mod s.heap mg c Pl h' mg' ps' theDefs theConsts (theObjs w) theNames → Q .next { s with heap := h', toks := tk }) :
    wpAny (model PW w) A (execs PW.main.body (mainEnv PW c F)) Q (fun _ _ => False) s := by
  rw [body_is]
  refine step_name X0 (by decide +kernel) (by decide +kernel) (by decide +kernel) (fun _ hp => nomatch hp) fun h1 mg1 tk1 X1 => ?_
  refine step_obj (P := SetObj) X1 (by kernel_rfl) (by decide +kernel) (by decide +kernel) (by kernel_rfl) (fun Q' q => eval_setV hh (top_name I X1 hP (by kernel_rfl) (by kernel_rfl) (by decide +kernel) (by decide +kernel) (by decide +kernel) (by decide +kernel)) (top_name I X1 hP (by kernel_rfl) (by kernel_rfl) (by decide +kernel) (by decide +kernel) (by decide +kernel) (by decide +kernel)) (top_name I X1 hP (by kernel_rfl) (by kernel_rfl) (by decide +kernel) (by decide +kernel) (by decide +kernel) (by decide +kernel)) q) fun h2 mg2 tk2 X2 => ?_
  refine step_def dIn_ok X2 (by decide +kernel) (by kernel_rfl) fun h3 mg3 c3 tk3 X3 => ?_
  refine step_obj (P := DictObj w) X3 (by kernel_rfl) (by decide +kernel) (by decide +kernel) (by kernel_rfl) (fun Q' q => ?_) fun h4 mg4 tk4 X4 => ?_
  · have hlow : ∃ o, h3.get? sysModules = some o := by
      obtain ⟨o, ho⟩ := I.mods
      exact ⟨o, X3.keep _ o hPs (by decide) ho⟩
    refine eval_Dict_are b3_is b3_nodup (Nat.le_trans b3_size (by decide)) b3_ne hlow fun d h' tk kvs ha hd hk hsz => ?_
    obtain ⟨o, es, ep, ho, hc, hdd, hko, hp, hn⟩ := hd
    exact q _ o _ _ hsz ho ⟨es, ep, kvs, hc, hdd, hko, hp, hn, ha⟩ hk.get
  refine step_def dMap_ok X4 (by decide +kernel) (by kernel_rfl) fun h5 mg5 c5 tk5 X5 => ?_
  refine step_name X5 (by decide +kernel) (by decide +kernel) (by decide +kernel) (by intro p hp; rcases List.mem_cons.mp hp with rfl | hp; ((show Str.ofString _ ≠ Str.ofString _; decide +kernel)); rcases List.mem_singleton.mp hp with rfl; (show Str.ofString _ ≠ Str.ofString _; decide +kernel)) fun h6 mg6 tk6 X6 => ?_
  refine step_def dColl_ok X6 (by decide +kernel) (by kernel_rfl) fun h7 mg7 c7 tk7 X7 => ?_
  refine step_int X7 (by kernel_rfl) (by decide +kernel) (by decide +kernel) fun h8 mg8 tk8 X8 => ?_
  refine step_def dGrp_ok X8 (by decide +kernel) (by kernel_rfl) fun h9 mg9 c9 tk9 X9 => ?_
  refine step_name X9 (by decide +kernel) (by decide +kernel) (by decide +kernel) (by intro p hp; rcases List.mem_cons.mp hp with rfl | hp; ((show Str.ofString _ ≠ Str.ofString _; decide +kernel)); rcases List.mem_singleton.mp hp with rfl; (show Str.ofString _ ≠ Str.ofString _; decide +kernel)) fun h10 mg10 tk10 X10 => ?_
  refine step_int X10 (by kernel_rfl) (by decide +kernel) (by decide +kernel) fun h11 mg11 tk11 X11 => ?_
  refine step_int X11 (by kernel_rfl) (by decide +kernel) (by decide +kernel) fun h12 mg12 tk12 X12 => ?_
  refine step_int X12 (by kernel_rfl) (by decide +kernel) (by decide +kernel) fun h13 mg13 tk13 X13 => ?_
  refine step_def dSub_ok X13 (by decide +kernel) (by kernel_rfl) fun h14 mg14 c14 tk14 X14 => ?_
  refine step_def dLev_ok X14 (by decide +kernel) (by kernel_rfl) fun h15 mg15 c15 tk15 X15 => ?_
  refine step_name X15 (by decide +kernel) (by decide +kernel) (by decide +kernel) (by intro p hp; rcases List.mem_cons.mp hp with rfl | hp; ((show Str.ofString _ ≠ Str.ofString _; decide +kernel)); rcases List.mem_singleton.mp hp with rfl; (show Str.ofString _ ≠ Str.ofString _; decide +kernel)) fun h16 mg16 tk16 X16 => ?_
  refine step_def dTyped_ok X16 (by decide +kernel) (by kernel_rfl) fun h17 mg17 c17 tk17 X17 => ?_
  refine step_def dRead_ok X17 (by decide +kernel) (by kernel_rfl) fun h18 mg18 c18 tk18 X18 => ?_
  refine step_def dRuns_ok X18 (by decide +kernel) (by kernel_rfl) fun h19 mg19 c19 tk19 X19 => ?_
  refine step_def dRef_ok X19 (by decide +kernel) (by kernel_rfl) fun h20 mg20 c20 tk20 X20 => ?_
  refine step_def dPair_ok X20 (by decide +kernel) (by kernel_rfl) fun h21 mg21 c21 tk21 X21 => ?_
  refine step_def dLaw_ok X21 (by decide +kernel) (by kernel_rfl) fun h22 mg22 c22 tk22 X22 => ?_
  exact wpAny_execs_nil (k _ _ _ _ X22)
end Mine

open PySem PySem.W PyProof.Rows
namespace Mine
set_option Elab.async false
set_option maxRecDepth 100000

/- the globals behind the top -/
noncomputable abbrev G (w : World) (mg mb : Str → Option Value) (N : Nat) (h : Heap) : Prop := PyProof.Rows.Glob N mg mb theDefs theConsts (theObjs w) theNames h

noncomputable def CallGoal : Prop := ∀ (w : World) (mg mb : Str → Option Value) (N : Nat) (s : Shared) (l : Addr) (its : Array Value) (ns : List Int), G w mg mb N s.heap → s.heap.IsList l its → IntsAre its.toList ns → ns.length ≤ 63 → (PyData.list (ns.map PyData.int)).layable0 = true → s.gens = #[] →
  ∃ f, mg "law" = some f ∧ wpAny (model PW w) callerA (PySem.call f [.ref l]) (fun v s' => v = .bool true ∧ OldK s.heap s'.heap ∧ s'.os = s.os ∧ AllBare s'.gens) (fun _ _ => False) s

theorem behind (w : World) : (∃ s, AfterRun (opening PW) w s) ∧ ∀ s, AfterRun (opening PW) w s → ∃ s₀, fenceModules? PW s = some s₀ ∧ s₀.gens = #[] ∧ ∃ s₁, TopRan PW w s₀ s₁ ∧ s₁.asleep ∧ s₁.gens = #[] ∧ TopOut s₀ s₁ theDefs theConsts (theObjs w) theNames := by
  have hb := boot_end (p := opening PW) (w := w) (by kernel_rfl) (by kernel_rfl)
  refine ⟨hb.1, fun s hs => ⟨s, by kernel_rfl, ?_⟩⟩
  obtain ⟨hB, hz⟩ := hb.2 s hs
  refine ⟨hB.choose_spec.choose_spec.choose_spec.choose_spec.2, ?_⟩
  obtain ⟨s₁, hrun, hO, hg, hl⟩ := runs_through hz (top_walk (p := PW) (w := w) hB (by kernel_rfl) (by kernel_rfl) (by kernel_rfl) fun s mg c Pl F A Q hh I hP hPs X k => the_walk w s mg c Pl F A Q hh I hP hPs X k)
  exact ⟨s₁, top_ran hB hrun hO hg hl (by decide +kernel) (by decide +kernel) (by decide +kernel), Shared.asleep_of_life hl hz, hg, hO⟩

theorem dLaw_the : PW.theDef "law" = some (dLaw.params, dLaw.body, dLaw.scope) := by kernel_rfl
theorem dLaw_kw : kwWritten? dLaw.params.kwonlyargs dLaw.params.kw_defaults = some [] := by kernel_rfl

theorem pinned {w : World} {s₀ s₁ : Shared} (O : TopOut s₀ s₁ theDefs theConsts (theObjs w) theNames) : isTheDefsW PW s₁.heap "law" := by
  obtain ⟨N, mg, mb, r1, r2, r3, r4, r5, r6, r7, r8, r9, r10, r11, r12, r13⟩ := O.ready
  obtain ⟨a, c', o, pm, doc, h1, h2, h3, h4, h5, h6⟩ := (r6 dLaw (by unfold theDefs; exact .head _)).plain dLaw_ok.nd
  rw [dLaw_name] at h3
  refine ⟨a, o, _, dLaw.params, dLaw.body, dLaw.scope, (Claim2Try.globalOf_of_ns r1 _).trans h3, h4, h5, dLaw_the, dLaw_name, dLaw_name, rfl, rfl, rfl, rfl, rfl, rfl, .inl ⟨dLaw_ok.nd, rfl⟩, [], dLaw_kw, .inl ⟨rfl, rfl⟩⟩

theorem globOf {w : World} {s₀ s₁ : Shared} (O : TopOut s₀ s₁ theDefs theConsts (theObjs w) theNames) : ∃ N mg mb, G w mg mb N s₁.heap := by
  obtain ⟨N, mg, mb, h1, h2, h3, h4, h5, h6, h7, h8, h9, h10, _, _, hS⟩ := O.ready
  exact ⟨N, mg, mb, ⟨h1, h2, h3, h4, h6, h7, h8, ⟨_, h9, rfl⟩, h10, hS⟩⟩

theorem called {w : World} {s₀ s : Shared} (call : CallGoal) (O : TopOut s₀ s theDefs theConsts (theObjs w) theNames) (hz : s.asleep) (hgens : s.gens = #[]) (free : Addr → Prop) (gens : Prop) :
    RW.row.toRowW.claim.CallFrom (callStub RW.row.name) w free gens (fun h' => RW.writes = true → namesKept PW RW.row.keeps s.heap h' ∧ ∀ x ∈ RW.row.toRowW.claim.records, ∀ a, classAt s.heap x.1 = some a → recordClass h' a x.1 (x.2.map (·.1)) = true) s := by
  obtain ⟨N, mg, mb, GG⟩ := globOf O
  refine ClaimW.callFrom_of_specG (c := RW.row.toRowW.claim) (tree := fun vs => do match ← nsGet mainNs RW.row.name with
      | some f => do ret (← PySem.call f vs)
      | none => unsupported "claim.caller:no-such-global") hz hgens fun args hpre hlay ord hord => ?_
  have hcl : ∀ c : Str, (WRecords.fields? [] c).isSome = true → (classAt s.heap c).isSome = true := fun c hc => by simp [WRecords.fields?] at hc
  obtain ⟨⟨vs, s₁⟩, hlaid⟩ := Option.isSome_iff_exists.mp (layAllW_isSome (P := w.params) (ord := ord) hcl args RW.row.args s (pre_splitW (r := RW.row.toRowW) hpre).1)
  have keeps := layAllW_keeps _ _ _ hlaid
  have hal := layAllW_rest _ _ _ hlaid
  obtain ⟨as, hrd, hin, hold⟩ := reads_layAllW hord _ _ _ hlaid hlay s₁.heap (fun _ _ e => e)
  have L : Laid [] w s s₁ args vs as := ⟨⟨ord, hord, hlaid⟩, hrd, hin, hold, keeps, hal.1.trans hgens, hal.2.2.1⟩
  refine ⟨vs, s₁, hlaid, ?_⟩
  have hwl : WellAll w.params s₁.heap vs args := well_layAllW hord args s _ hlaid _ fun _ _ e => e
  have hlow : sysModules < s.heap.objs.size := Nat.lt_trans (by decide) GG.g.lt
  have hlo : ∀ a ∈ as, (a == sysModules) = false := fun a ha => beq_eq_false_iff_ne.mpr fun e => by
    have := (hin.2.2 a ha).1
    subst e
    exact absurd hlow (Nat.not_lt.mpr this)
  have GG' : G w mg mb N s₁.heap := GG.keeps keeps
  have hg1 : s₁.gens = #[] := L.gens
  dsimp only at *
  wrow_args hpre hlay hrd hwl hlo
  rename (Heap.IsList _ _ _) => hIs
  rename (IntsAre _ _) => hI
  rename (PyData.layable0 _ = true) => hLy
  rename (¬ (63 : Nat) < (_ : Int)) => hc
  obtain ⟨f, hf, hcall⟩ := call w mg mb N s₁ _ _ _ GG' hIs (by simpa using hI) (by omega) hLy hg1
  refine wpAny_bind (wpAny_nsGet GG'.g ?_)
  have hf' : mg RW.row.name = some f := hf
  rw [hf']
  refine wpAny_bind (wpAny_mono hcall (fun v s' h => ?_) fun _ _ h => h.elim)
  obtain ⟨rfl, hK, hos, hgn⟩ := h
  refine wpAny_pure ⟨_, rfl, ?_⟩
  obtain ⟨p1, p2, p3, p4, p5⟩ := frees_parts (r := RW.row.toRowW) (by decide +kernel)
  have z := GoodWG.laid (c := RW.row.toRowW.claim) (r := .ok (.ret (.bool true))) p1 rfl (ident_freeW p2 p3 p4) L
    ⟨.inl ⟨_, .bool true, [], rfl, fun _ => rfl, .bool _, by kernel_rfl, fun _ => ⟨List.nodup_nil, fun _ ha => nomatch ha⟩⟩, hK, hos, hgn⟩
  exact ⟨z.1, z.2.1, z.2.2, fun q => nomatch q⟩

theorem holds_of (call : CallGoal) : RW.Holds := by
  w_on
  o_law
  rename (OpenRow.wellSaid _ = true) => said
  have hw : RW.row.toRowW.promised := by w_witness2
  refine ⟨said, hw, ⟨⟨rfl, rfl, rfl, rfl, rfl, by decide +kernel⟩, by decide +kernel, rfl⟩, hw.witness, fun w => ⟨(behind w).1, fun s hs => ?_⟩⟩
  obtain ⟨s₀, hf, hg0, s₁, hT, hz, hg, hO⟩ := (behind w).2 s hs
  refine ⟨s₀, hf, hg0, s₁, hT, ?_, (fun x hx => nomatch hx), (fun x hx => nomatch hx), called call hO hz hg _ _⟩
  intro n hn
  have hn' : n ∈ ([("law" : Str)] : List Str) := hn
  rcases List.mem_singleton.mp hn' with rfl
  exact pinned hO
end Mine

open PySem PySem.W PyProof.Rows
namespace Mine
set_option Elab.async false
set_option maxRecDepth 100000

/- what a value tells: an int, a str by its signs, a bool, None, a known address, a new object, a known object -/
inductive D where
  | i (n : Int) | s (l : List Nat) | b (v : Bool) | n | r (a : Addr) | v (x : Value) | o (T : Obj → Prop) | k (T : Obj → Prop)

/- plain data (no heap) -/
noncomputable def Is0 (v : Value) : D → Prop
  | .i n => ∃ t, v = .int n t
  | .s l => ∃ t, v = .str ⟨l.toArray⟩ t
  | .b c => v = .bool c
  | .n => v = .none
  | .r a => v = .ref a
  | .v x => v = x
  | .o _ => False
  | .k _ => False

/- a value in a state -/
noncomputable def At (s : Shared) (v : Value) : D → Prop
  | .o T => ∃ a o, v = .ref a ∧ s.heap.get? a = some o ∧ T o
  | .k T => ∃ a o, v = .ref a ∧ s.heap.get? a = some o ∧ T o
  | d => Is0 v d

/- a value that was got between two states -/
noncomputable def Got (s s' : Shared) (v : Value) : D → Prop
  | .o T => ∃ a o, v = .ref a ∧ s.heap.get? a = none ∧ s'.heap.get? a = some o ∧ T o
  | .k T => ∃ a o, v = .ref a ∧ s'.heap.get? a = some o ∧ T o
  | d => Is0 v d

/- the later state: all that stood stands -/
structure Nx (s s' : Shared) : Prop where
  up : ∀ b o, s.heap.get? b = some o → s'.heap.get? b = some o
  os : s'.os = s.os
  gens : ∀ (i : Nat) g, s.gens[i]? = some g → s'.gens[i]? = some g
  bare : AllBare s.gens → AllBare s'.gens

theorem Nx.refl (s : Shared) : Nx s s := ⟨fun _ _ e => e, rfl, fun _ _ e => e, fun e => e⟩
theorem Nx.trans {a b c : Shared} (x : Nx a b) (y : Nx b c) : Nx a c := ⟨fun _ _ e => y.up _ _ (x.up _ _ e), y.os.trans x.os, fun _ _ e => y.gens _ _ (x.gens _ _ e), fun e => y.bare (x.bare e)⟩
theorem Nx.of {s : Shared} {h' : Heap} {tk : Nat} (k : ∀ b o, s.heap.get? b = some o → h'.get? b = some o) : Nx s { s with heap := h', toks := tk } := ⟨k, rfl, fun _ _ e => e, fun e => e⟩
theorem Nx.tok (s : Shared) (tk : Nat) : Nx s { s with toks := tk } := ⟨fun _ _ e => e, rfl, fun _ _ e => e, fun e => e⟩
theorem Nx.push (s : Shared) (o : Obj) : Nx s { s with heap := s.heap.push o } := ⟨fun _ _ e => Heap.get?_push_of_some _ e, rfl, fun _ _ e => e, fun e => e⟩

theorem fresh_size (h : Heap) (a : Addr) (ha : h.objs.size ≤ a) : h.get? a = none := by
  cases e : h.get? a with
  | none => rfl
  | some o => exact absurd (Heap.lt_size e) (Nat.not_lt.mpr ha)

theorem Got.at {s s' : Shared} {v : Value} {d : D} (x : Got s s' v d) : At s' v d := by
  cases d with
  | o T => obtain ⟨a, o, h1, _, h3, h4⟩ := x; exact ⟨a, o, h1, h3, h4⟩
  | k T => exact x
  | _ => exact x
theorem At.nx {s s' : Shared} {v : Value} {d : D} (x : At s v d) (n : Nx s s') : At s' v d := by
  cases d with
  | o T => obtain ⟨a, o, h1, h3, h4⟩ := x; exact ⟨a, o, h1, n.up _ _ h3, h4⟩
  | k T => obtain ⟨a, o, h1, h3, h4⟩ := x; exact ⟨a, o, h1, n.up _ _ h3, h4⟩
  | _ => exact x
theorem Got.nx {s s₁ s₂ s' : Shared} {v : Value} {d : D} (x : Got s₁ s₂ v d) (n : Nx s s₁) (n' : Nx s₂ s') : Got s s' v d := by
  cases d with
  | o T =>
    obtain ⟨a, o, h1, h2, h3, h4⟩ := x
    refine ⟨a, o, h1, ?_, n'.up _ _ h3, h4⟩
    cases e : s.heap.get? a with
    | none => rfl
    | some o' => rw [n.up _ _ e] at h2; cases h2
  | k T => obtain ⟨a, o, h1, h3, h4⟩ := x; exact ⟨a, o, h1, n'.up _ _ h3, h4⟩
  | _ => exact x

/- a property of states that stays -/
structure HP where
  P : Shared → Prop
  st : ∀ s s', Nx s s' → P s → P s'

noncomputable def HP.and (H K : HP) : HP := ⟨fun s => H.P s ∧ K.P s, fun _ _ n x => ⟨H.st _ _ n x.1, K.st _ _ n x.2⟩⟩

/- a tree that gives a datum -/
structure Gv (M : Model) (A : Around) (H : HP) (t : Sem Value) (d : D) : Prop where
  run : ∀ (s : Shared), H.P s → ∀ (Q : Value → Shared → Prop) (E : Value → Shared → Prop), (∀ v s', Got s s' v d → Nx s s' → H.P s' → Q v s') → wpAny M A t Q E s
noncomputable abbrev Ev (M : Model) (A : Around) (env : Env) (H : HP) (e : PySem.Expr) (d : D) : Prop := Gv M A H (eval e env) d
/- a test that tells b -/
structure Tv (M : Model) (A : Around) (H : HP) (t : Sem Bool) (b : Bool) : Prop where
  run : ∀ (s : Shared), H.P s → ∀ (Q : Bool → Shared → Prop) (E : Value → Shared → Prop), (∀ s', Nx s s' → H.P s' → Q b s') → wpAny M A t Q E s
noncomputable abbrev Tr (M : Model) (A : Around) (env : Env) (H : HP) (e : PySem.Expr) (b : Bool) : Prop := Tv M A H (isTrue e env (eval e env)) b
/- items of a display or a call -/
noncomputable def Gots (s s' : Shared) : List Value → List D → Prop
  | [], [] => True
  | v :: vs, d :: ds => Got s s' v d ∧ Gots s s' vs ds
  | _, _ => False
noncomputable def Ats (s : Shared) : List Value → List D → Prop
  | [], [] => True
  | v :: vs, d :: ds => At s v d ∧ Ats s vs ds
  | _, _ => False
theorem Ats.length {s : Shared} : ∀ {vs : List Value} {ds : List D}, Ats s vs ds → vs.length = ds.length
  | [], [], _ => rfl
  | _ :: _, _ :: _, x => by simp [Ats.length x.2]
  | [], _ :: _, x => x.elim
  | _ :: _, [], x => x.elim
theorem len_1 {α : Type} : ∀ {l : List α}, l.length = 1 → ∃ a, l = [a]
  | a :: l, h => ⟨a, by rw [List.length_eq_zero_iff.mp (Nat.succ.inj h)]⟩
  | [], h => nomatch h
theorem len_s {α : Type} {n : Nat} : ∀ {l : List α}, l.length = n + 1 → ∃ a l', l = a :: l' ∧ l'.length = n
  | a :: l, h => ⟨a, l, rfl, Nat.succ.inj h⟩
  | [], h => nomatch h
theorem len_2 {α : Type} {l : List α} (h : l.length = 2) : ∃ a b, l = [a, b] := by
  obtain ⟨a, l1, e, h1⟩ := len_s h
  obtain ⟨b, e2⟩ := len_1 h1
  exact ⟨a, b, by rw [e, e2]⟩
theorem len_3 {α : Type} {l : List α} (h : l.length = 3) : ∃ a b c, l = [a, b, c] := by
  obtain ⟨a, l1, e, h1⟩ := len_s h
  obtain ⟨b, c, e2⟩ := len_2 h1
  exact ⟨a, b, c, by rw [e, e2]⟩
theorem Ats.one {s : Shared} {vs : List Value} {d : D} (h : Ats s vs [d]) : ∃ v, vs = [v] ∧ At s v d := by
  obtain ⟨v, rfl⟩ := len_1 h.length
  exact ⟨v, rfl, h.1⟩
theorem Ats.two {s : Shared} {vs : List Value} {d e : D} (h : Ats s vs [d, e]) : ∃ v u, vs = [v, u] ∧ At s v d ∧ At s u e := by
  obtain ⟨v, u, rfl⟩ := len_2 h.length
  exact ⟨v, u, rfl, h.1, h.2.1⟩
theorem Ats.three {s : Shared} {vs : List Value} {d e f : D} (h : Ats s vs [d, e, f]) : ∃ v u x, vs = [v, u, x] ∧ At s v d ∧ At s u e ∧ At s x f := by
  obtain ⟨v, u, x, rfl⟩ := len_3 h.length
  exact ⟨v, u, x, rfl, h.1, h.2.1, h.2.2.1⟩
structure Avs (M : Model) (A : Around) (H : HP) (t : Sem (List Value)) (ds : List D) : Prop where
  run : ∀ (s : Shared), H.P s → ∀ (Q : List Value → Shared → Prop) (E : Value → Shared → Prop), (∀ vs s', Ats s' vs ds → Nx s s' → H.P s' → Q vs s') → wpAny M A t Q E s

noncomputable def Op1 (M : Model) (A : Around) (f : Value → Sem Value) (d1 d : D) : Prop :=
  ∀ (s : Shared) v1 (Q : Value → Shared → Prop) (E : Value → Shared → Prop), At s v1 d1 → (∀ v s', Got s s' v d → Nx s s' → Q v s') → wpAny M A (f v1) Q E s
noncomputable def Op2 (M : Model) (A : Around) (f : Value → Value → Sem Value) (d1 d2 d : D) : Prop :=
  ∀ (s : Shared) v1 v2 (Q : Value → Shared → Prop) (E : Value → Shared → Prop), At s v1 d1 → At s v2 d2 → (∀ v s', Got s s' v d → Nx s s' → Q v s') → wpAny M A (f v1 v2) Q E s
/- a call with a list of arguments -/
noncomputable def Cl1 (M : Model) (A : Around) (f : Value) (ds : List D) (d : D) : Prop :=
  ∀ (s : Shared) vs (Q : Value → Shared → Prop) (E : Value → Shared → Prop), Ats s vs ds → (∀ v s', Got s s' v d → Nx s s' → Q v s') → wpAny M A (PySem.call f vs) Q E s
/- truth of a datum -/
noncomputable def Truth (M : Model) (A : Around) (d : D) (b : Bool) : Prop :=
  ∀ (s : Shared) v (Q : Bool → Shared → Prop) (E : Value → Shared → Prop), At s v d → (∀ s', Nx s s' → Q b s') → wpAny M A (truthy v) Q E s

section
variable {M : Model} {A : Around} {env : Env} {H : HP}

theorem Gv.k {t : Sem Value} {T : Obj → Prop} (h : Gv M A H t (.o T)) : Gv M A H t (.k T) := ⟨fun s hs _ _ q => h.run s hs _ _ fun v s' g => q v s' (by obtain ⟨a, o, h1, _, h3, h4⟩ := g; exact ⟨a, o, h1, h3, h4⟩)⟩
theorem Gv.know {t : Sem Value} {a : Addr} {T : Obj → Prop} (h : Gv M A H t (.r a)) (hT : ∀ s, H.P s → ∃ o, s.heap.get? a = some o ∧ T o) : Gv M A H t (.k T) := ⟨fun s hs _ _ q => h.run s hs _ _ fun v s' g n hs' => by
  obtain ⟨o, h1, h2⟩ := hT s' hs'
  exact q v s' ⟨a, o, g, h1, h2⟩ n hs'⟩
theorem Gv.imp {t : Sem Value} {d d' : D} (h : Gv M A H t d) (hd : ∀ s s' v, Got s s' v d → Got s s' v d') : Gv M A H t d' := ⟨fun s hs _ _ q => h.run s hs _ _ fun v s' g => q v s' (hd _ _ _ g)⟩
theorem Gv.cast {t : Sem Value} {d d' : D} (h : Gv M A H t d) (e : d = d') : Gv M A H t d' := e ▸ h
theorem Tr.cast {e : PySem.Expr} {b b' : Bool} (h : Tr M A env H e b) (e' : b = b') : Tr M A env H e b' := e' ▸ h
theorem Ev.int {n : Int} {c : Nat} {p : Pos} : Ev M A env H (.Constant (.int n) c p) (.i n) := ⟨fun s hs _ _ q => wpAny_Constant_int (q _ _ ⟨_, rfl⟩ (Nx.tok s _) (H.st _ _ (Nx.tok s _) hs))⟩
theorem Ev.str {x : Str} {c : Nat} {p : Pos} {l : List Nat} (h : x = ⟨l.toArray⟩) : Ev M A env H (.Constant (.str x) c p) (.s l) := ⟨fun s hs _ _ q => wpAny_Constant_str (q _ _ ⟨_, by rw [h]⟩ (Nx.tok s _) (H.st _ _ (Nx.tok s _) hs))⟩
theorem Ev.bool {b : Bool} {c : Nat} {p : Pos} : Ev M A env H (.Constant (.bool b) c p) (.b b) := ⟨fun s hs _ _ q => wpAny_Constant_bool (q _ _ rfl (Nx.refl s) hs)⟩
theorem Ev.none {c : Nat} {p : Pos} : Ev M A env H (.Constant .none c p) .n := ⟨fun s hs _ _ q => wpAny_Constant_none (q _ _ rfl (Nx.refl s) hs)⟩

theorem Ev.bin {l r : PySem.Expr} {op : Operator} {p : Pos} {d1 d2 d : D} (hl : Ev M A env H l d1) (hr : Ev M A env H r d2) (ho : Op2 M A (binaryOp op) d1 d2 d) : Ev M A env H (.BinOp l op r p) d :=
  ⟨fun s hs _ _ q => wpAny_BinOp (hl.run s hs _ _ fun v1 s1 g1 n1 h1 => hr.run s1 h1 _ _ fun v2 s2 g2 n2 h2 => ho s2 v1 v2 _ _ (g1.at.nx n2) g2.at fun v s' g n =>
    q v s' (g.nx (n1.trans n2) (Nx.refl _)) ((n1.trans n2).trans n) (H.st _ _ n h2))⟩
theorem Ev.cmp {l r : PySem.Expr} {op : CmpOp} {p : Pos} {d1 d2 d : D} (hl : Ev M A env H l d1) (hr : Ev M A env H r d2) (ho : Op2 M A (compareOp op) d1 d2 d) (hm : behindInMarks op r = false := by with_unfolding_all rfl) : Ev M A env H (.Compare l [op] [r] p) d :=
  ⟨fun s hs _ _ q => wpAny_Compare1 (hl.run s hs _ _ fun v1 s1 g1 n1 h1 => hr.run s1 h1 _ _ fun v2 s2 g2 n2 h2 => ho s2 v1 v2 _ _ (g1.at.nx n2) g2.at fun v s' g n =>
    q v s' (g.nx (n1.trans n2) (Nx.refl _)) ((n1.trans n2).trans n) (H.st _ _ n h2)) hm⟩
theorem Ev.un {x : PySem.Expr} {op : UnaryOp} {p : Pos} {d1 d : D} (hx : Ev M A env H x d1) (ho : Op1 M A (unaryOp op) d1 d) : Ev M A env H (.UnaryOp op x p) d :=
  ⟨fun s hs _ _ q => wpAny_UnaryOp (hx.run s hs _ _ fun v1 s1 g1 n1 h1 => ho s1 v1 _ _ g1.at fun v s' g n => q v s' (g.nx n1 (Nx.refl _)) (n1.trans n) (H.st _ _ n h1))⟩
theorem Ev.ite {t x y : PySem.Expr} {p : Pos} {b : Bool} {d : D} (ht : Tr M A env H t b) (hx : b = true → Ev M A env H x d) (hy : b = false → Ev M A env H y d) : Ev M A env H (.IfExp t x y p) d :=
  ⟨fun s hs _ _ q => wpAny_IfExp (ht.run s hs _ _ fun s1 n1 h1 => by
    cases b with
    | true => exact (hx rfl).run s1 h1 _ _ fun v s' g n h => q v s' (g.nx n1 (Nx.refl _)) (n1.trans n) h
    | false => exact (hy rfl).run s1 h1 _ _ fun v s' g n h => q v s' (g.nx n1 (Nx.refl _)) (n1.trans n) h)⟩
/- x or y -/
theorem Ev.or {x y : PySem.Expr} {p : Pos} {b : Bool} {d1 d : D} (hx : Ev M A env H x d1) (ht : Truth M A d1 b) (h1 : b = true → ∀ s s' v, Got s s' v d1 → Got s s' v d) (hy : b = false → Ev M A env H y d) : Ev M A env H (.BoolOp .Or [x, y] p) d :=
  ⟨fun s hs _ _ q => wpAny_Or2 (hx.run s hs _ _ fun v1 s1 g1 n1 hs1 => ht s1 v1 _ _ g1.at fun s2 n2 => by
    cases b with
    | true => exact q v1 s2 (h1 rfl _ _ _ (g1.nx (Nx.refl _) n2)) (n1.trans n2) (H.st _ _ n2 hs1)
    | false => exact (hy rfl).run s2 (H.st _ _ n2 hs1) _ _ fun v s' g n h => q v s' (g.nx (n1.trans n2) (Nx.refl _)) ((n1.trans n2).trans n) h)⟩

theorem Tr.val {e : PySem.Expr} {d : D} {b : Bool} (hx : Ev M A env H e d) (ht : Truth M A d b) (he : isTrue e env (eval e env) = (do let v ← eval e env; standAt e.pos; holding [v] (truthy v)) := by rfl) : Tr M A env H e b :=
  ⟨fun s hs _ _ q => wpAny_isTrue_value (hx.run s hs _ _ fun v1 s1 g1 n1 hs1 => ht s1 v1 _ _ g1.at fun s2 n2 => q s2 (n1.trans n2) (H.st _ _ n2 hs1)) he⟩
theorem Tr.cmp {l r : PySem.Expr} {op : CmpOp} {p : Pos} {d1 d2 : D} {b : Bool} (hl : Ev M A env H l d1) (hr : Ev M A env H r d2) (ho : Op2 M A (compareOp op) d1 d2 (.b b)) (hm : behindInMarks op r = false := by with_unfolding_all rfl) : Tr M A env H (.Compare l [op] [r] p) b :=
  ⟨fun s hs _ _ q => wpAny_isTrue_Compare1 (hl.run s hs _ _ fun v1 s1 g1 n1 h1 => hr.run s1 h1 _ _ fun v2 s2 g2 n2 h2 => ho s2 v1 v2 _ _ (g1.at.nx n2) g2.at fun v s' g n => by
    cases (show v = .bool b from g)
    exact wpAny_truthy_bool (q s' ((n1.trans n2).trans n) (H.st _ _ n h2))) hm⟩
theorem Tr.not {x : PySem.Expr} {p : Pos} {b : Bool} (hx : Tr M A env H x b) : Tr M A env H (.UnaryOp .Not x p) (!b) :=
  ⟨fun s hs _ _ q => wpAny_isTrue_Not (hx.run s hs _ _ fun s1 n1 h1 => q s1 n1 h1)⟩
theorem Tr.and {x y : PySem.Expr} {p : Pos} {b c : Bool} (hx : Tr M A env H x b) (hy : b = true → Tr M A env H y c) : Tr M A env H (.BoolOp .And [x, y] p) (b && c) :=
  ⟨fun s hs _ _ q => isTrue_and (hx.run s hs _ _ fun s1 n1 h1 => by
    cases b with
    | false => exact q s1 n1 h1
    | true => exact isTrue_and ((hy rfl).run s1 h1 _ _ fun s2 n2 h2 => by
        cases c with
        | false => exact q s2 (n1.trans n2) h2
        | true => exact isTrue_and_nil (q s2 (n1.trans n2) h2)))⟩
theorem Tr.and3 {x y z : PySem.Expr} {p : Pos} {b c d : Bool} (hx : Tr M A env H x b) (hy : b = true → Tr M A env H y c) (hz : b = true → c = true → Tr M A env H z d) : Tr M A env H (.BoolOp .And [x, y, z] p) (b && c && d) :=
  ⟨fun s hs _ _ q => isTrue_and (hx.run s hs _ _ fun s1 n1 h1 => by
    cases b with
    | false => exact q s1 n1 h1
    | true => exact isTrue_and ((hy rfl).run s1 h1 _ _ fun s2 n2 h2 => by
        cases c with
        | false => exact q s2 (n1.trans n2) h2
        | true => exact isTrue_and ((hz rfl rfl).run s2 h2 _ _ fun s3 n3 h3 => by
            cases d with
            | false => exact q s3 ((n1.trans n2).trans n3) h3
            | true => exact isTrue_and_nil (q s3 ((n1.trans n2).trans n3) h3))))⟩
theorem Tr.or {x y : PySem.Expr} {p : Pos} {b c : Bool} (hx : Tr M A env H x b) (hy : b = false → Tr M A env H y c) : Tr M A env H (.BoolOp .Or [x, y] p) (b || c) :=
  ⟨fun s hs _ _ q => isTrue_or (hx.run s hs _ _ fun s1 n1 h1 => by
    cases b with
    | true => exact q s1 n1 h1
    | false => exact isTrue_or ((hy rfl).run s1 h1 _ _ fun s2 n2 h2 => by
        cases c with
        | true => exact q s2 (n1.trans n2) h2
        | false => exact isTrue_or_nil (q s2 (n1.trans n2) h2)))⟩
/- l op1 r1 op2 r2 -/
theorem Tr.chain {l r1 r2 : PySem.Expr} {op1 op2 : CmpOp} {p : Pos} {d0 d1 d2 : D} {b c : Bool} (h0 : Ev M A env H l d0) (h1 : Ev M A env H r1 d1) (h2 : b = true → Ev M A env H r2 d2)
    (o1 : Op2 M A (compareOp op1) d0 d1 (.b b)) (o2 : b = true → Op2 M A (compareOp op2) d1 d2 (.b c)) (hm : lastMarks [op1, op2] [r1, r2] = false := by with_unfolding_all rfl) : Tr M A env H (.Compare l [op1, op2] [r1, r2] p) (b && c) :=
  ⟨fun s hs _ _ q => isTrue_chain (h0.run s hs _ _ fun v0 s0 g0 n0 hs0 => test_link (h1.run s0 hs0 _ _ fun v1 s1 g1 n1 hs1 => o1 s1 v0 v1 _ _ (g0.at.nx n1) g1.at fun v s2 g n2 => by
    cases (show v = .bool b from g)
    refine wpAny_truthy_bool ?_
    cases b with
    | false => exact q s2 ((n0.trans n1).trans n2) (H.st _ _ n2 hs1)
    | true => exact test_last ((h2 rfl).run s2 (H.st _ _ n2 hs1) _ _ fun v2 s3 g2 n3 hs3 => o2 rfl s3 v1 v2 _ _ (g1.at.nx (n2.trans n3)) g2.at fun v s4 g n4 => by
        cases (show v = .bool c from g)
        exact wpAny_truthy_bool (q s4 ((((n0.trans n1).trans n2).trans n3).trans n4) (H.st _ _ n4 hs3)))) ) hm⟩

theorem Avs.nil {p : Pos} : Avs M A H (spliced (backTo p (starEach [] env))) [] := ⟨fun s hs _ _ q => wpAny_items_nil (q [] s trivial (Nx.refl s) hs)⟩
theorem Avs.cons {p : Pos} {e : PySem.Expr} {rest : List PySem.Expr} {d : D} {ds : List D} (hx : Ev M A env H e d) (hr : Avs M A H (spliced (backTo p (starEach rest env))) ds) (he : starEach (e :: rest) env = (false, eval e env) :: starEach rest env := by rfl) :
    Avs M A H (spliced (backTo p (starEach (e :: rest) env))) (d :: ds) :=
  ⟨fun s hs _ _ q => wpAny_items_cons (hx.run s hs _ _ fun v s1 g n1 h1 => hr.run s1 h1 _ _ fun vs s2 gs n2 h2 => q (v :: vs) s2 ⟨g.at.nx n2, gs⟩ (n1.trans n2) h2) he⟩
end

section
variable {prog : Program} {w : World} {A : Around}
theorem Op.add (m n : Int) : Op2 (model prog w) A (binaryOp .Add) (.i m) (.i n) (.i (m + n)) := by
  rintro s _ _ Q E ⟨t, rfl⟩ ⟨u, rfl⟩ q
  exact add_int (q _ _ ⟨_, rfl⟩ (Nx.tok s _))
theorem Op.sub (m n : Int) : Op2 (model prog w) A (binaryOp .Sub) (.i m) (.i n) (.i (m - n)) := by
  rintro s _ _ Q E ⟨t, rfl⟩ ⟨u, rfl⟩ q
  exact sub_int (q _ _ ⟨_, rfl⟩ (Nx.tok s _))
theorem Op.iadd (m n : Int) : Op2 (model prog w) A (inplaceOp .Add) (.i m) (.i n) (.i (m + n)) := by
  rintro s _ _ Q E ⟨t, rfl⟩ ⟨u, rfl⟩ q
  exact iadd_int (q _ _ ⟨_, rfl⟩ (Nx.tok s _))
theorem Op.mod (m n : Int) (h : n ≠ 0) : Op2 (model prog w) A (binaryOp .Mod) (.i m) (.i n) (.i (m.fmod n)) := by
  rintro s _ _ Q E ⟨t, rfl⟩ ⟨u, rfl⟩ q
  exact mod_int h (q _ _ ⟨_, rfl⟩ (Nx.tok s _))
theorem Op.lt (m n : Int) : Op2 (model prog w) A (compareOp .Lt) (.i m) (.i n) (.b (decide (m < n))) := by
  rintro s _ _ Q E ⟨t, rfl⟩ ⟨u, rfl⟩ q
  exact lt_int (q _ _ rfl (Nx.refl s))
theorem Op.gt (m n : Int) : Op2 (model prog w) A (compareOp .Gt) (.i m) (.i n) (.b (decide (n < m))) := by
  rintro s _ _ Q E ⟨t, rfl⟩ ⟨u, rfl⟩ q
  exact gt_int (q _ _ rfl (Nx.refl s))
theorem Op.eq (m n : Int) : Op2 (model prog w) A (compareOp .Eq) (.i m) (.i n) (.b (m == n)) := by
  rintro s _ _ Q E ⟨t, rfl⟩ ⟨u, rfl⟩ q
  exact eq_int (q _ _ rfl (Nx.refl s))
theorem Op.ne (m n : Int) : Op2 (model prog w) A (compareOp .NotEq) (.i m) (.i n) (.b (m != n)) := by
  rintro s _ _ Q E ⟨t, rfl⟩ ⟨u, rfl⟩ q
  exact ne_int (q _ _ rfl (Nx.refl s))
theorem Op.seq (x y : List Nat) : Op2 (model prog w) A (compareOp .Eq) (.s x) (.s y) (.b (x == y)) := by
  rintro s _ _ Q E ⟨t, rfl⟩ ⟨u, rfl⟩ q
  exact P.eq_str (q _ _ rfl (Nx.refl s))
theorem Op.sne (x y : List Nat) : Op2 (model prog w) A (compareOp .NotEq) (.s x) (.s y) (.b (x != y)) := by
  rintro s _ _ Q E ⟨t, rfl⟩ ⟨u, rfl⟩ q
  exact P.ne_str (q _ _ rfl (Nx.refl s))
theorem Op.slt (x y : List Nat) : Op2 (model prog w) A (compareOp .Lt) (.s x) (.s y) (.b (decide (x < y))) := by
  rintro s _ _ Q E ⟨t, rfl⟩ ⟨u, rfl⟩ q
  exact P.lt_str (q _ _ rfl (Nx.refl s))
end
end Mine

open PySem PySem.W PyProof.Rows
open PySem.Builtin PySem.Builtin.Str
namespace Mine
set_option Elab.async false
set_option maxRecDepth 100000

noncomputable def cut {α : Type} (lo hi : Option Int) (l : List α) : List α := (l.drop (lo.elim 0 (clipAt l.length))).take (hi.elim l.length (clipAt l.length) - lo.elim 0 (clipAt l.length))

theorem clip_str (lo hi : Option Int) (n : Nat) : strSliceIndices lo hi 1 n = sliceRange ((lo.elim 0 (clipAt n) : Nat) : Int) ((hi.elim n (clipAt n) : Nat) : Int) 1 := by
  have h := sliceBounds_plain lo hi n
  unfold strSliceIndices
  unfold sliceBounds at h
  injection h with h1 h2
  injection h2 with h2 _
  simp only [Option.getD_none] at h1 h2
  rw [← h1, ← h2]
  cases lo <;> cases hi <;> rfl

theorem cut_str (lo hi : Option Int) (l : List Nat) : ((strSliceIndices lo hi 1 l.length).filterMap (l.toArray[·]?)) = cut lo hi l := by
  rw [clip_str, sliceRange_one, pick_run]
  simp [cut]

theorem cut_list (lo hi : Option Int) (xs : Array Value) : (slicePick xs lo hi none).toList = cut lo hi xs.toList := by
  rw [slicePick_plain]
  simp [cut]

theorem cut_length_le {α : Type} (lo hi : Option Int) (l : List α) : (cut lo hi l).length ≤ l.length := by
  unfold cut
  rw [List.length_take, List.length_drop]
  omega

/- a slice's bound: an int or None -/
noncomputable def Part (d : D) (p : Option Int) : Prop := match p with
  | none => d = .n
  | some i => d = .i i

theorem Part.val {s : Shared} {v : Value} {d : D} {p : Option Int} (h : Part d p) (g : At s v d) : ∃ q : Option (Int × Tok), v = partValue q ∧ q.map (·.1) = p := by
  cases p with
  | none => cases (show d = .n from h); exact ⟨none, g, rfl⟩
  | some i => cases (show d = .i i from h); obtain ⟨t, rfl⟩ := g; exact ⟨some (i, t), rfl, rfl⟩

section
variable {prog : Program} {w : World} {A : Around} {env : Env} {H : HP}

/- an optional bound -/
noncomputable def Evp (M : Model) (A : Around) (env : Env) (H : HP) (e : Option PySem.Expr) (d : D) : Prop := Gv M A H (evalPart e env) d
theorem Evp.none {M : Model} : Evp M A env H none .n := ⟨fun s hs _ _ q => wpAny_pure (q _ _ rfl (Nx.refl s) hs)⟩
theorem Evp.some {M : Model} {e : PySem.Expr} {d : D} (h : Ev M A env H e d) : Evp M A env H (some e) d := h

theorem Ev.slice {value : PySem.Expr} {lower upper : Option PySem.Expr} {p pos : Pos} {l : List Nat} {d1 d2 : D} {lo hi : Option Int}
    (hv : Ev (model prog w) A env H value (.s l)) (h1 : Evp (model prog w) A env H lower d1) (h2 : Evp (model prog w) A env H upper d2) (p1 : Part d1 lo) (p2 : Part d2 hi) (hz : l.length ≤ 2000)
    (ht : ∀ o r, letTemporaryGo value o r = pure () := by intro _ _; rfl) :
    Ev (model prog w) A env H (.Subscript value (.Slice lower upper Option.none p) pos) (.s (cut lo hi l)) := by
  refine ⟨fun s hs Q E q => ?_⟩
  refine wpAny_Subscript_str_slice (hv.run s hs _ _ fun v s1 g1 n1 hs1 => h1.run s1 hs1 _ _ fun vl s2 g2 n2 hs2 => h2.run s2 hs2 _ _ fun vu s3 g3 n3 hs3 => ?_) ht
  obtain ⟨t, rfl⟩ := (show ∃ t, v = .str ⟨l.toArray⟩ t from g1)
  obtain ⟨ql, rfl, el⟩ := p1.val (g2.at.nx n3)
  obtain ⟨qu, rfl, eu⟩ := p2.val g3.at
  refine ⟨⟨l.toArray⟩, t, ql, qu, rfl, rfl, rfl, ?_⟩
  have nn : Nx s { s3 with heap := s3.heap.push { cls := .type "slice", data := .fields #[partValue ql, partValue qu, .none] } } := ((n1.trans n2).trans n3).trans (Nx.push _ _)
  have hs' := H.st _ _ nn hs
  have hlen : (⟨l.toArray⟩ : Str).length = l.length := by simp [Str.length]
  have hpk : (slicePicked ⟨l.toArray⟩ ql qu Option.none).filterMap ((⟨l.toArray⟩ : Str).cps[·]?) = cut lo hi l := by
    unfold slicePicked
    rw [el, eu, hlen]
    exact cut_str lo hi l
  unfold sliceMade
  split
  · rename_i hc
    have hc' : (slicePicked ⟨l.toArray⟩ ql qu Option.none).length = l.length := by
      rw [Bool.and_eq_true] at hc
      have := hc.2
      rw [hlen] at this
      exact beq_iff_eq.mp this
    have : cut lo hi l = l := by
      unfold slicePicked at hc'
      rw [el, eu, hlen] at hc'
      have hc2 : (strSliceIndices lo hi 1 l.length).length = l.length := hc'
      rw [clip_str, sliceRange_one, List.length_map, List.length_range] at hc2
      unfold cut
      have ha : lo.elim 0 (clipAt l.length) ≤ l.length := by
        cases lo with
        | none => exact Nat.zero_le _
        | some i => have := clipAt_cast l.length i; simp only [Option.elim]; omega
      have hb : hi.elim l.length (clipAt l.length) ≤ l.length := by
        cases hi with
        | none => exact Nat.le_refl _
        | some i => have := clipAt_cast l.length i; simp only [Option.elim]; omega
      have h0 : lo.elim 0 (clipAt l.length) = 0 ∨ l.length = 0 := by omega
      rcases h0 with h0 | h0
      · rw [h0, List.drop_zero, List.take_of_length_le (by omega)]
      · rw [List.length_eq_zero_iff.mp h0]; simp
    exact q _ _ ⟨t, by rw [this]⟩ nn hs'
  · rw [hpk]
    refine ⟨?_, q _ _ ⟨_, rfl⟩ (nn.trans (Nx.tok _ _)) (H.st _ _ (Nx.tok _ _) hs')⟩
    have h1 := cut_length_le lo hi l
    have h2 : sizeLine = 2 ^ 24 := rfl
    show (cut lo hi l).toArray.size ≤ sizeLine
    rw [List.size_toArray]
    omega
end

section
variable {prog : Program} {w : World} {A : Around}

theorem Op.mul (m n : Int) (hm : IntMulOk m n) : Op2 (model prog w) A (binaryOp .Mult) (.i m) (.i n) (.i (m * n)) := by
  rintro s _ _ Q E ⟨t, rfl⟩ ⟨u, rfl⟩ q
  exact P.mul_int (q _ _ ⟨_, rfl⟩ (Nx.tok s _)) hm
theorem Op.isub (m n : Int) : Op2 (model prog w) A (inplaceOp .Sub) (.i m) (.i n) (.i (m - n)) := by
  rintro s _ _ Q E ⟨t, rfl⟩ ⟨u, rfl⟩ q
  exact P.isub_int (q _ _ ⟨_, rfl⟩ (Nx.tok s _))
theorem Op.fdiv (m n : Int) (h : n ≠ 0) (hn : n.natAbs < 1073741824) : Op2 (model prog w) A (binaryOp .FloorDiv) (.i m) (.i n) (.i (m.fdiv n)) := by
  rintro s _ _ Q E ⟨t, rfl⟩ ⟨u, rfl⟩ q
  exact floordiv_int h (q _ _ ⟨_, rfl⟩ (Nx.tok s _)) (.inl (PyProof.noPylong_small hn))
theorem Op.pow (m n : Int) (hn : 0 ≤ n) (hn2 : n ≤ 1000000) (ha : m.natAbs < 2 ^ 64) : Op2 (model prog w) A (binaryOp .Pow) (.i m) (.i n) (.i (m ^ n.toNat)) := by
  rintro s _ _ Q E ⟨t, rfl⟩ ⟨u, rfl⟩ q
  exact pow_int_small hn hn2 ha (q _ _ ⟨_, rfl⟩ (Nx.tok s _))
theorem Op.ge (m n : Int) : Op2 (model prog w) A (compareOp .GtE) (.i m) (.i n) (.b (decide (n ≤ m))) := by
  rintro s _ _ Q E ⟨t, rfl⟩ ⟨u, rfl⟩ q
  exact PyProof.Rows.ge_int (q _ _ rfl (Nx.refl s))
theorem Op.sgt (x y : List Nat) : Op2 (model prog w) A (compareOp .Gt) (.s x) (.s y) (.b (decide (y < x))) := by
  rintro s _ _ Q E ⟨t, rfl⟩ ⟨u, rfl⟩ q
  exact P.gt_str (q _ _ rfl (Nx.refl s))
theorem Op.bsub (x y : Bool) : Op2 (model prog w) A (binaryOp .Sub) (.b x) (.b y) (.i (b2i x - b2i y)) := by
  rintro s _ _ Q E rfl rfl q
  exact PyProof.Rows.sub_bool (q _ _ ⟨_, rfl⟩ (Nx.tok s _))
theorem Op.neg (m : Int) : Op1 (model prog w) A (unaryOp .USub) (.i m) (.i (-m)) := by
  rintro s _ Q E ⟨t, rfl⟩ q
  exact P.neg_int (q _ _ ⟨_, rfl⟩ (Nx.tok s _))
theorem Op.sadd (x y : List Nat) (hz : x.length + y.length ≤ 2000) : Op2 (model prog w) A (binaryOp .Add) (.s x) (.s y) (.s (x ++ y)) := by
  rintro s _ _ Q E ⟨t, rfl⟩ ⟨u, rfl⟩ q
  refine P.add_str ?_
  split
  · rename_i h
    have : x = [] := by simpa [Str.length] using h
    subst this
    exact q _ _ ⟨u, rfl⟩ (Nx.refl s)
  · split
    · rename_i h
      have : y = [] := by simpa [Str.length] using h
      subst this
      exact q _ _ ⟨t, by rw [List.append_nil]⟩ (Nx.refl s)
    · refine ⟨?_, q _ _ ⟨s.toks, ?_⟩ (Nx.tok s _)⟩
      · have h2 : sizeLine = 2 ^ 24 := rfl
        show (x.toArray ++ y.toArray).size ≤ sizeLine
        rw [Array.size_append, List.size_toArray, List.size_toArray]
        omega
      · show Value.str ⟨x.toArray ++ y.toArray⟩ _ = Value.str ⟨(x ++ y).toArray⟩ _
        rw [List.append_toArray]

theorem Truth.str (l : List Nat) (hz : l.length ≤ 2000) : Truth (model prog w) A (.s l) (!l.isEmpty) := by
  rintro s _ Q E ⟨t, rfl⟩ q
  have hlen : (⟨l.toArray⟩ : Str).length = l.length := by simp [Str.length]
  have e : (!l.isEmpty) = (((⟨l.toArray⟩ : Str).length : Int) != 0) := by
    rw [hlen]
    cases l with
    | nil => rfl
    | cons a r =>
      symm
      show ((((a :: r).length : Nat) : Int) != 0) = true
      rw [bne_iff_ne, List.length_cons]; omega
  rw [e] at q
  exact P.truthy_str (by rw [hlen]; omega) (q _ (Nx.tok s _))
theorem Truth.int (n : Int) : Truth (model prog w) A (.i n) (n != 0) := by
  rintro s _ Q E ⟨t, rfl⟩ q
  exact P.truthy_int (q _ (Nx.refl s))
theorem Truth.bool (b : Bool) : Truth (model prog w) A (.b b) b := by
  rintro s _ Q E rfl q
  exact wpAny_truthy_bool (q _ (Nx.refl s))
theorem Op.isNone (d : D) (b : Bool) (h : ∀ s v, At s v d → (v == .none) = b) : Op2 (model prog w) A (compareOp .Is) d .n (.b b) := by
  rintro s v _ Q E g rfl q
  refine is_none ?_
  rw [h s v g]
  exact q _ _ rfl (Nx.refl s)
theorem Op.isNotNone (d : D) (b : Bool) (h : ∀ s v, At s v d → (v == .none) = !b) : Op2 (model prog w) A (compareOp .IsNot) d .n (.b b) := by
  rintro s v _ Q E g rfl q
  refine isNot_none ?_
  rw [h s v g]
  simpa using q _ _ rfl (Nx.refl s)

/- builtins -/
theorem Cb.len_str (l : List Nat) (hz : l.length ≤ 2000) : Cl1 (model prog w) A (.builtin "len") [.s l] (.i l.length) := by
  rintro s vs Q E g q
  obtain ⟨v, rfl, t, rfl⟩ := g.one
  focus
    have hlen : (⟨l.toArray⟩ : Str).length = l.length := by simp [Str.length]
    refine P.len_str (by rw [hlen]; omega) ?_
    rw [hlen]
    exact q _ _ ⟨_, rfl⟩ (Nx.tok s _)
theorem Cb.min2 (m n : Int) (hh : A.handled = none) : Cl1 (model prog w) A (.builtin "min") [.i m, .i n] (.i (if n < m then n else m)) := by
  rintro s vs Q E g q
  obtain ⟨v, v', rfl, ⟨t, rfl⟩, ⟨u, rfl⟩⟩ := g.two
  focus
    refine min_two_ints hh fun h' tk hk => q _ _ ?_ (Nx.of hk)
    split
    · exact ⟨u, rfl⟩
    · exact ⟨t, rfl⟩
theorem Cb.max2 (m n : Int) (hh : A.handled = none) : Cl1 (model prog w) A (.builtin "max") [.i m, .i n] (.i (if n > m then n else m)) := by
  rintro s vs Q E g q
  obtain ⟨v, v', rfl, ⟨t, rfl⟩, ⟨u, rfl⟩⟩ := g.two
  focus
    refine max_two_ints hh fun h' tk hk => q _ _ ?_ (Nx.of hk)
    split
    · exact ⟨u, rfl⟩
    · exact ⟨t, rfl⟩
theorem Cb.ord (c : Nat) : Cl1 (model prog w) A (.builtin "ord") [.s [c]] (.i c) := by
  rintro s vs Q E g q
  obtain ⟨v, rfl, t, rfl⟩ := g.one
  focus
    exact P.ord_of_char (q _ _ ⟨_, rfl⟩ (Nx.tok s _))
theorem Cb.chr (n : Int) (h0 : 0 ≤ n) (h1 : n ≤ 1114111) : Cl1 (model prog w) A (.builtin "chr") [.i n] (.s [n.toNat]) := by
  rintro s vs Q E g q
  obtain ⟨v, rfl, t, rfl⟩ := g.one
  focus
    exact chr_of_range h0 h1 (q _ _ ⟨_, rfl⟩ (Nx.tok s _))
end
end Mine

open PySem PySem.W PyProof.Rows
namespace Mine
set_option Elab.async false
set_option maxRecDepth 100000

noncomputable abbrev Vars := List (Str × Option D)
noncomputable abbrev Objs := List (Addr × (Obj → Prop))

/- a name's datum in a state -/
noncomputable def Var (env : Env) (s : Shared) (x : Str) (d : D) : Prop :=
  (env.kindOf x = some .local ∧ ∃ m v, s.heap.Ns env.locals m ∧ m x = some v ∧ Is0 v d) ∨
  (env.kindOf x = some .cell ∧ ∃ c v, env.cells.lookup x = some c ∧ s.heap.IsCell c (some v) ∧ Is0 v d)

/- a frame within a call: what was stands, the names' data, the made objects -/
structure Fm (s₀ : Shared) (env : Env) (vs : Vars) (os : Objs) (s : Shared) : Prop where
  nx : Nx s₀ s
  fresh : s₀.heap.get? env.locals = none
  ns : ∃ m, s.heap.Ns env.locals m
  var : ∀ (i : Nat) (x : Str) (d : D), vs[i]? = some (x, some d) → Var env s x d
  cells : ∀ (x : Str) (c : Addr), env.cells.lookup x = some c → c ≠ env.locals ∧ s₀.heap.get? c = none ∧ ∃ v, s.heap.IsCell c v
  apart : ∀ (x y : Str) (c : Addr), env.cells.lookup x = some c → env.cells.lookup y = some c → x = y
  own : ∀ p ∈ os, p.1 ≠ env.locals ∧ (∀ (x : Str) (c : Addr), env.cells.lookup x = some c → p.1 ≠ c) ∧ s₀.heap.get? p.1 = none ∧ ∃ o, s.heap.get? p.1 = some o ∧ p.2 o
  nodup : (os.map (·.1)).Nodup
  names : (vs.map (·.1)).Nodup

theorem Var.up {env : Env} {s s' : Shared} {x : Str} {d : D} (h : Var env s x d) (k : ∀ b o, s.heap.get? b = some o → s'.heap.get? b = some o) : Var env s' x d := by
  rcases h with ⟨hk, m, v, h1, h2, h3⟩ | ⟨hk, c, v, h1, h2, h3⟩
  · exact .inl ⟨hk, m, v, h1.keeps k, h2, h3⟩
  · exact .inr ⟨hk, c, v, h1, h2.keeps k, h3⟩

theorem Fm.nxt {s₀ s s' : Shared} {env : Env} {vs : Vars} {os : Objs} (F : Fm s₀ env vs os s) (n : Nx s s') : Fm s₀ env vs os s' :=
  ⟨F.nx.trans n, F.fresh, (let ⟨m, h⟩ := F.ns; ⟨m, h.keeps n.up⟩), fun i x d h => (F.var i x d h).up n.up, fun x c h => let ⟨h1, h2, v, h3⟩ := F.cells x c h; ⟨h1, h2, v, h3.keeps n.up⟩, F.apart,
    fun p hp => let ⟨h1, h2, h3, o, h4, h5⟩ := F.own p hp; ⟨h1, h2, h3, o, n.up _ _ h4, h5⟩, F.nodup, F.names⟩

noncomputable def FH (s₀ : Shared) (env : Env) (vs : Vars) (os : Objs) : HP := ⟨Fm s₀ env vs os, fun _ _ n F => F.nxt n⟩

theorem names_inj {vs : Vars} (h : (vs.map (·.1)).Nodup) {i j : Nat} {x : Str} {a b : Option D} (hi : vs[i]? = some (x, a)) (hj : vs[j]? = some (x, b)) : i = j := by
  have hi' : (vs.map (·.1))[i]? = some x := by rw [List.getElem?_map, hi]; rfl
  have hj' : (vs.map (·.1))[j]? = some x := by rw [List.getElem?_map, hj]; rfl
  have hlt : i < (vs.map (·.1)).length := (List.getElem?_eq_some_iff.mp hi').1
  exact (List.getElem?_inj hlt h).mp (hi'.trans hj'.symm)

theorem names_set {vs : Vars} {i : Nat} {x : Str} {a : Option D} (hi : vs[i]? = some (x, a)) (b : Option D) : (vs.set i (x, b)).map (·.1) = vs.map (·.1) := by
  rw [List.map_set]
  apply List.ext_getElem?
  intro j
  rw [List.getElem?_set]
  split
  · rename_i h
    subst h
    have h2 : (vs.map (·.1))[i]? = some x := by rw [List.getElem?_map, hi]; rfl
    rw [h2]
    split
    · rfl
    · rename_i h3
      have := (List.getElem?_eq_some_iff.mp h2).1
      exact absurd this h3
  · rfl

theorem set_at {vs : Vars} {i j : Nat} {x y : Str} {a : Option D} {d d' : D} (hn : (vs.map (·.1)).Nodup) (hi : vs[i]? = some (x, a)) (h : (vs.set i (x, some d))[j]? = some (y, some d')) :
    (y = x ∧ d' = d) ∨ (y ≠ x ∧ vs[j]? = some (y, some d')) := by
  rw [List.getElem?_set] at h
  split at h
  · split at h
    · injection h with h; injection h with h1 h2; injection h2 with h2; exact .inl ⟨h1.symm, h2.symm⟩
    · cases h
  · rename_i hij
    refine .inr ⟨?_, h⟩
    rintro rfl
    exact hij (names_inj hn hi h)

/- a local name stored -/
theorem Fm.stored {s₀ s : Shared} {env : Env} {vs : Vars} {os : Objs} (F : Fm s₀ env vs os s) {i : Nat} {x : Str} {a : Option D} {v : Value} {d : D} (hi : vs[i]? = some (x, a)) (hv : Is0 v d)
    (hk : env.kindOf x = some .local) {h' : Heap} {tk : Nat} {m : Str → Option Value} (hm : s.heap.Ns env.locals m)
    (hn : h'.Ns env.locals (fun y => if y = x then some v else m y)) (hs : Heap.SameBut env.locals s.heap h') : Fm s₀ env (vs.set i (x, some d)) os { s with heap := h', toks := tk } where
  nx := by
    refine ⟨fun b o e => ?_, F.nx.os, F.nx.gens, F.nx.bare⟩
    exact (hs.2 b (by rintro rfl; rw [F.fresh] at e; cases e)).trans (F.nx.up b o e)
  fresh := F.fresh
  ns := ⟨_, hn⟩
  var := by
    intro j y d' h
    rcases set_at F.names hi h with ⟨rfl, rfl⟩ | ⟨hne, h⟩
    · exact .inl ⟨hk, _, v, hn, by simp, hv⟩
    · rcases F.var j y d' h with ⟨hk', m', v', h1, h2, h3⟩ | ⟨hk', c, v', h1, h2, h3⟩
      · refine .inl ⟨hk', _, v', hn, ?_, h3⟩
        show (if y = x then some v else m y) = some v'
        rw [if_neg hne, ← h2]; exact hm.agree h1 y
      · exact .inr ⟨hk', c, v', h1, h2.sameBut hs (F.cells y c h1).1, h3⟩
  cells := fun x c h => let ⟨h1, h2, v, h3⟩ := F.cells x c h; ⟨h1, h2, v, h3.sameBut hs h1⟩
  apart := F.apart
  own := fun p hp => let ⟨h1, h2, h3, o, h4, h5⟩ := F.own p hp; ⟨h1, h2, h3, o, (hs.2 _ h1).trans h4, h5⟩
  nodup := F.nodup
  names := by rw [names_set hi]; exact F.names

/- a cell name stored -/
theorem Fm.storedC {s₀ s : Shared} {env : Env} {vs : Vars} {os : Objs} (F : Fm s₀ env vs os s) {i : Nat} {x : Str} {a : Option D} {v : Value} {d : D} (hi : vs[i]? = some (x, a)) (hv : Is0 v d)
    (hk : env.kindOf x = some .cell) {c : Addr} (hc : env.cells.lookup x = some c) {h' : Heap} {tk : Nat}
    (hn : h'.IsCell c (some v)) (hs : Heap.SameBut c s.heap h') : Fm s₀ env (vs.set i (x, some d)) os { s with heap := h', toks := tk } where
  nx := by
    refine ⟨fun b o e => ?_, F.nx.os, F.nx.gens, F.nx.bare⟩
    exact (hs.2 b (by rintro rfl; rw [(F.cells x _ hc).2.1] at e; cases e)).trans (F.nx.up b o e)
  fresh := F.fresh
  ns := let ⟨m, h⟩ := F.ns; ⟨m, h.sameBut hs (Ne.symm (F.cells x c hc).1)⟩
  var := by
    intro j y d' h
    rcases set_at F.names hi h with ⟨rfl, rfl⟩ | ⟨hne, h⟩
    · exact .inr ⟨hk, c, v, hc, hn, hv⟩
    · rcases F.var j y d' h with ⟨hk', m', v', h1, h2, h3⟩ | ⟨hk', c', v', h1, h2, h3⟩
      · exact .inl ⟨hk', m', v', h1.sameBut hs (Ne.symm (F.cells x c hc).1), h2, h3⟩
      · exact .inr ⟨hk', c', v', h1, h2.sameBut hs (by rintro rfl; exact hne (F.apart _ _ _ h1 hc)), h3⟩
  cells := by
    intro y c' h
    obtain ⟨h1, h2, v', h3⟩ := F.cells y c' h
    by_cases hcc : c' = c
    · subst hcc; exact ⟨h1, h2, _, hn⟩
    · exact ⟨h1, h2, v', h3.sameBut hs hcc⟩
  apart := F.apart
  own := fun p hp => let ⟨h1, h2, h3, o, h4, h5⟩ := F.own p hp; ⟨h1, h2, h3, o, (hs.2 _ (h2 x c hc)).trans h4, h5⟩
  nodup := F.nodup
  names := by rw [names_set hi]; exact F.names

/- a made object changed -/
theorem Fm.changed {s₀ s : Shared} {env : Env} {vs : Vars} {os : Objs} (F : Fm s₀ env vs os s) {j : Nat} {l : Addr} {T T' : Obj → Prop} (hj : os[j]? = some (l, T)) {h' : Heap} {tk : Nat} {o' : Obj}
    (ho : h'.get? l = some o') (hT : T' o') (hs : Heap.ExtBut l s.heap h') : Fm s₀ env vs (os.set j (l, T')) { s with heap := h', toks := tk } := by
  have hp := F.own (l, T) (List.mem_of_getElem? hj)
  have hset : (os.set j (l, T')).map (·.1) = os.map (·.1) := by
    rw [List.map_set]
    apply List.ext_getElem?
    intro i
    rw [List.getElem?_set]
    split
    · rename_i h
      subst h
      have h2 : (os.map (·.1))[j]? = some l := by rw [List.getElem?_map, hj]; rfl
      rw [h2, if_pos (List.getElem?_eq_some_iff.mp h2).1]
    · rfl
  have other : ∀ b o, b ≠ l → s.heap.get? b = some o → h'.get? b = some o := fun b o hb e => hs b o hb e
  refine ⟨⟨fun b o e => ?_, F.nx.os, F.nx.gens, F.nx.bare⟩, F.fresh, ?_, ?_, ?_, F.apart, ?_, ?_, F.names⟩
  · exact other b o (by rintro rfl; rw [hp.2.2.1] at e; cases e) (F.nx.up b o e)
  · obtain ⟨m, h⟩ := F.ns; exact ⟨m, h.extBut hs (Ne.symm hp.1)⟩
  · intro i x d h
    rcases F.var i x d h with ⟨hk', m', v', h1, h2, h3⟩ | ⟨hk', c', v', h1, h2, h3⟩
    · exact .inl ⟨hk', m', v', h1.extBut hs (Ne.symm hp.1), h2, h3⟩
    · obtain ⟨o, q1, q2⟩ := h2
      exact .inr ⟨hk', c', v', h1, ⟨o, other _ _ (Ne.symm (hp.2.1 x c' h1)) q1, q2⟩, h3⟩
  · intro x c h
    obtain ⟨h1, h2, v, o, q1, q2⟩ := F.cells x c h
    exact ⟨h1, h2, v, o, other _ _ (Ne.symm (hp.2.1 x c h)) q1, q2⟩
  · intro p hpm
    obtain ⟨i, hi⟩ := List.getElem?_of_mem hpm
    rw [List.getElem?_set] at hi
    split at hi
    · split at hi
      · injection hi with hi; subst hi
        exact ⟨hp.1, hp.2.1, hp.2.2.1, o', ho, hT⟩
      · cases hi
    · rename_i hij
      have hq := F.own p (List.mem_of_getElem? hi)
      obtain ⟨h1, h2, h3, o, h4, h5⟩ := hq
      refine ⟨h1, h2, h3, o, other _ _ ?_ h4, h5⟩
      intro e
      have a1 : (os.map (·.1))[i]? = some l := by rw [List.getElem?_map, hi]; exact congrArg some e
      have a2 : (os.map (·.1))[j]? = some l := by rw [List.getElem?_map, hj]; rfl
      exact hij ((List.getElem?_inj (List.getElem?_eq_some_iff.mp a2).1 F.nodup).mp (a2.trans a1.symm))
  · rw [hset]; exact F.nodup

/- a new object -/
theorem Fm.made {s₀ s s' : Shared} {env : Env} {vs : Vars} {os : Objs} (F : Fm s₀ env vs os s) (n : Nx s s') {a : Addr} {o : Obj} {T : Obj → Prop} (h0 : s.heap.get? a = none) (h1 : s'.heap.get? a = some o) (hT : T o) :
    Fm s₀ env vs ((a, T) :: os) s' := by
  have F' := F.nxt n
  refine ⟨F'.nx, F'.fresh, F'.ns, F'.var, F'.cells, F'.apart, ?_, ?_, F'.names⟩
  · intro p hp
    rcases List.mem_cons.mp hp with rfl | hp
    · refine ⟨?_, ?_, ?_, o, h1, hT⟩
      · rintro rfl
        obtain ⟨m, hm⟩ := F.ns
        obtain ⟨o', _, _, q, _⟩ := hm
        rw [h0] at q; cases q
      · rintro x c hc rfl
        obtain ⟨_, _, v, o', q, _⟩ := F.cells x _ hc
        rw [h0] at q; cases q
      · cases e : s₀.heap.get? a with
        | none => rfl
        | some o' => rw [F.nx.up _ _ e] at h0; cases h0
    · exact F'.own p hp
  · rw [List.map_cons, List.nodup_cons]
    refine ⟨?_, F.nodup⟩
    intro hm
    obtain ⟨p, hp, e⟩ := List.mem_map.mp hm
    obtain ⟨_, _, _, o', q, _⟩ := F.own p hp
    rw [e, h0] at q; cases q

theorem Fm.weak {s₀ s : Shared} {env : Env} {vs vs' : Vars} {os os' : Objs} (F : Fm s₀ env vs os s) (hv : ∀ (i : Nat) (x : Str) (d : D), vs'[i]? = some (x, some d) → vs[i]? = some (x, some d)) (hn : vs'.map (·.1) = vs.map (·.1))
    (ho : os'.Sublist os) : Fm s₀ env vs' os' s :=
  ⟨F.nx, F.fresh, F.ns, fun i x d h => F.var i x d (hv i x d h), F.cells, F.apart, fun p hp => F.own p (ho.subset hp), F.nodup.sublist (ho.map _), by rw [hn]; exact F.names⟩

theorem Got.is0 {s s' : Shared} {v : Value} {d : D} (g : Got s s' v d) (hd : ∀ T, d ≠ .o T) (hk : ∀ T, d ≠ .k T) : Is0 v d := by
  cases d with
  | o T => exact absurd rfl (hd T)
  | k T => exact absurd rfl (hk T)
  | _ => exact g

/- storing a name -/
theorem Fm.store {M : Model} {A : Around} {s₀ s : Shared} {env : Env} {vs : Vars} {os : Objs} (F : Fm s₀ env vs os s) {i : Nat} {x : Str} {a : Option D} {v : Value} {d : D} {Q : Unit → Shared → Prop} {E : Value → Shared → Prop}
    (hi : vs[i]? = some (x, a)) (hv : Is0 v d) (hf : env.scope.kind = .function) (hk : env.kindOf x = some .local ∨ (env.kindOf x = some .cell ∧ ∃ c, env.cells.lookup x = some c))
    (h : ∀ s', Fm s₀ env (vs.set i (x, some d)) os s' → Q () s') : wpAny M A (storeName env x v) Q E s := by
  rcases hk with hk | ⟨hk, c, hc⟩
  · obtain ⟨m, hm⟩ := F.ns
    exact wpAny_storeName_local hk hm (fun h' hn hs => h _ (F.stored hi hv hk hm hn hs)) (by rw [hf]; rfl)
  · obtain ⟨_, _, v₀, hc₀⟩ := F.cells x c hc
    exact wpAny_storeName_cell hf hk hc hc₀ fun h' hn hs => h _ (F.storedC (tk := s.toks) hi hv hk hc hn hs)

/- how a frame's names may be stored -/
structure Ok (env : Env) (xs : List Str) : Prop where
  fn : env.scope.kind = .function
  gl : env.globals = mainGlobals
  bl : env.builtins = builtinsNs
  st : ∀ x ∈ xs, env.kindOf x = some .local ∨ (env.kindOf x = some .cell ∧ ∃ c, env.cells.lookup x = some c)

section
variable {M : Model} {A : Around} {env : Env} {s₀ : Shared} {vs : Vars} {os : Objs} {xs : List Str}

theorem Ev.var {i : Nat} {x : Str} {d : D} {p : Pos} (K : Ok env xs) (hi : vs[i]? = some (x, some d)) (hd : (x == ("__debug__" : Str)) = false := by decide) : Ev M A env (FH s₀ env vs os) (.Name x p) d := by
  refine ⟨fun s hs Q E q => ?_⟩
  have F : Fm s₀ env vs os s := hs
  have done : ∀ v, Is0 v d → Q v s := fun v hv => q v s (by cases d <;> first | exact hv | exact hv.elim) (Nx.refl s) hs
  rcases F.var i x d hi with ⟨hk, m, v, h1, h2, h3⟩ | ⟨hk, c, v, h1, h2, h3⟩
  · exact wpAny_Name (wpAny_loadName_local K.fn hk h1 h2 (done v h3)) hd
  · exact wpAny_Name (wpAny_loadName_cell K.fn hk h1 h2 (done v h3)) hd

/- a name of a made object -/
theorem Ev.obj {i j : Nat} {x : Str} {a : Addr} {T : Obj → Prop} {p : Pos} (K : Ok env xs) (hi : vs[i]? = some (x, some (.r a))) (hj : os[j]? = some (a, T)) (hd : (x == ("__debug__" : Str)) = false := by decide) : Ev M A env (FH s₀ env vs os) (.Name x p) (.k T) :=
  (Ev.var K hi hd).know fun s (hs : Fm s₀ env vs os s) => let ⟨_, _, _, o, h1, h2⟩ := hs.own (a, T) (List.mem_of_getElem? hj); ⟨o, h1, h2⟩
/- a name of an object that was there at the call -/
theorem Ev.old {i : Nat} {x : Str} {a : Addr} {T : Obj → Prop} {p : Pos} (K : Ok env xs) (hi : vs[i]? = some (x, some (.r a))) (ho : ∃ o, s₀.heap.get? a = some o ∧ T o) (hd : (x == ("__debug__" : Str)) = false := by decide) : Ev M A env (FH s₀ env vs os) (.Name x p) (.k T) :=
  (Ev.var K hi hd).know fun s (hs : Fm s₀ env vs os s) => let ⟨o, h1, h2⟩ := ho; ⟨o, hs.nx.up _ _ h1, h2⟩

/- statements -/
structure Sm (M : Model) (A : Around) (env : Env) (F : Shared → Prop) (b : List Stmt) (Q : Flow → Shared → Prop) : Prop where
  run : ∀ s, F s → ∀ E, wpAny M A (execs b env) Q E s
noncomputable def Then (M : Model) (A : Around) (env : Env) (rest : List Stmt) (Q : Flow → Shared → Prop) : Flow → Shared → Prop := fun f s' => match f with
  | .next => ∀ E, wpAny M A (execs rest env) Q E s'
  | f => Q f s'

theorem Sm.nil {F : Shared → Prop} {Q : Flow → Shared → Prop} (h : ∀ s, F s → Q .next s) : Sm M A env F [] Q := ⟨fun s hs _ => wpAny_execs_nil (h s hs)⟩
theorem Sm.one {F : Shared → Prop} {st : Stmt} {rest : List Stmt} {Q : Flow → Shared → Prop} (h : ∀ s, F s → ∀ E, wpAny M A (exec st env) (Then M A env rest Q) E s) : Sm M A env F (st :: rest) Q := ⟨fun s hs E =>
  wpAny_execs_cons (wpAny_mono (h s hs E) (fun f s' h' => by cases f <;> first | exact h' E | exact h') fun _ _ e => e)⟩
theorem Sm.weak {F G : Shared → Prop} {b : List Stmt} {Q : Flow → Shared → Prop} (h : Sm M A env G b Q) (hF : ∀ s, F s → G s) : Sm M A env F b Q := ⟨fun s hs E => h.run s (hF s hs) E⟩

theorem Sm.brk {F : Shared → Prop} {p : Pos} {rest : List Stmt} {Q : Flow → Shared → Prop} (h : ∀ s, F s → Q .brk s) : Sm M A env F (.Break p :: rest) Q := .one fun s hs E => wpAny_Break (h s hs)

theorem Sm.ite {t : PySem.Expr} {x y : List Stmt} {p : Pos} {rest : List Stmt} {H : HP} {b : Bool} {Q : Flow → Shared → Prop} (ht : Tr M A env H t b) (hx : b = true → Sm M A env H.P x (Then M A env rest Q)) (hy : b = false → Sm M A env H.P y (Then M A env rest Q)) :
    Sm M A env H.P (.If t x y p :: rest) Q := .one fun s hs E => wpAny_If (ht.run s hs _ _ fun s' n hs' => by
      cases b with
      | true => exact (hx rfl).run s' hs' E
      | false => exact (hy rfl).run s' hs' E)
/- if without else -/
theorem Sm.when {t : PySem.Expr} {x : List Stmt} {p : Pos} {rest : List Stmt} {H : HP} {b : Bool} {Q : Flow → Shared → Prop} (ht : Tr M A env H t b) (hx : b = true → Sm M A env H.P x (Then M A env rest Q)) (hy : b = false → Sm M A env H.P rest Q) :
    Sm M A env H.P (.If t x [] p :: rest) Q := .ite ht hx fun h => .nil fun s hs E => (hy h).run s hs E

theorem Sm.assign {i : Nat} {x : Str} {a : Option D} {e : PySem.Expr} {p p' : Pos} {rest : List Stmt} {d : D} {Q : Flow → Shared → Prop} (K : Ok env xs) (hi : vs[i]? = some (x, a)) (hx : x ∈ xs) (he : Ev M A env (FH s₀ env vs os) e d) (hd : ∀ T, d ≠ .o T) (hk : ∀ T, d ≠ .k T)
    (h : Sm M A env (Fm s₀ env (vs.set i (x, some d)) os) rest Q) (hs : swapsWith e (some (.Name x p')) p.line env = pure false := by rfl) : Sm M A env (Fm s₀ env vs os) (.Assign [.Name x p'] e p :: rest) Q :=
  .one fun s hs' E => wpAny_Assign_Name (he.run s hs' _ _ fun v s' g n (F : Fm s₀ env vs os s') => F.store hi (g.is0 hd hk) K.fn (K.st x hx) fun s'' F' E => h.run s'' F' E) hs
/- x = a new object -/
theorem Sm.new {i : Nat} {x : Str} {a : Option D} {e : PySem.Expr} {p p' : Pos} {rest : List Stmt} {T : Obj → Prop} {Q : Flow → Shared → Prop} (K : Ok env xs) (hi : vs[i]? = some (x, a)) (hx : x ∈ xs) (he : Ev M A env (FH s₀ env vs os) e (.o T))
    (h : ∀ l, Sm M A env (Fm s₀ env (vs.set i (x, some (.r l))) ((l, T) :: os)) rest Q) (hs : swapsWith e (some (.Name x p')) p.line env = pure false := by rfl) : Sm M A env (Fm s₀ env vs os) (.Assign [.Name x p'] e p :: rest) Q :=
  .one fun s (hs' : Fm s₀ env vs os s) E => wpAny_Assign_Name (he.run s hs' _ _ fun v s' g n F => by
    obtain ⟨l, o, rfl, h0, h1, hT⟩ := g
    exact (hs'.made n h0 h1 hT).store hi (show Is0 (.ref l) (.r l) from rfl) K.fn (K.st x hx) fun s'' F' E => (h l).run s'' F' E) hs
theorem Sm.aug {i : Nat} {x : Str} {a d : D} {op : Operator} {e : PySem.Expr} {p p' : Pos} {rest : List Stmt} {d1 : D} {Q : Flow → Shared → Prop} (K : Ok env xs) (hi : vs[i]? = some (x, some a)) (hx : x ∈ xs) (he : Ev M A env (FH s₀ env vs os) e d1)
    (ho : Op2 M A (inplaceOp op) a d1 d) (hd : ∀ T, d ≠ .o T) (hk : ∀ T, d ≠ .k T)
    (h : Sm M A env (Fm s₀ env (vs.set i (x, some d)) os) rest Q) (hd' : (x == ("__debug__" : Str)) = false := by decide) : Sm M A env (Fm s₀ env vs os) (.AugAssign (.Name x p') op e p :: rest) Q :=
  .one fun s (F : Fm s₀ env vs os s) E => wpAny_AugAssign_Name (by
    have go : ∀ v, Is0 v a → wpAny M A (eval e env) (fun v' s₂ => wpAny M A (inplaceOp op v v') (fun r s₃ => wpAny M A (storeName env x r) (fun _ => Then M A env rest Q .next) E s₃) E s₂) E s := fun v hv =>
      he.run s F _ _ fun v' s2 g n F2 => ho s2 v v' _ _ (by cases a <;> first | exact hv | exact hv.elim) g.at fun r s3 g3 n3 => (F2.nxt n3).store hi (g3.is0 hd hk) K.fn (K.st x hx) fun s'' F' E => h.run s'' F' E
    rcases F.var i x a hi with ⟨hk, m, v, h1, h2, h3⟩ | ⟨hk, c, v, h1, h2, h3⟩
    · exact wpAny_loadName_local K.fn hk h1 h2 (go v h3)
    · exact wpAny_loadName_cell K.fn hk h1 h2 (go v h3))
end

section
variable {prog : Program} {w : World} {A : Around} {env : Env} {s₀ : Shared} {vs : Vars} {os : Objs} {xs : List Str}

theorem Sm.while {test : PySem.Expr} {body rest : List Stmt} {p : Pos} {Q : Flow → Shared → Prop} (J : Nat → Vars → Objs → Prop) (n : Nat) (h0 : J n vs os)
    (turn : ∀ n vs os, J n vs os → ∃ b, Tr (model prog w) A env (FH s₀ env vs os) test b ∧
      (b = true → Sm (model prog w) A env (Fm s₀ env vs os) body (fun f s' => match f with
        | .next | .cont => ∃ m vs' os', m < n ∧ J m vs' os' ∧ Fm s₀ env vs' os' s'
        | .brk => Then (model prog w) A env rest Q .next s'
        | .ret v => Q (.ret v) s')) ∧
      (b = false → Sm (model prog w) A env (Fm s₀ env vs os) rest Q)) : Sm (model prog w) A env (Fm s₀ env vs os) (.While test body [] p :: rest) Q :=
  .one fun s hs E => wpAny_While (codeAny_whileLoop (fun n s => ∃ vs os, J n vs os ∧ Fm s₀ env vs os s) (fun n s hI => by
    obtain ⟨vs', os', hJ, F⟩ := hI
    obtain ⟨b, ht, h1, h2⟩ := turn n vs' os' hJ
    refine ht.run s F _ _ fun s1 n1 F1 => ?_
    cases b with
    | true =>
      refine wpAny_mono ((h1 rfl).run s1 F1 _) (fun f s3 h3 => ?_) fun _ _ e => e
      cases f with
      | next => obtain ⟨m, a, b, q1, q2, q3⟩ := h3; exact ⟨m, q1, a, b, q2, q3⟩
      | cont => obtain ⟨m, a, b, q1, q2, q3⟩ := h3; exact ⟨m, q1, a, b, q2, q3⟩
      | brk => exact h3
      | ret v => exact h3
    | false => exact wpAny_execs_nil fun E => (h2 rfl).run s1 F1 E) n ⟨vs, os, h0, hs⟩)
end
end Mine

open PySem PySem.W PyProof.Rows
namespace Mine
set_option Elab.async false
set_option maxRecDepth 100000
set_option linter.unusedVariables false

noncomputable def Is0s : List Value → List D → Prop
  | [], [] => True
  | v :: vs, d :: ds => Is0 v d ∧ Is0s vs ds
  | _, _ => False
theorem Is0s.length : ∀ {vs : List Value} {ds : List D}, Is0s vs ds → vs.length = ds.length
  | [], [], _ => rfl
  | _ :: _, _ :: _, x => by simp [Is0s.length x.2]
  | [], _ :: _, x => x.elim
  | _ :: _, [], x => x.elim
theorem Is0s.append : ∀ {vs us : List Value} {ds es : List D}, Is0s vs ds → Is0s us es → Is0s (vs ++ us) (ds ++ es)
  | [], _, [], _, _, y => y
  | _ :: _, _, _ :: _, _, x, y => ⟨x.1, Is0s.append x.2 y⟩
  | [], _, _ :: _, _, x, _ => x.elim
  | _ :: _, _, [], _, x, _ => x.elim
theorem Is0s.get : ∀ {vs : List Value} {ds : List D} (i : Nat) {d : D}, Is0s vs ds → ds[i]? = some d → ∃ v, vs[i]? = some v ∧ Is0 v d
  | v :: _, d :: _, 0, _, x, h => by cases h; exact ⟨v, rfl, x.1⟩
  | _ :: vs, _ :: ds, i + 1, d, x, h => Is0s.get (vs := vs) (ds := ds) i x.2 h
  | [], [], _, _, _, h => nomatch h
  | [], _ :: _, _, _, x, _ => x.elim
  | _ :: _, [], _, _, x, _ => x.elim
theorem Is0s.drop : ∀ {vs : List Value} {ds : List D} (n : Nat), Is0s vs ds → Is0s (vs.drop n) (ds.drop n)
  | _, _, 0, x => x
  | [], [], _ + 1, _ => trivial
  | _ :: vs, _ :: ds, n + 1, x => Is0s.drop (vs := vs) (ds := ds) n x.2
  | [], _ :: _, _, x => x.elim
  | _ :: _, [], _, x => x.elim
theorem Is0s.take : ∀ {vs : List Value} {ds : List D} (n : Nat), Is0s vs ds → Is0s (vs.take n) (ds.take n)
  | [], [], 0, _ => trivial
  | _ :: _, _ :: _, 0, _ => trivial
  | [], [], _ + 1, _ => trivial
  | _ :: vs, _ :: ds, n + 1, x => ⟨x.1, Is0s.take (vs := vs) (ds := ds) n x.2⟩
  | [], _ :: _, _, x => x.elim
  | _ :: _, [], _, x => x.elim
theorem Is0s.set : ∀ {vs : List Value} {ds : List D} (n : Nat) {v : Value} {d : D}, Is0s vs ds → Is0 v d → Is0s (vs.set n v) (ds.set n d)
  | [], [], _, _, _, _, _ => trivial
  | _ :: _, _ :: _, 0, _, _, x, y => ⟨y, x.2⟩
  | _ :: vs, _ :: ds, n + 1, _, _, x, y => ⟨x.1, Is0s.set (vs := vs) (ds := ds) n x.2 y⟩
  | [], _ :: _, _, _, _, x, _ => x.elim
  | _ :: _, [], _, _, _, x, _ => x.elim

/- a list that tells ds -/
noncomputable def Ls (ds : List D) : Obj → Prop := fun o => ∃ items n, o = { cls := .type "list", data := .seq items n } ∧ Is0s items.toList ds
/- a range object -/
noncomputable def Rg (a b c : Int) : Obj → Prop := fun o => ∃ t u v, o = { cls := .type "range", data := .fields #[.int a t, .int b u, .int c v] }

/- an expression that gives this very value -/
noncomputable def Fv (M : Model) (A : Around) (env : Env) (H : HP) (e : PySem.Expr) (v : Value) : Prop :=
  ∀ (s : Shared), H.P s → ∀ (Q : Value → Shared → Prop) (E : Value → Shared → Prop), (∀ s', Nx s s' → H.P s' → Q v s') → wpAny M A (eval e env) Q E s
/- a call under a property of states -/
noncomputable def Cr (M : Model) (A : Around) (K : HP) (f : Value) (ds : List D) (d : D) : Prop :=
  ∀ (s : Shared) vs (Q : Value → Shared → Prop) (E : Value → Shared → Prop), K.P s → Ats s vs ds → (∀ v s', Got s s' v d → Nx s s' → Q v s') → wpAny M A (PySem.call f vs) Q E s
theorem Cl1.cr {M : Model} {A : Around} {K : HP} {f : Value} {ds : List D} {d : D} (h : Cl1 M A f ds d) : Cr M A K f ds d := fun s vs Q E _ g q => h s vs Q E g q

section
variable {M : Model} {A : Around} {env : Env} {H : HP} {xs : List Str}

theorem Ev.callB {func e : PySem.Expr} {rest : List PySem.Expr} {pos : Pos} {id : String} {ds : List D} {d : D} (hf : Fv M A env H func (.builtin id)) (ha : Avs M A H (spliced (backTo pos (starEach (e :: rest) env))) ds) (hc : Cr M A H (.builtin id) ds d)
    (he : starEach (e :: rest) env = (false, eval e env) :: starEach rest env := by rfl) (hplain : (backTo pos (starEach rest env)).any (·.1) = false := by rfl)
    (he' : eval (.Call func (e :: rest) [] pos) env = (do callWith pos (← eval func env) [] (backTo pos (starEach (e :: rest) env)) (backToKw pos (keywordEach [] env))) := by rfl) : Ev M A env H (.Call func (e :: rest) [] pos) d :=
  ⟨fun s hs Q E q => Call_ (hf s hs _ _ fun s1 n1 h1 => callWith_builtin1 (ha.run s1 h1 _ _ fun vs s2 g2 n2 h2 => hc s2 vs _ _ h2 g2 fun v s3 g3 n3 => q v s3 (g3.nx (n1.trans n2) (Nx.refl _)) ((n1.trans n2).trans n3) (H.st _ _ n3 h2)) he hplain) he'⟩
theorem Ev.callT {func e : PySem.Expr} {rest : List PySem.Expr} {pos : Pos} {T : String} {ds : List D} {d : D} (hf : Fv M A env H func (.type T)) (ha : Avs M A H (spliced (backTo pos (starEach (e :: rest) env))) ds) (hc : Cr M A H (.type T) ds d)
    (he : starEach (e :: rest) env = (false, eval e env) :: starEach rest env := by rfl) (hplain : (backTo pos (starEach rest env)).any (·.1) = false := by rfl)
    (he' : eval (.Call func (e :: rest) [] pos) env = (do callWith pos (← eval func env) [] (backTo pos (starEach (e :: rest) env)) (backToKw pos (keywordEach [] env))) := by rfl) : Ev M A env H (.Call func (e :: rest) [] pos) d :=
  ⟨fun s hs Q E q => Call_ (hf s hs _ _ fun s1 n1 h1 => PyProof.Rows.callWith_type1 (ha.run s1 h1 _ _ fun vs s2 g2 n2 h2 => hc s2 vs _ _ h2 g2 fun v s3 g3 n3 => q v s3 (g3.nx (n1.trans n2) (Nx.refl _)) ((n1.trans n2).trans n3) (H.st _ _ n3 h2)) he hplain) he'⟩
/- a call of a def -/
theorem Ev.callD {func e : PySem.Expr} {rest : List PySem.Expr} {pos : Pos} {f : Addr} {ds : List D} {d : D} (hf : Fv M A env H func (.ref f)) (hfn : ∀ s, H.P s → ∃ o fd, s.heap.get? f = some o ∧ o.data = .func fd)
    (ha : Avs M A H (spliced (backTo pos (starEach (e :: rest) env))) ds) (hc : Cr M A H (.ref f) ds d)
    (he : starEach (e :: rest) env = (false, eval e env) :: starEach rest env := by rfl)
    (he' : eval (.Call func (e :: rest) [] pos) env = (do callWith pos (← eval func env) [] (backTo pos (starEach (e :: rest) env)) (backToKw pos (keywordEach [] env))) := by rfl) : Ev M A env H (.Call func (e :: rest) [] pos) d :=
  ⟨fun s hs Q E q => Call_ (hf s hs _ _ fun s1 n1 h1 => by
    obtain ⟨o, fd, ho, hd⟩ := hfn s1 h1
    exact callWith_def hd (ha.run s1 h1 _ _ fun vs s2 g2 n2 h2 => ⟨n2.up _ _ ho, hc s2 vs _ _ h2 g2 fun v s3 g3 n3 => q v s3 (g3.nx (n1.trans n2) (Nx.refl _)) ((n1.trans n2).trans n3) (H.st _ _ n3 h2)⟩) he) he'⟩

variable {N : Nat} {mg mb : Str → Option Value} {defs : List DefItem} {consts : List (Str × PyData)} {objs : List (Str × (Obj → Prop))} {names : List Str}
theorem Fv.builtin {x : Str} {pos : Pos} {v : Value} (K : Ok env xs) (G : ∀ s, H.P s → PyProof.Rows.Glob N mg mb defs consts objs names s.heap) (hv : bootBuiltins x = some v)
    (hfree : x ∉ names := by decide +kernel) (hboot : x ∉ bootMainNames := by decide +kernel) (hn : x ≠ "__name__" := by decide +kernel) (hx : env.kindOf x = some .globalImplicit)
    (hd : (x == ("__debug__" : Str)) = false := by decide +kernel) : Fv M A env H (.Name x pos) v := fun s hs Q E q => by
  have G := G s hs
  have g1 := G.g
  have g2 := G.b
  rw [← K.gl] at g1
  rw [← K.bl] at g2
  exact Calls.Name_function_global K.fn hx (Calls.loadGlobal_builtin g1 (G.free x hfree hboot) g2 ((G.builtins x hn).trans hv) (q s (Nx.refl s) hs)) hd
theorem Fv.global {x : Str} {pos : Pos} {v : Value} (K : Ok env xs) (G : ∀ s, H.P s → PyProof.Rows.Glob N mg mb defs consts objs names s.heap) (hv : mg x = some v) (hx : env.kindOf x = some .globalImplicit)
    (hd : (x == ("__debug__" : Str)) = false := by decide +kernel) : Fv M A env H (.Name x pos) v := fun s hs Q E q => by
  have g1 := (G s hs).g
  rw [← K.gl] at g1
  exact Calls.Name_function_global K.fn hx (Calls.loadGlobal_global g1 hv (q s (Nx.refl s) hs)) hd
theorem Fv.ev {e : PySem.Expr} {v : Value} {d : D} (h : Fv M A env H e v) (hv : Is0 v d) : Ev M A env H e d := ⟨fun s hs Q E q => h s hs _ _ fun s' n hs' => q v s' (by cases d <;> first | exact hv | exact hv.elim) n hs'⟩
/- a global int -/
theorem Ev.gint {x : Str} {pos : Pos} {i : Int} (K : Ok env xs) (G : ∀ s, H.P s → PyProof.Rows.Glob N mg mb defs consts objs names s.heap) (hp : (x, PyData.int i) ∈ consts) (hx : env.kindOf x = some .globalImplicit)
    (hd : (x == ("__debug__" : Str)) = false := by decide +kernel) : Ev M A env H (.Name x pos) (.i i) := ⟨fun s hs Q E q => by
  obtain ⟨v, hv, hdat⟩ := (G s hs).bound _ hp
  obtain ⟨t, rfl⟩ := hdat.int
  exact ((Fv.global K G hv hx hd).ev (d := .i i) ⟨t, rfl⟩).run s hs Q E q⟩
/- a global object -/
theorem Ev.gobj {x : Str} {pos : Pos} {T : Obj → Prop} (K : Ok env xs) (G : ∀ s, H.P s → PyProof.Rows.Glob N mg mb defs consts objs names s.heap) (hp : (x, T) ∈ objs) (hx : env.kindOf x = some .globalImplicit)
    (hd : (x == ("__debug__" : Str)) = false := by decide +kernel) : Ev M A env H (.Name x pos) (.k fun o => T o) := ⟨fun s hs Q E q => by
  obtain ⟨b, o, hN, hb, ho, hq⟩ := (G s hs).held _ hp
  exact (Fv.global K G hb hx hd) s hs _ _ fun s' n hs' => q _ s' ⟨b, o, rfl, n.up _ _ ho, hq⟩ n hs'⟩
end

/- the arguments as the callee's names hold them -/
noncomputable def Low (s : Shared) : D → D → Prop
  | .o T, d0 => ∃ a o, d0 = .r a ∧ s.heap.get? a = some o ∧ T o
  | .k T, d0 => ∃ a o, d0 = .r a ∧ s.heap.get? a = some o ∧ T o
  | d, d0 => d0 = d
noncomputable def Lows (s : Shared) : List D → List D → Prop
  | [], [] => True
  | d :: ds, e :: es => Low s d e ∧ Lows s ds es
  | _, _ => False
theorem At.low {s : Shared} {v : Value} {d : D} (h : At s v d) : ∃ d0, Low s d d0 ∧ Is0 v d0 := by
  cases d with
  | o T => obtain ⟨a, o, h1, h2, h3⟩ := h; exact ⟨.r a, ⟨a, o, rfl, h2, h3⟩, h1⟩
  | k T => obtain ⟨a, o, h1, h2, h3⟩ := h; exact ⟨.r a, ⟨a, o, rfl, h2, h3⟩, h1⟩
  | i n => exact ⟨_, rfl, h⟩
  | s l => exact ⟨_, rfl, h⟩
  | b l => exact ⟨_, rfl, h⟩
  | n => exact ⟨_, rfl, h⟩
  | r l => exact ⟨_, rfl, h⟩
  | v l => exact ⟨_, rfl, h⟩
theorem Ats.low {s : Shared} : ∀ {vs : List Value} {ds : List D}, Ats s vs ds → ∃ es, Lows s ds es ∧ Is0s vs es
  | [], [], _ => ⟨[], trivial, trivial⟩
  | v :: vs, d :: ds, h => by
    obtain ⟨e, h1, h2⟩ := h.1.low
    obtain ⟨es, h3, h4⟩ := Ats.low h.2
    exact ⟨e :: es, ⟨h1, h3⟩, ⟨h2, h4⟩⟩
  | [], _ :: _, h => h.elim
  | _ :: _, [], h => h.elim

theorem lookup_mem {x : Str} {v : Value} : ∀ {l : List (Str × Value)}, (l.map (·.1)).Nodup → (x, v) ∈ l → l.lookup x = some v
  | (y, u) :: l, hn, hm => by
    rw [List.map_cons, List.nodup_cons] at hn
    rw [List.lookup_cons]
    rcases List.mem_cons.mp hm with h | h
    · cases h; simp
    · have : (x == y) = false := beq_eq_false_iff_ne.mpr fun e => hn.1 (e ▸ List.mem_map.mpr ⟨_, h, rfl⟩)
      rw [this]; exact lookup_mem hn.2 h
  | [], _, hm => nomatch hm

/- a frame's names at the call -/
noncomputable def entry (ps : List Str) (es : List D) (ls : List Str) : Vars := (ps.zip (es.map some)) ++ ls.map fun x => (x, none)

theorem zip_map_fst {α β : Type} : ∀ {ps : List α} {es : List β}, ps.length = es.length → (ps.zip es).map (·.1) = ps
  | [], [], _ => rfl
  | _ :: ps, _ :: es, h => by simp [zip_map_fst (ps := ps) (es := es) (by simpa using h)]
  | [], _ :: _, h => by simp at h
  | _ :: _, [], h => by simp at h

theorem entry_names {ps : List Str} {es : List D} {ls : List Str} (h : ps.length = es.length) : (entry ps es ls).map (·.1) = ps ++ ls := by
  unfold entry
  rw [List.map_append, List.map_map, zip_map_fst (by simpa using h)]
  congr 1
  exact List.map_id' ls

theorem entry_get {ps : List Str} {es : List D} {ls : List Str} {i : Nat} {x : Str} {d : D} (h : (entry ps es ls)[i]? = some (x, some d)) : ps[i]? = some x ∧ es[i]? = some d := by
  unfold entry at h
  rw [List.getElem?_append] at h
  split at h
  · rw [List.getElem?_zip_eq_some] at h
    refine ⟨h.1, ?_⟩
    have := h.2
    rw [List.getElem?_map] at this
    cases he : es[i]? with
    | none => rw [he] at this; cases this
    | some e => rw [he] at this; cases this; rfl
  · rw [List.getElem?_map] at h
    cases he : ls[i - (ps.zip (es.map some)).length]? with
    | none => rw [he] at h; cases h
    | some e => rw [he] at h; cases h

theorem Cr.plain {prog : Program} {w : World} {A : Around} {K : HP} {d : DefItem} {a : Addr} {ds : List D} {r : D} (ps ls : List Str)
    (hf : ∀ s, K.P s → s.heap.NoLimit ∧ ∃ o pm c' doc, s.heap.get? a = some o ∧ o.data = .func (Calls.docDef d.name d.params d.body d.scope pm (.ref c') doc) ∧ s.heap.CodeRec (.ref c') d.name)
    (hroom : A.depth < recursionLimit) (hlen : ps.length = ds.length) (hnd : (ps ++ ls).Nodup)
    (hbind : ∀ vs : List Value, vs.length = ps.length → ∀ pm c doc, bindArgs (Calls.docDef d.name d.params d.body d.scope pm c doc) ⟨vs, []⟩ = pure (ps.zip vs))
    (hloc : ∀ x ∈ ps ++ ls, d.scope.names.lookup x = some .local)
    (hco : d.scope.isCoroutine = false) (hgen : d.scope.isGenerator = false) (hk : d.scope.kind = .function) (hcell : ∀ x ∈ d.scope.names, x.2 ≠ .cell)
    (body : ∀ (s₀ : Shared) (env : Env) (es : List D), K.P s₀ → Lows s₀ ds es → Ok env (ps ++ ls) → env.scope = d.scope →
      Sm (model prog w) (A.deeper env) env (Fm s₀ env (entry ps es ls) []) d.body (fun f s' => Got s₀ s' (match f with | .ret v => v | _ => .none) r ∧ Nx s₀ s')) :
    Cr (model prog w) A K (.ref a) ds r := by
  intro s vs Q E hK hA q
  obtain ⟨hlim, o, pm, c', doc, ho, hd, hcd⟩ := hf s hK
  obtain ⟨es, hL, hI⟩ := hA.low
  have hvl : vs.length = ps.length := hA.length.trans hlen.symm
  refine wpAny_call (call_plain_ret (name := d.name) (params := d.params) (body := d.body) (scope := d.scope) (binds := ps.zip vs) hroom ho hd hlim hcd (hbind vs hvl pm _ doc) (fun x hx => hloc _ (List.mem_append_left _ (by
      have := List.mem_map_of_mem (f := (·.1)) hx
      rw [zip_map_fst hvl.symm] at this
      exact this))) (fun h₁ F => ?_) hco hgen hk hcell)
  have hO : Ok (envOf d.name d.scope s.heap.objs.size a (.ref c')) (ps ++ ls) := ⟨hk, rfl, rfl, fun x hx => .inl (hloc x hx)⟩
  refine wpAny_mono ((body s _ es hK hL hO rfl).run _ ?_ (fun _ _ => False)) (fun f s' h => q _ s' h.1 h.2) fun _ _ e => e
  have hel : ps.length = es.length := hvl.symm.trans hI.length
  refine ⟨⟨F.keep, rfl, fun _ _ e => e, fun e => e⟩, fresh_size _ _ (Nat.le_refl _), ⟨_, F.ns⟩, ?_, (fun x c h => nomatch h), (fun x y c h => nomatch h), (fun p hp => nomatch hp), List.nodup_nil, by rw [entry_names hel]; exact hnd⟩
  intro i x dd h
  obtain ⟨h1, h2⟩ := entry_get h
  obtain ⟨v, hv1, hv2⟩ := hI.get i h2
  refine .inl ⟨hloc x (List.mem_append_left _ (List.mem_of_getElem? h1)), _, v, F.ns, ?_, hv2⟩
  refine lookup_mem ?_ ?_
  · rw [List.map_reverse, zip_map_fst hvl.symm]
    exact List.pairwise_reverse.mpr ((List.nodup_append.mp hnd).1.imp fun h => Ne.symm h)
  · rw [List.mem_reverse]
    exact List.mem_of_getElem? (i := i) (by rw [List.getElem?_zip_eq_some]; exact ⟨h1, hv1⟩)
end Mine

open PySem PySem.W PyProof.Rows
namespace Mine
set_option Elab.async false
set_option maxRecDepth 100000
set_option linter.unusedVariables false

noncomputable def lowL (l : List Nat) : List Nat := (Txt.lower ⟨l.toArray⟩).cps.toList
noncomputable def upL (l : List Nat) : List Nat := (Txt.upper ⟨l.toArray⟩).cps.toList

section
variable {prog : Program} {w : World} {A : Around} {env : Env} {H : HP} {xs : List Str}

theorem Ev.lower {o : PySem.Expr} {apos pos : Pos} {l : List Nat} (ho : Ev (model prog w) A env H o (.s l)) (hz : l.length ≤ 2000)
    (hbase : attributeBase o "lower" env (eval o env) = eval o env := by rfl) (hline : (apos.endLine == pos.line) = true := by rfl) :
    Ev (model prog w) A env H (.Call (.Attribute o "lower" apos) [] [] pos) (.s (lowL l)) := ⟨fun s hs Q E q =>
  Call_method0 hbase hline (ho.run s hs _ _ fun v s1 g1 n1 h1 => by
    obtain ⟨t, rfl⟩ := (show ∃ t, v = .str ⟨l.toArray⟩ t from g1)
    exact PyProof.Rows.SBL.lower (by show l.toArray.size ≤ _; rw [List.size_toArray]; omega) fun _ => q _ _ ⟨_, rfl⟩ (n1.trans (Nx.tok _ _)) (H.st _ _ (Nx.tok _ _) h1))⟩
theorem Ev.upper {o : PySem.Expr} {apos pos : Pos} {l : List Nat} (ho : Ev (model prog w) A env H o (.s l)) (hz : l.length ≤ 2000)
    (hbase : attributeBase o "upper" env (eval o env) = eval o env := by rfl) (hline : (apos.endLine == pos.line) = true := by rfl) :
    Ev (model prog w) A env H (.Call (.Attribute o "upper" apos) [] [] pos) (.s (upL l)) := ⟨fun s hs Q E q =>
  Call_method0 hbase hline (ho.run s hs _ _ fun v s1 g1 n1 h1 => by
    obtain ⟨t, rfl⟩ := (show ∃ t, v = .str ⟨l.toArray⟩ t from g1)
    exact PyProof.Rows.SBL.upper (by show l.toArray.size ≤ _; rw [List.size_toArray]; omega) fun _ => q _ _ ⟨_, rfl⟩ (n1.trans (Nx.tok _ _)) (H.st _ _ (Nx.tok _ _) h1))⟩

/- a str's sign at a place -/
theorem Ev.sign {value slice : PySem.Expr} {pos : Pos} {l : List Nat} {k : Int} {c : Nat} (hv : Ev (model prog w) A env H value (.s l)) (hi : Ev (model prog w) A env H slice (.i k)) (hlo : -(2 ^ 63) ≤ k) (hhi : k < 2 ^ 63)
    (hc : (seqIndex? k l.length).bind (l[·]?) = some c)
    (hs : ∀ t u, subscripted slice false (.str ⟨l.toArray⟩ t) (.int k u) = operate [.str ⟨l.toArray⟩ t, .int k u] (getItem (.str ⟨l.toArray⟩ t) (.int k u)) := by intro _ _; with_unfolding_all rfl)
    (ht : ∀ o r, letTemporaryGo value o r = pure () := by intro _ _; with_unfolding_all rfl) :
    Ev (model prog w) A env H (.Subscript value slice pos) (.s [c]) := ⟨fun s h0 Q E q =>
  Subscript_ (hv.run s h0 _ _ fun v s1 g1 n1 h1 => hi.run s1 h1 _ _ fun i s2 g2 n2 h2 => by
    obtain ⟨t, rfl⟩ := (show ∃ t, v = .str ⟨l.toArray⟩ t from g1)
    obtain ⟨u, rfl⟩ := (show ∃ t, i = .int k t from g2)
    have a1 : ¬ k < -(2 ^ 63 : Int) := by omega
    have a2 : ¬ k ≥ (2 ^ 63 : Int) := by omega
    refine subscriptTail_builtin (typeIs_str _ _ _) F.slot_str_getitem.lookup (P.getItem_str (c := c) (by rw [decide_eq_false a1, decide_eq_false a2]; rfl) ?_ ?_) (hs t u) (ht _)
    · show (seqIndex? k l.toArray.size).bind (l.toArray[·]?) = some c
      rw [List.size_toArray]
      simpa using hc
    · exact q _ _ ⟨_, rfl⟩ ((n1.trans n2).trans (Nx.tok _ _)) (H.st _ _ (Nx.tok _ _) h2))⟩
end
end Mine

open PySem PySem.W PyProof.Rows
namespace Mine
set_option Elab.async false
set_option maxRecDepth 100000
set_option linter.unusedVariables false

theorem kd {env : Env} {d : DefItem} {x : Str} {k : NameKind} (h : env.scope = d.scope) (e : d.scope.names.lookup x = some k) : env.kindOf x = some k := by unfold Env.kindOf; rw [h]; exact e

/- a list that tells ds, however it lies -/
noncomputable def Lo (ds : List D) : Obj → Prop := fun o => o.cls = .type "list" ∧ ∃ items n, o.data = .seq items n ∧ Is0s items.toList ds
theorem Ls.lo {ds : List D} {o : Obj} (h : Ls ds o) : Lo ds o := by obtain ⟨items, n, rfl, h⟩ := h; exact ⟨rfl, items, n, rfl, h⟩
theorem Lo.is {ds : List D} {o : Obj} {s : Shared} {a : Addr} (h : Lo ds o) (ho : s.heap.get? a = some o) : ∃ items : Array Value, s.heap.IsList a items ∧ Is0s items.toList ds ∧ items.size = ds.length := by
  obtain ⟨hc, items, n, hd, h⟩ := h
  exact ⟨items, ⟨o, ho, hc, n, hd⟩, h, by rw [← Array.length_toList]; exact h.length⟩

theorem Gv.lo {M : Model} {A : Around} {H : HP} {t : Sem Value} {ds : List D} (h : Gv M A H t (.k (Ls ds))) : Gv M A H t (.k (Lo ds)) := h.imp fun s s' v g => by
  obtain ⟨a, o, h1, h2, h3⟩ := g; exact ⟨a, o, h1, h2, h3.lo⟩

theorem Is0.got {s s' : Shared} {v : Value} {d : D} (h : Is0 v d) : Got s s' v d := by cases d <;> first | exact h | exact h.elim

section
variable {prog : Program} {w : World} {A : Around} {env : Env} {H : HP} {xs : List Str}

/- a list's item, counted from the front -/
theorem Ev.item {value slice : PySem.Expr} {pos : Pos} {ds : List D} {k : Int} {d : D} (hv : Ev (model prog w) A env H value (.k (Lo ds))) (hi : Ev (model prog w) A env H slice (.i k)) (h0 : 0 ≤ k) (hhi : k < 2 ^ 63)
    (hd : ds[k.toNat]? = some d)
    (hs : ∀ l u, subscripted slice false (.ref l) (.int k u) = operate [.ref l, .int k u] (getItem (.ref l) (.int k u)) := by intro _ _; with_unfolding_all rfl)
    (ht : ∀ o r, letTemporaryGo value o r = pure () := by intro _ _; with_unfolding_all rfl) :
    Ev (model prog w) A env H (.Subscript value slice pos) d := ⟨fun s hs0 Q E q =>
  Subscript_ (hv.run s hs0 _ _ fun v s1 g1 n1 h1 => hi.run s1 h1 _ _ fun i s2 g2 n2 h2 => by
    obtain ⟨l, o, rfl, ho, hL⟩ := g1
    obtain ⟨u, rfl⟩ := (show ∃ t, i = .int k t from g2)
    obtain ⟨items, hl, hI, _⟩ := hL.is (n2.up _ _ ho)
    obtain ⟨x, hx, hd⟩ := hI.get _ hd
    exact subscriptTail_builtin hl.typeIs slot_list_getitem.lookup (wpAny_getItem_list hl h0 hhi (by simpa using hx) (q _ _ hd.got (n1.trans n2) h2)) (hs _ _) (ht _))⟩
/- a list's item, counted from the end -/
theorem Ev.itemN {value slice : PySem.Expr} {pos : Pos} {ds : List D} {k : Int} {d : D} (hv : Ev (model prog w) A env H value (.k (Lo ds))) (hi : Ev (model prog w) A env H slice (.i k)) (h0 : k < 0) (h1 : -(ds.length : Int) ≤ k) (hlo : -(2 ^ 63) ≤ k)
    (hd : ds[(k + ds.length).toNat]? = some d)
    (hs : ∀ l u, subscripted slice false (.ref l) (.int k u) = operate [.ref l, .int k u] (getItem (.ref l) (.int k u)) := by intro _ _; with_unfolding_all rfl)
    (ht : ∀ o r, letTemporaryGo value o r = pure () := by intro _ _; with_unfolding_all rfl) :
    Ev (model prog w) A env H (.Subscript value slice pos) d := ⟨fun s hs0 Q E q =>
  Subscript_ (hv.run s hs0 _ _ fun v s1 g1 n1 h1' => hi.run s1 h1' _ _ fun i s2 g2 n2 h2 => by
    obtain ⟨l, o, rfl, ho, hL⟩ := g1
    obtain ⟨u, rfl⟩ := (show ∃ t, i = .int k t from g2)
    obtain ⟨items, hl, hI, hz⟩ := hL.is (n2.up _ _ ho)
    obtain ⟨x, hx, hd⟩ := hI.get _ hd
    rw [← hz] at hx h1
    have hx' : items[(k + items.size).toNat]? = some x := by rw [← Array.getElem?_toList]; exact hx
    have q' := q x s2 hd.got (n1.trans n2) h2
    refine subscriptTail_builtin hl.typeIs slot_list_getitem.lookup ?_ (hs _ _) (ht _)
    exact wpAny_getItem_list_neg hl h0 h1 hlo hx' q')⟩

theorem Cb.len_list (ds : List D) (hz : ds.length ≤ 100000) : Cl1 (model prog w) A (.builtin "len") [.k (Lo ds)] (.i ds.length) := by
  rintro s vs Q E g q
  obtain ⟨v, rfl, l, o, rfl, ho, hL⟩ := g.one
  obtain ⟨items, hl, hI, he⟩ := hL.is ho
  refine Calls.call_len_list hl (by rw [he]; omega) ?_
  rw [he]
  exact q _ _ ⟨_, rfl⟩ (Nx.tok s _)

theorem Cb.range1 (b : Int) : Cl1 (model prog w) A (.type "range") [.i b] (.o (Rg 0 b 1)) := by
  rintro s vs Q E g q
  obtain ⟨v, rfl, t, rfl⟩ := g.one
  focus
    exact call_range_1 (q _ _ ⟨_, _, rfl, fresh_size _ _ (Nat.le_refl _), Heap.get?_push_size _ rfl, _, _, _, rfl⟩ ((Nx.push s _).trans (Nx.tok _ _)))
theorem Cb.range2 (a b : Int) : Cl1 (model prog w) A (.type "range") [.i a, .i b] (.o (Rg a b 1)) := by
  rintro s vs Q E g q
  obtain ⟨v, v', rfl, ⟨t, rfl⟩, ⟨u, rfl⟩⟩ := g.two
  focus
    exact call_range_2 (q _ _ ⟨_, _, rfl, fresh_size _ _ (Nat.le_refl _), Heap.get?_push_size _ rfl, _, _, _, rfl⟩ ((Nx.push s _).trans (Nx.tok _ _)))
theorem Cb.range3 (a b c : Int) (hc : c ≠ 0) (hc2 : c.natAbs < 1073741824) : Cl1 (model prog w) A (.type "range") [.i a, .i b, .i c] (.o (Rg a b c)) := by
  rintro s vs Q E g q
  obtain ⟨v, v', v'', rfl, ⟨t, rfl⟩, ⟨u, rfl⟩, ⟨u', rfl⟩⟩ := g.three
  focus
    exact PySem.call_range_3 hc (q _ _ ⟨_, _, rfl, fresh_size _ _ (Nat.le_refl _), Heap.get?_push_size _ rfl, _, _, _, rfl⟩ (Nx.push s _)) (.inl (PyProof.noPylong_small hc2))

theorem is0s_items : ∀ (l : List Value) (f : Nat → Int), (∀ (j : Nat) (v : Value), l[j]? = some v → ∃ t, v = .int (f j) t) → Is0s l ((List.range l.length).map fun i => .i (f i))
  | [], f, _ => trivial
  | x :: r, f, h => by
    obtain ⟨t, rfl⟩ := h 0 x rfl
    rw [List.length_cons, List.range_succ_eq_map, List.map_cons, List.map_map]
    exact ⟨⟨t, rfl⟩, is0s_items r (f ∘ Nat.succ) fun j v hv => h (j + 1) v (by simpa using hv)⟩

/- list(range(..)) -/
theorem Cb.listRange (a b c : Int) (n : Nat) (hh : A.handled = none) (hsm : Builtin.Range.small a b c = true) (hn : Builtin.Range.rangeSize a b c = n) (hz : n ≤ 2 ^ 24) :
    Cl1 (model prog w) A (.type "list") [.o (Rg a b c)] (.o (Ls ((List.range n).map fun (i : Nat) => .i (a + i * c)))) := by
  rintro s vs Q E g q
  obtain ⟨v, rfl, r, o, rfl, ho, t, u, v, rfl⟩ := g.one
  refine call_list_range hh ho hsm hn hz fun h' tk acc c' hk hS hI => ?_
  refine q _ _ ⟨_, _, rfl, fresh_size _ _ (Nat.le_refl _), hS, acc, c', rfl, ?_⟩ (Nx.of hk)
  have := is0s_items acc.toList (fun i => a + (i : Int) * c) fun j v hv => hI.2 j v (by simpa using hv)
  rw [Array.length_toList, hI.1] at this
  exact this
end

section
variable {prog : Program} {w : World} {A : Around} {env : Env} {s₀ : Shared} {vs : Vars} {os : Objs} {xs : List Str}

/- what a frame gives back -/
noncomputable def Post (s₀ : Shared) (r : D) : Flow → Shared → Prop := fun f s' => Got s₀ s' (match f with | .ret v => v | _ => .none) r ∧ Nx s₀ s'

theorem Sm.Ret {M : Model} {e : PySem.Expr} {p : Pos} {rest : List Stmt} {d : D} {Q : Flow → Shared → Prop} (he : Ev M A env (FH s₀ env vs os) e d) (h : ∀ v s', Got s₀ s' v d → Nx s₀ s' → Q (.ret v) s') :
    Sm M A env (Fm s₀ env vs os) (.Return (some e) p :: rest) Q := .one fun s hs E => wpAny_Return_some (he.run s hs _ _ fun v s' g n (hs' : Fm s₀ env vs os s') => h v s' (g.nx (show Fm s₀ env vs os s from hs).nx (Nx.refl _)) hs'.nx)
theorem Sm.If {M : Model} {t : PySem.Expr} {x y : List Stmt} {p : Pos} {rest : List Stmt} {b : Bool} {Q : Flow → Shared → Prop} (ht : Tr M A env (FH s₀ env vs os) t b) (hx : b = true → Sm M A env (Fm s₀ env vs os) x (Then M A env rest Q))
    (hy : b = false → Sm M A env (Fm s₀ env vs os) y (Then M A env rest Q)) : Sm M A env (Fm s₀ env vs os) (.If t x y p :: rest) Q := Sm.ite (H := FH s₀ env vs os) ht hx hy
theorem Sm.When {M : Model} {t : PySem.Expr} {x : List Stmt} {p : Pos} {rest : List Stmt} {b : Bool} {Q : Flow → Shared → Prop} (ht : Tr M A env (FH s₀ env vs os) t b) (hx : b = true → Sm M A env (Fm s₀ env vs os) x (Then M A env rest Q))
    (hy : b = false → Sm M A env (Fm s₀ env vs os) rest Q) : Sm M A env (Fm s₀ env vs os) (.If t x [] p :: rest) Q := Sm.when (H := FH s₀ env vs os) ht hx hy
/- a branch's end -/
theorem Sm.end {M : Model} {rest : List Stmt} {Q : Flow → Shared → Prop} (h : Sm M A env (Fm s₀ env vs os) rest Q) : Sm M A env (Fm s₀ env vs os) [] (Then M A env rest Q) := .nil fun s hs E => h.run s hs E

/- l[i] = e -/
theorem Sm.setItem {o i e : PySem.Expr} {p p' : Pos} {rest : List Stmt} {j : Nat} {l : Addr} {T : Obj → Prop} {ds : List D} {k : Int} {d : D} {Q : Flow → Shared → Prop}
    (hj : os[j]? = some (l, T)) (hT : ∀ o, T o → Lo ds o) (ho : Ev (model prog w) A env (FH s₀ env vs os) o (.r l)) (hi : Ev (model prog w) A env (FH s₀ env vs os) i (.i k)) (he : Ev (model prog w) A env (FH s₀ env vs os) e d)
    (hd : ∀ T, d ≠ .o T) (hk : ∀ T, d ≠ .k T) (h0 : 0 ≤ k) (hhi : k < ds.length) (hz : ds.length ≤ 100000)
    (h : Sm (model prog w) A env (Fm s₀ env vs (os.set j (l, Lo (ds.set k.toNat d)))) rest Q)
    (hs : swapsWith e (some (.Subscript o i p')) p.line env = pure false := by rfl) : Sm (model prog w) A env (Fm s₀ env vs os) (.Assign [.Subscript o i p'] e p :: rest) Q :=
  .one fun s hs' E => wpAny_Assign_Subscript (he.run s hs' _ _ fun v s1 g1 n1 h1 => ho.run s1 h1 _ _ fun ov s2 g2 n2 h2 => hi.run s2 h2 _ _ fun iv s3 g3 n3 (F : Fm s₀ env vs os s3) => by
    cases (show ov = .ref l from g2)
    obtain ⟨u, rfl⟩ := (show ∃ t, iv = .int k t from g3)
    obtain ⟨_, _, _, ob, hob, hTo⟩ := F.own (l, T) (List.mem_of_getElem? hj)
    obtain ⟨items, hl, hI, hsz⟩ := (hT ob hTo).is hob
    refine wpAny_setItem_list hl h0 (by omega) (by rw [hsz]; exact hhi) fun h' hl' hsb E => ?_
    obtain ⟨o', ho', hc', n', hd'⟩ := hl'
    refine h.run _ (F.changed (tk := s3.toks) hj ho' (⟨hc', _, n', hd', ?_⟩ : Lo (ds.set k.toNat d) o') hsb.extBut) E
    rw [Array.toList_setIfInBounds]
    exact hI.set _ (g1.is0 hd hk)) hs

/- l.append(e) -/
theorem Sm.append {o e : PySem.Expr} {ap p p' : Pos} {rest : List Stmt} {j : Nat} {l : Addr} {ds : List D} {d : D} {Q : Flow → Shared → Prop} (K : Ok env xs)
    (hj : os[j]? = some (l, Ls ds)) (ho : Ev (model prog w) A env (FH s₀ env vs os) o (.r l)) (he : Ev (model prog w) A env (FH s₀ env vs os) e d) (hd : ∀ T, d ≠ .o T) (hk : ∀ T, d ≠ .k T) (hz : ds.length ≤ 100000)
    (h : Sm (model prog w) A env (Fm s₀ env vs (os.set j (l, Ls (ds ++ [d])))) rest Q)
    (hbase : attributeBase o "append" env (eval o env) = eval o env := by rfl)
    (hfew : ((backTo p (starEach [e] env)).all (fun x => !x.1) && (backToKw p (keywordEach [] env)).all (fun x => x.1.isSome)
      && decide (([e] : List PySem.Expr).length + ([] : List Keyword).length + (if ([] : List Keyword).isEmpty then 0 else 1) < 30)) = true := by rfl)
    (hline : (ap.endLine == p.line) = true := by rfl) (htrees : backTo p (starEach [e] env) = [(false, eval e env)] := by rfl)
    (hs : swapsWith (.Call (.Attribute o "append" ap) [e] [] p) none p'.line env = pure false := by rfl) :
    Sm (model prog w) A env (Fm s₀ env vs os) (.Expr (.Call (.Attribute o "append" ap) [e] [] p) p' :: rest) Q :=
  .one fun s hs' E => wpAny_Expr (wpAny_Call_append hbase hfew hline htrees (ho.run s hs' _ _ fun ov s1 g1 n1 h1 => by
    cases (show ov = .ref l from g1)
    have F1 : Fm s₀ env vs os s1 := h1
    obtain ⟨_, _, _, ob, hob, items, n, rfl, hI⟩ := F1.own (l, Ls ds) (List.mem_of_getElem? hj)
    refine ⟨l, items, rfl, ⟨_, n, hob, rfl, rfl, rfl⟩, he.run s1 h1 _ _ fun y s2 g2 n2 (F2 : Fm s₀ env vs os s2) => ?_⟩
    have hsz : items.size = ds.length := by rw [← Array.length_toList]; exact hI.length
    have hsl : sizeLine = 2 ^ 24 := rfl
    refine append_at (n2.up _ _ hob) (fun h' hsb ho' E => ?_) (by omega)
    refine h.run _ (F2.changed (tk := s2.toks) hj ho' (⟨_, _, rfl, ?_⟩ : Ls (ds ++ [d]) _) hsb.extBut) E
    rw [Array.toList_push]
    exact hI.append ⟨g2.is0 hd hk, trivial⟩)) (by unfold interactive; rw [K.fn]; rfl) hs

/- for x in range(..) -/
theorem Sm.forRange {x : Str} {px p : Pos} {iter : PySem.Expr} {body rest : List Stmt} {Q : Flow → Shared → Prop} {i : Nat} {a b c : Int} (n : Nat) (J : Nat → Vars → Objs → Prop) (K : Ok env xs) (hh : A.handled = none)
    (hit : Ev (model prog w) A env (FH s₀ env vs os) iter (.o (Rg a b c))) (hsm : Builtin.Range.small a b c = true) (hn : Builtin.Range.rangeSize a b c = n) (hx : x ∈ xs)
    (h0 : J 0 vs os) (hJ : ∀ k vs os, J k vs os → ∃ ox, vs[i]? = some (x, ox))
    (turn : ∀ k vs os I T, k < n → J k vs os → Sm (model prog w) A env (Fm s₀ env (vs.set i (x, some (.i (a + k * c)))) ((I, T) :: os)) body (fun f s' => match f with
        | .next | .cont => ∃ vs' os', J (k + 1) vs' os' ∧ Fm s₀ env vs' ((I, T) :: os') s'
        | .brk => Then (model prog w) A env rest Q .next s'
        | .ret v => Q (.ret v) s'))
    (fin : ∀ vs os, J n vs os → Sm (model prog w) A env (Fm s₀ env vs os) rest Q)
    (hs : ∀ x, foldedSetIterable iter env x = pure x := by intro _; rfl) :
    Sm (model prog w) A env (Fm s₀ env vs os) (.For (.Name x px) iter body [] p :: rest) Q :=
  .one fun s hs' E => wpAny_For (hit.run s hs' _ _ fun xv s1 g1 n1 (F1 : Fm s₀ env vs os s1) => by
    obtain ⟨r, o, rfl, _, ho, t, u, v, rfl⟩ := g1
    refine wpAny_pyIter_range ho hsm ?_
    rw [hn]
    refine codeAny_forLoop (fun m s => ∃ k vs os, m = n - k ∧ k ≤ n ∧ J k vs os ∧ Fm s₀ env vs ((s1.heap.objs.size, fun o => o = { cls := .type "range_iterator", dict := none, data := .fields #[rawInt (a + k * c), rawInt ((n : Int) - k), rawInt c], slots := #[] }) :: os) s) (fun m s hI => ?_) n
      ⟨0, vs, os, by simp, Nat.zero_le _, h0, F1.made (Nx.push s1 _) (fresh_size _ _ (Nat.le_refl _)) (Heap.get?_push_size _ rfl) (by simp)⟩
    obtain ⟨k, vs', os', rfl, hk, hJk, F⟩ := hI
    obtain ⟨_, _, _, oi, hoi, rfl⟩ := F.own _ (List.mem_cons_self)
    rcases Nat.lt_or_ge k n with hlt | hge
    · refine wpAny_pyNext_range_item hoi (by omega) fun h' hi' hsb => ?_
      obtain ⟨ox', hix⟩ := hJ k vs' os' hJk
      have F2 := F.changed (j := 0) (tk := s.toks + 1) (T' := fun o => o = { cls := .type "range_iterator", dict := none, data := .fields #[rawInt (a + k * c + c), rawInt ((n : Int) - k - 1), rawInt c], slots := #[] }) rfl hi' rfl hsb.extBut
      refine wpAny_assign_Name (F2.store hix (show Is0 (.int (a + k * c) _) (.i (a + k * c)) from ⟨_, rfl⟩) K.fn (K.st x hx) fun s3 F3 => ?_)
      refine wpAny_mono ((turn k vs' os' _ _ hlt hJk).run s3 F3 _) (fun f s' h' => ?_) fun _ _ e => e
      have e1 : a + (k : Int) * c + c = a + ((k + 1 : Nat) : Int) * c := by
        rw [Int.natCast_add, Int.add_mul]; omega
      have e2 : (n : Int) - k - 1 = (n : Int) - ((k + 1 : Nat) : Int) := by omega
      cases f with
      | next => obtain ⟨vs2, os2, hJ2, F4⟩ := h'; exact ⟨n - (k + 1), by omega, k + 1, vs2, os2, rfl, hlt, hJ2, by rw [e1, e2] at F4; exact F4⟩
      | cont => obtain ⟨vs2, os2, hJ2, F4⟩ := h'; exact ⟨n - (k + 1), by omega, k + 1, vs2, os2, rfl, hlt, hJ2, by rw [e1, e2] at F4; exact F4⟩
      | brk => exact h'
      | ret v => exact h'
    · have hkn : k = n := Nat.le_antisymm hk hge
      subst hkn
      refine wpAny_pyNext_range_end hh hoi (by omega) fun h' hsb => wpAny_execs_nil ?_
      refine (fin vs' os' hJk).run _ ?_
      have hp := F.own _ (List.mem_cons_self)
      have F' : Fm s₀ env vs' os' s := F.weak (fun _ _ _ h => h) rfl (List.sublist_cons_self _ _)
      have up : ∀ b o, b ≠ s1.heap.objs.size → s.heap.get? b = some o → h'.get? b = some o := fun b o hb e => hsb b o hb e
      refine ⟨⟨fun b o e => up b o ?_ (F'.nx.up b o e), F'.nx.os, F'.nx.gens, F'.nx.bare⟩, F'.fresh, ?_, ?_, ?_, F'.apart, ?_, F'.nodup, F'.names⟩
      · rintro rfl
        rw [hp.2.2.1] at e; cases e
      · obtain ⟨m, hm⟩ := F'.ns
        exact ⟨m, hm.extBut hsb (Ne.symm hp.1)⟩
      · intro i x d h
        rcases F'.var i x d h with ⟨hk', m', v', h1, h2, h3⟩ | ⟨hk', c', v', h1, ⟨oc, q1, q2⟩, h3⟩
        · exact .inl ⟨hk', m', v', h1.extBut hsb (Ne.symm hp.1), h2, h3⟩
        · exact .inr ⟨hk', c', v', h1, ⟨oc, up _ _ (Ne.symm (hp.2.1 x c' h1)) q1, q2⟩, h3⟩
      · intro x c h
        obtain ⟨h1, h2, v, oc, q1, q2⟩ := F'.cells x c h
        exact ⟨h1, h2, v, oc, up _ _ (Ne.symm (hp.2.1 x c h)) q1, q2⟩
      · intro p hpm
        obtain ⟨h1, h2, h3, oc, h4, h5⟩ := F'.own p hpm
        refine ⟨h1, h2, h3, oc, up _ _ ?_ h4, h5⟩
        intro e
        have := F.nodup
        rw [List.map_cons, List.nodup_cons] at this
        exact this.1 (List.mem_map.mpr ⟨p, hpm, e⟩)) hs
end
end Mine

open PySem PySem.W PyProof.Rows
namespace Mine
set_option Elab.async false
set_option maxRecDepth 100000
set_option linter.unusedVariables false

/- a tuple that tells ds -/
noncomputable def Tp (ds : List D) : Obj → Prop := fun o => o.cls = .type "tuple" ∧ ∃ items n, o.data = .seq items n ∧ Is0s items.toList ds
theorem Tp.is {ds : List D} {o : Obj} {s : Shared} {a : Addr} (h : Tp ds o) (ho : s.heap.get? a = some o) : ∃ items : Array Value, IsTup s.heap a items ∧ Is0s items.toList ds ∧ items.size = ds.length := by
  obtain ⟨hc, items, n, hd, h⟩ := h
  exact ⟨items, ⟨o, ho, hc, n, hd⟩, h, by rw [← Array.length_toList]; exact h.length⟩

/- data without a heap -/
noncomputable def Plain : List D → Prop
  | [] => True
  | d :: ds => (∀ T, d ≠ .o T) ∧ (∀ T, d ≠ .k T) ∧ Plain ds

theorem At.is0 {s : Shared} {v : Value} {d : D} (g : At s v d) (hd : ∀ T, d ≠ .o T) (hk : ∀ T, d ≠ .k T) : Is0 v d := by
  cases d with
  | o T => exact absurd rfl (hd T)
  | k T => exact absurd rfl (hk T)
  | _ => exact g
theorem Ats.is0s {s : Shared} : ∀ {vs : List Value} {ds : List D}, Ats s vs ds → Plain ds → Is0s vs ds
  | [], [], _, _ => trivial
  | _ :: _, _ :: _, h, p => ⟨h.1.is0 p.1 p.2.1, Ats.is0s h.2 p.2.2⟩
  | [], _ :: _, h, _ => h.elim
  | _ :: _, [], h, _ => h.elim

/- two data of a list -/
theorem Is0s.two {vs : List Value} {d e : D} (h : Is0s vs [d, e]) : ∃ v u, vs = [v, u] ∧ Is0 v d ∧ Is0 u e := by
  obtain ⟨v, u, rfl⟩ := len_2 h.length
  exact ⟨v, u, rfl, h.1, h.2.1⟩

theorem Lows.length {s : Shared} : ∀ {ds es : List D}, Lows s ds es → es.length = ds.length
  | [], [], _ => rfl
  | _ :: _, _ :: _, h => congrArg Nat.succ (Lows.length h.2)
  | [], _ :: _, h => h.elim
  | _ :: _, [], h => h.elim
theorem Lows.two {s : Shared} {d1 d2 : D} {es : List D} (h : Lows s [d1, d2] es) : ∃ e1 e2, es = [e1, e2] ∧ Low s d1 e1 ∧ Low s d2 e2 := by
  obtain ⟨a, b, rfl⟩ := len_2 h.length
  exact ⟨a, b, rfl, h.1, h.2.1⟩
theorem Lows.plain {s : Shared} : ∀ {ds es : List D}, Plain ds → Lows s ds es → es = ds
  | [], [], _, _ => rfl
  | d :: ds, e :: es, p, h => by
    have h2 := Lows.plain p.2.2 h.2
    subst h2
    have : e = d := by
      cases d with
      | o T => exact absurd rfl (p.1 T)
      | k T => exact absurd rfl (p.2.1 T)
      | _ => exact h.1
    rw [this]
  | [], _ :: _, _, h => h.elim
  | _ :: _, [], _, h => h.elim

/- plain data by hand -/
noncomputable def plainB : List D → Bool
  | [] => true
  | .o _ :: _ => false
  | .k _ :: _ => false
  | _ :: ds => plainB ds
theorem plain_of : ∀ {ds : List D}, plainB ds = true → Plain ds
  | [], _ => trivial
  | d :: ds, h => by
    cases d with
    | o T => cases h
    | k T => cases h
    | _ => exact ⟨(fun _ h => nomatch h), (fun _ h => nomatch h), plain_of h⟩

theorem env_eta {env : Env} {sc : Scope} (h : env.scope = sc) : env = { env with scope := sc } := by subst h; rfl

section
variable {prog : Program} {w : World} {A : Around} {env : Env} {H : HP} {xs : List Str} {s₀ : Shared} {vs : Vars} {os : Objs}

theorem Ev.tuple {elts : List PySem.Expr} {k : Nat} {pos : Pos} {ds : List D} (h : Avs (model prog w) A H (spliced (backTo pos (starEach elts env))) ds) (hp : Plain ds) (hz : ds.length ≤ 2000) : Ev (model prog w) A env H (.Tuple elts k pos) (.o (Tp ds)) := ⟨fun s hs Q E q =>
  wpAny_Tuple (h.run s hs _ _ fun us s1 g1 n1 h1 => by
    have hI := g1.is0s hp
    have hsl : sizeLine = 2 ^ 24 := rfl
    refine ⟨by rw [hI.length]; omega, q _ _ ⟨_, _, rfl, ?_, Heap.get?_push_size _ rfl, rfl, us.toArray, 0, rfl, by simpa using hI⟩ (n1.trans (Nx.push _ _)) (H.st _ _ (Nx.push _ _) h1)⟩
    cases e : s.heap.get? s1.heap.objs.size with
    | none => rfl
    | some o => exact absurd (Heap.lt_size (n1.up _ _ e)) (Nat.lt_irrefl _))⟩
theorem Ev.list {elts : List PySem.Expr} {pos : Pos} {ds : List D} (h : Avs (model prog w) A H (spliced (backTo pos (starEach elts env))) ds) (hp : Plain ds) (hz : ds.length ≤ 2000) : Ev (model prog w) A env H (.List elts pos) (.o (Ls ds)) := ⟨fun s hs Q E q =>
  wpAny_List (h.run s hs _ _ fun us s1 g1 n1 h1 => by
    have hI := g1.is0s hp
    have hsl : sizeLine = 2 ^ 24 := rfl
    refine ⟨by rw [hI.length]; omega, q _ _ ⟨_, _, rfl, ?_, Heap.get?_push_size _ rfl, us.toArray, 0, rfl, by simpa using hI⟩ (n1.trans (Nx.push _ _)) (H.st _ _ (Nx.push _ _) h1)⟩
    cases e : s.heap.get? s1.heap.objs.size with
    | none => rfl
    | some o => exact absurd (Heap.lt_size (n1.up _ _ e)) (Nat.lt_irrefl _))⟩

theorem Cb.divmod (m n : Int) (h : n ≠ 0) (hn : n.natAbs < 1073741824) : Cl1 (model prog w) A (.builtin "divmod") [.i m, .i n] (.o (Tp [.i (m.fdiv n), .i (m.fmod n)])) := by
  rintro s vs Q E g q
  obtain ⟨v, u, rfl, ⟨t, rfl⟩, ⟨t', rfl⟩⟩ := g.two
  exact PyProof.Rows.divmod_int h (q _ _ ⟨_, _, rfl, fresh_size _ _ (Nat.le_refl _), Heap.get?_push_size _ rfl, rfl, _, 0, rfl, ⟨⟨_, rfl⟩, ⟨_, rfl⟩, trivial⟩⟩ ((Nx.push s _).trans (Nx.tok _ _))) (.inl (PyProof.noPylong_small hn))

/- x, y = a pair -/
theorem Sm.unpack2 {i j : Nat} {x y : Str} {a b : Option D} {e : PySem.Expr} {k : Nat} {p p1 p2 p3 : Pos} {rest : List Stmt} {d1 d2 : D} {Q : Flow → Shared → Prop} (K : Ok env xs) (hh : A.handled = none)
    (hi : vs[i]? = some (x, a)) (hj : (vs.set i (x, some d1))[j]? = some (y, b)) (hx : x ∈ xs) (hy : y ∈ xs) (he : Ev (model prog w) A env (FH s₀ env vs os) e (.o (Tp [d1, d2])))
    (h : Sm (model prog w) A env (Fm s₀ env ((vs.set i (x, some d1)).set j (y, some d2)) os) rest Q)
    (hs : swapsWithSole [.Tuple [.Name x p1, .Name y p2] k p3] e p.line env = pure false := by rfl)
    (hw : swappedStores [.Tuple [.Name x p1, .Name y p2] k p3] e env = pure none := by rfl) :
    Sm (model prog w) A env (Fm s₀ env vs os) (.Assign [.Tuple [.Name x p1, .Name y p2] k p3] e p :: rest) Q :=
  .one fun s hs' E => Assign_Tuple (he.run s hs' _ _ fun v s1 g1 n1 (F : Fm s₀ env vs os s1) => by
    obtain ⟨t, o, rfl, _, ho, hT⟩ := g1
    obtain ⟨items, ht, hI, hsz⟩ := hT.is ho
    obtain ⟨v1, v2, hl, hv1, hv2⟩ := hI.two
    refine assign_Tuple_tuple hh ht (by rw [hsz]; rfl) (by rfl) fun h' hx' => ?_
    have up : ∀ b o, s1.heap.get? b = some o → h'.get? b = some o := fun b o e => hx' b o (Nat.ne_of_lt (Heap.lt_size e)) e
    rw [hl]
    show wpAny _ _ (do holding [v2] (PySem.assign (.Name x p1) env v1); (do holding [] (PySem.assign (.Name y p2) env v2); pure ())) _ _ _
    refine wpAny_bind (wpAny_holding (PySem.wpAny_assign_Name ((F.nxt (Nx.of (tk := s1.toks) up)).store hi hv1 K.fn (K.st x hx) fun s2 F2 => ?_)))
    refine wpAny_bind (wpAny_holding (PySem.wpAny_assign_Name (F2.store hj hv2 K.fn (K.st y hy) fun s3 F3 => ?_)))
    exact wpAny_pure fun E => h.run s3 F3 E) hs hw

/- x, y = e1, e2 (the stores swapped) -/
theorem Sm.swap2 {i j : Nat} {x y : Str} {a b : Option D} {e : PySem.Expr} {k : Nat} {p p1 p2 p3 : Pos} {rest : List Stmt} {d1 d2 : D} {Q : Flow → Shared → Prop} (K : Ok env xs) (hh : A.handled = none)
    (hj : vs[j]? = some (y, b)) (hi : (vs.set j (y, some d2))[i]? = some (x, a)) (hx : x ∈ xs) (hy : y ∈ xs) (he : Ev (model prog w) A env (FH s₀ env vs os) e (.o (Tp [d1, d2])))
    (hw : swappedStores [.Tuple [.Name x p1, .Name y p2] k p3] e env = pure (some [x, y]))
    (h : Sm (model prog w) A env (Fm s₀ env ((vs.set j (y, some d2)).set i (x, some d1)) os) rest Q)
    (hs : swapsWithSole [.Tuple [.Name x p1, .Name y p2] k p3] e p.line env = pure false := by rfl) :
    Sm (model prog w) A env (Fm s₀ env vs os) (.Assign [.Tuple [.Name x p1, .Name y p2] k p3] e p :: rest) Q :=
  .one fun s hs' E => Assign_Tuple_swapped (names := [x, y]) (he.run s hs' _ _ fun v s1 g1 n1 (F : Fm s₀ env vs os s1) => by
    obtain ⟨t, o, rfl, _, ho, hT⟩ := g1
    obtain ⟨items, ht, hI, hsz⟩ := hT.is ho
    obtain ⟨v1, v2, hl, hv1, hv2⟩ := hI.two
    have hsz' : ([x, y] : List Str).length = items.size := by rw [hsz]; rfl
    rw [hsz']
    refine unpackItems_tuple hh ht fun h' hx' => ?_
    have up : ∀ b o, s1.heap.get? b = some o → h'.get? b = some o := fun b o e => hx' b o (Nat.ne_of_lt (Heap.lt_size e)) e
    rw [hl]
    show wpAny _ _ (do holding [v1] (bindName env y v2); (do holding [] (bindName env x v1); pure ())) _ _ _
    refine wpAny_bind (wpAny_holding (wpAny_bindName ((F.nxt (Nx.of (tk := s1.toks) up)).store hj hv2 K.fn (K.st y hy) fun s2 F2 => ?_)))
    refine wpAny_bind (wpAny_holding (wpAny_bindName (F2.store hi hv1 K.fn (K.st x hx) fun s3 F3 => ?_)))
    exact wpAny_pure fun E => h.run s3 F3 E) hs hw

/- x = y = e -/
theorem Sm.both {i j : Nat} {x y : Str} {a b : Option D} {e : PySem.Expr} {p p1 p2 : Pos} {rest : List Stmt} {d : D} {Q : Flow → Shared → Prop} (K : Ok env xs)
    (hi : vs[i]? = some (x, a)) (hj : (vs.set i (x, some d))[j]? = some (y, b)) (hx : x ∈ xs) (hy : y ∈ xs) (he : Ev (model prog w) A env (FH s₀ env vs os) e d) (hd : ∀ T, d ≠ .o T) (hk : ∀ T, d ≠ .k T)
    (h : Sm (model prog w) A env (Fm s₀ env ((vs.set i (x, some d)).set j (y, some d)) os) rest Q)
    (he' : (assignEach [.Name x p1, .Name y p2] env).map (·.2) = [PySem.assign (.Name x p1) env, PySem.assign (.Name y p2) env] := by rfl)
    (hw : swappedStores [.Name x p1, .Name y p2] e env = pure none := by rfl) :
    Sm (model prog w) A env (Fm s₀ env vs os) (.Assign [.Name x p1, .Name y p2] e p :: rest) Q :=
  .one fun s hs' E => wpAny_Assign_two (he.run s hs' _ _ fun v s1 g1 n1 (F : Fm s₀ env vs os s1) =>
    PySem.wpAny_assign_Name (F.store hi (g1.is0 hd hk) K.fn (K.st x hx) fun s2 F2 => PySem.wpAny_assign_Name (F2.store hj (g1.is0 hd hk) K.fn (K.st y hy) fun s3 F3 E => h.run s3 F3 E))) he' hw
end
end Mine

open PySem PySem.W PyProof.Rows
namespace Mine
set_option Elab.async false
set_option maxRecDepth 100000
set_option linter.unusedVariables false

section
variable {prog : Program} {w : World} {A : Around} {env : Env} {H : HP} {xs : List Str}

/- a method of one argument -/
theorem Ev.meth1 {o e : PySem.Expr} {name : Str} {T id : String} {apos pos : Pos} {d0 d1 d : D} (pa : PlainAttrs T) (slot : Slot T name id) (hty : typeOf (.builtin id) = pure (.type "method_descriptor"))
    (ho : Ev (model prog w) A env H o d0) (hobj : ∀ s v, H.P s → At s v d0 → s.TypeIs v T ∧ ∀ a, v = .ref a → ∃ ob, s.heap.get? a = some ob ∧ ob.dict = Option.none)
    (he : Ev (model prog w) A env H e d1) (hc : Cr (model prog w) A H (.builtin id) [d0, d1] d)
    (hbase : attributeBase o name env (eval o env) = eval o env := by rfl)
    (hfew : ((backTo pos (starEach [e] env)).all (fun x => !x.1) && (backToKw pos (keywordEach [] env)).all (fun x => x.1.isSome)
      && decide (([e] : List PySem.Expr).length + ([] : List Keyword).length + (if ([] : List Keyword).isEmpty then 0 else 1) < 30)) = true := by rfl)
    (hline : (apos.endLine == pos.line) = true := by rfl)
    (hst : starEach [e] env = (false, eval e env) :: starEach [] env := by rfl) :
    Ev (model prog w) A env H (.Call (.Attribute o name apos) [e] [] pos) d := ⟨fun s hs Q E q =>
  wpAny_Call_method_lateS hbase hfew hline (ho.run s hs _ _ fun v s1 g1 n1 h1 =>
    ⟨T, id, pa, slot, hty, (hobj s1 v h1 g1.at).1, (hobj s1 v h1 g1.at).2, callWith_method1 ((Avs.cons he Avs.nil hst).run s1 h1 _ _ fun vs s2 g2 n2 h2 =>
      hc s2 (v :: vs) _ _ h2 ⟨g1.at.nx n2, g2⟩ fun v' s3 g3 n3 => q v' s3 (g3.nx (n1.trans n2) (Nx.refl _)) ((n1.trans n2).trans n3) (H.st _ _ n3 h2)) hst⟩)⟩
end
end Mine

open PySem PySem.W PyProof.Rows
namespace Mine
set_option Elab.async false
set_option maxRecDepth 100000
set_option linter.unusedVariables false

/- a source of items -/
noncomputable def Src (prog : Program) (w : World) (A : Around) (d : D) (items : List D) : Prop := ∀ (s : Shared) v (Q : Value → Shared → Prop) (E : Value → Shared → Prop), At s v d →
  (∀ s' I fp wr P St, Walks prog w A I fp wr items.length P St → St 0 s'.heap → (∀ b ∈ fp, b < s'.heap.objs.size) → (∀ b ∈ wr, s.heap.get? b = none) →
    (∀ (i : Nat) v', P i v' → ∃ d', items[i]? = some d' ∧ Is0 v' d') → Nx s s' → Q (.ref I) s') → wpAny (model prog w) A (pyIter v) Q E s

/- within a comprehension's turn -/
noncomputable def CompH (H : HP) (C : Addr) (x : Str) (d : D) : HP := ⟨fun s => H.P s ∧ ∃ m v, s.heap.Ns C m ∧ m x = some v ∧ Is0 v d, fun s s' n h => ⟨H.st s s' n h.1, let ⟨m, v, h1, h2, h3⟩ := h.2; ⟨m, v, h1.keeps n.up, h2, h3⟩⟩⟩

section
variable {prog : Program} {w : World} {A : Around} {env : Env} {H : HP}

theorem Src.range {a b c : Int} {n : Nat} (hh : A.handled = none) (hsm : Builtin.Range.small a b c = true) (hn : Builtin.Range.rangeSize a b c = n) : Src prog w A (.o (Rg a b c)) ((List.range n).map fun (i : Nat) => .i (a + i * c)) := by
  rintro s v Q E ⟨r, o, rfl, ho, t, u, v, rfl⟩ q
  refine wpAny_pyIter_range ho hsm ?_
  refine q _ _ [s.heap.objs.size] [s.heap.objs.size] _ _ (by rw [List.length_map, List.length_range]; exact (Walks.range hh _ a c n).bound) ?_ ?_ ?_ ?_ (Nx.push s _)
  · rw [hn]; simpa using Heap.get?_push_size _ rfl
  · intro b hb; rw [List.mem_singleton.mp hb]; show _ < (s.heap.push _).objs.size; rw [Heap.size_push]; omega
  · intro b hb; rw [List.mem_singleton.mp hb]; exact fresh_size _ _ (Nat.le_refl _)
  · rintro i v' ⟨hi, t, rfl⟩
    refine ⟨.i (a + i * c), ?_, ⟨t, rfl⟩⟩
    rw [List.getElem?_map, List.getElem?_range hi]; rfl

theorem Src.list {ds : List D} (hh : A.handled = none) : Src prog w A (.k (Lo ds)) ds := by
  rintro s v Q E ⟨l, o, rfl, ho, hL⟩ q
  obtain ⟨items, hl, hI, hsz⟩ := hL.is ho
  have hlt : l < s.heap.objs.size := Heap.lt_size ho
  refine wpAny_pyIter_list hl ?_
  refine q _ _ [s.heap.objs.size, l] [s.heap.objs.size] (fun i v => items[i]? = some v) (fun i h => h.IsListIter s.heap.objs.size l i ∧ h.IsList l items) (by rw [← hsz]; exact Walks.list hh _ l (Nat.ne_of_lt hlt) items) ⟨⟨_, Heap.get?_push_size _ rfl, rfl, rfl⟩, hl.at fun o e => Heap.get?_push_of_some _ e⟩ ?_ ?_ ?_ (Nx.push s _)
  · intro b hb
    show _ < (s.heap.push _).objs.size
    rw [Heap.size_push]
    simp at hb
    rcases hb with rfl | rfl
    · exact Nat.lt_succ_self _
    · exact Nat.lt_succ_of_lt hlt
  · intro b hb; rw [List.mem_singleton.mp hb]; exact fresh_size _ _ (Nat.le_refl _)
  · intro i v' hP
    have hlt2 : i < ds.length := by rw [← hsz]; exact (Array.getElem?_eq_some_iff.mp hP).1
    obtain ⟨u, hu, hd⟩ := hI.get i (List.getElem?_eq_getElem hlt2)
    have : u = v' := by
      have h2 : items.toList[i]? = some v' := by rw [Array.getElem?_toList]; exact hP
      exact Option.some.inj (hu.symm.trans h2)
    subst this
    exact ⟨_, List.getElem?_eq_getElem hlt2, hd⟩

theorem Src.str {l : List Nat} (hh : A.handled = none) : Src prog w A (.s l) (l.map fun c => .s [c]) := by
  rintro s v Q E ⟨t, rfl⟩ q
  refine wpAny_pyIter_str fun o St hW hst => ?_
  refine q _ _ [s.heap.objs.size] [s.heap.objs.size] _ St (by
    have := hW A hh
    rw [List.length_map]
    have e : (⟨l.toArray⟩ : Str).cps.size = l.length := by simp
    rw [e] at this
    exact this) hst ?_ ?_ ?_ (Nx.push s _)
  · intro b hb; rw [List.mem_singleton.mp hb]; show _ < (s.heap.push _).objs.size; rw [Heap.size_push]; omega
  · intro b hb; rw [List.mem_singleton.mp hb]; exact fresh_size _ _ (Nat.le_refl _)
  · rintro i v' ⟨c, u, hc, rfl⟩
    refine ⟨.s [c], ?_, ⟨u, rfl⟩⟩
    have : l[i]? = some c := by simpa using hc
    rw [List.getElem?_map, this]; rfl

noncomputable def picked (n : Nat) (tst : Nat → Bool) (res : Nat → D) : List D := ((List.range n).filter tst).map res
theorem picked_succ (n : Nat) (tst : Nat → Bool) (res : Nat → D) : picked (n + 1) tst res = picked n tst res ++ if tst n = true then [res n] else [] := by
  unfold picked
  rw [List.range_succ, List.filter_append, List.map_append]
  congr 1
  cases h : tst n <;> simp [h]
theorem picked_length (n : Nat) (tst : Nat → Bool) (res : Nat → D) : (picked n tst res).length ≤ n := by
  unfold picked
  rw [List.length_map]
  exact Nat.le_trans (List.length_filter_le _ _) (by simp)

theorem comp_core {elt iter : PySem.Expr} {x : Str} {px : Pos} {ifs : List PySem.Expr} {scope : Scope} {cl : List (Str × Addr)} {pos : Pos} {s s₂ : Shared} {I : Addr} {fp wr : List Addr} {n : Nat} {P : Nat → Value → Prop}
    {St : Nat → Heap → Prop} {items : List D} {tst : Nat → Bool} {res : Nat → D} {E : Value → Shared → Prop} (W : Walks prog w A I fp wr n P St) (hlen : items.length = n) (hsz : n ≤ 2000) {RR : Value → Addr → Result → Shared → Prop}
    (hcell : ∀ y ∈ scope.names, y.2 ≠ .cell) (hkind : scope.kind = .function) (hx : scope.names.lookup x = some .local) (hst : St 0 s₂.heap) (hfp : ∀ b ∈ fp, b < s₂.heap.objs.size) (hwr : ∀ b ∈ wr, s.heap.get? b = none)
    (hP : ∀ (i : Nat) v', P i v' → ∃ d', items[i]? = some d' ∧ Is0 v' d') (hs : H.P s) (n2 : Nx s s₂)
    (htest : ∀ (C : Addr) (i : Nat) d, items[i]? = some d → Tv (model prog w) A (CompH H C x d) (forIn ifs true fun c r => if r = true then do let ok ← isTrue c (compEnvC scope cl C env) (eval c (compEnvC scope cl C env)); pure (ForInStep.yield ok) else pure (ForInStep.yield r)) (tst i))
    (helt : ∀ (C : Addr) (i : Nat) d, items[i]? = some d → tst i = true → Ev (model prog w) A (compEnvC scope cl C env) (CompH H C x d) elt (res i))
    (hres : ∀ i, (∀ T, res i ≠ .o T) ∧ ∀ T, res i ≠ .k T)
    (hRR : ∀ D C s' ys m', Nx s s' → H.P s' → s.heap.get? D = none → s.heap.get? C = none → D ≠ C → s'.heap.Ns C m' → s'.heap.PlainList D ys → Is0s ys.toList (picked n tst res) → RR (.ref D) C (.ok .next) s') :
    wpAny (model prog w) A (newList []) (fun acc s₃ => wpAny (model prog w) A (newFunctionEnv scope env.globals cl [] env.qual none .none (some env)) (fun cenv s₄ =>
      codeAny (model prog w) A (.compStart (.ListComp elt [⟨.Name x px, iter, ifs, 0⟩] scope pos) 0 (.ref I) acc { cenv with scope := relabel scope env }) (RR acc cenv.locals) s₄) E s₃) E s₂ := by
  refine wpAny_newObj_type (wpAny_newFunctionEnv hcell (by intro y hy; simp at hy) (fun h₁ hns₁ hsb₁ => ?_) hkind)
  dsimp only at hns₁ hsb₁ ⊢
  generalize hH2 : s₂.heap.push { cls := .type "list", dict := none, data := .seq ([] : List Value).toArray } = H2 at hns₁ hsb₁ ⊢
  have hC : H2.objs.size = s₂.heap.objs.size + 1 := by rw [← hH2, Heap.size_push]
  have hDC : s₂.heap.objs.size ≠ H2.objs.size := by rw [hC]; exact Nat.ne_of_lt (Nat.lt_succ_self _)
  have below : ∀ b, b < s₂.heap.objs.size → b ≠ H2.objs.size ∧ b ≠ s₂.heap.objs.size := fun b hb => ⟨by rw [hC]; exact Nat.ne_of_lt (Nat.lt_succ_of_lt hb), Nat.ne_of_lt hb⟩
  have hDf : s₂.heap.objs.size ∉ fp := fun hm => Nat.lt_irrefl _ (hfp _ hm)
  have hCf : H2.objs.size ∉ fp := fun hm => by have := hfp _ hm; rw [hC] at this; exact Nat.lt_irrefl _ (Nat.lt_of_succ_lt this)
  have old : ∀ b o, s₂.heap.get? b = some o → h₁.get? b = some o := fun b o e => hsb₁.extBut b o (below b (Heap.lt_size e)).1 (Heap.get?_push_of_some _ (hH2 ▸ Heap.get?_push_of_some _ e))
  have hacc : h₁.PlainList s₂.heap.objs.size #[] := ⟨_, hsb₁.extBut _ _ hDC (Heap.get?_push_of_some _ (hH2 ▸ Heap.get?_push_size _ rfl))⟩
  have hst₁ : St 0 h₁ := W.frame _ _ _ hst fun b _ o e => old b o e
  have freshs : ∀ a, s₂.heap.objs.size ≤ a → s.heap.get? a = none := fun a ha => by
    cases e : s.heap.get? a with
    | none => rfl
    | some o' => exact absurd (Heap.lt_size (n2.up _ _ e)) (Nat.not_lt.mpr ha)
  have fD : s.heap.get? s₂.heap.objs.size = none := freshs _ (Nat.le_refl _)
  have fC : s.heap.get? H2.objs.size = none := freshs _ (by rw [hC]; exact Nat.le_succ _)
  generalize s₂.heap.objs.size = D at *
  generalize H2.objs.size = C at *
  have nx1 : Nx s { s₂ with heap := h₁, toks := s₂.toks + ([] : List (Str × Value)).length } := n2.trans (Nx.of old)
  have hk : (compEnvC scope cl C env).kindOf x = some .local := lookup_relabel_local hx
  have hp : ((compEnvC scope cl C env).scope.kind == .class || ((compEnvC scope cl C env).scope.kind == .module && (compEnvC scope cl C env).locals != (compEnvC scope cl C env).globals)) = false := by simp [compEnvC, relabel, hkind]
  have hCw : C ∉ wr := fun h => hCf (W.sub _ h)
  have hDw : D ∉ wr := fun h => hDf (W.sub _ h)
  have loop : ∀ s₃ : Shared, s₃ = { s₂ with heap := h₁, toks := s₂.toks + ([] : List (Str × Value)).length } →
      codeAny (model prog w) A (.compLoop (.ListComp elt [⟨.Name x px, iter, ifs, 0⟩] scope pos) 0 (.ref I) (.ref D) (compEnvC scope cl C env)) (RR (.ref D) C) s₃ := by
    rintro s₃ rfl
    refine codeAny_compLoop_tests (fun k s' => ∃ i m' ys, k = n + 1 - i ∧ i ≤ n ∧ Nx s s' ∧ St i s'.heap ∧ s'.heap.PlainList D ys ∧ s'.heap.Ns C m' ∧ Is0s ys.toList (picked i tst res)) ?_ (n + 1)
      ⟨0, _, #[], rfl, Nat.zero_le _, nx1, hst₁, hacc, hns₁, trivial⟩
    rintro k s' ⟨i, m', ys, rfl, hi, nx, hsti, hpl, hns, hI⟩
    have hysz : ys.size ≤ 2000 := by
      have e1 := hI.length
      have e2 := picked_length i tst res
      rw [Array.length_toList] at e1
      omega
    have hsl : sizeLine = 2 ^ 24 := rfl
    rcases Nat.lt_or_ge i n with hlt | hge
    · refine W.item i _ _ _ hlt hsti fun v h₂ tk₂ hPv hst₂ hk₂ => ?_
      obtain ⟨d, hd, hv⟩ := hP i v hPv
      refine wpAny_assign_Name (wpAny_storeName_local hk (hns.at fun o e => hk₂ _ o hCw e) (fun h₃ hn₃ hs₃ => ?_) hp)
      have nx3 : Nx s { s' with heap := h₃, toks := tk₂ + 1 } := by
        refine ⟨fun b o e => ?_, nx.os, nx.gens, nx.bare⟩
        refine hs₃.extBut b o (by rintro rfl; exact absurd e (by rw [show s.heap.get? _ = none from fC]; simp)) (hk₂ b o (fun hb => by rw [hwr b hb] at e; cases e) (nx.up b o e))
      have hst₃ : St (i + 1) h₃ := W.frame _ _ _ hst₂ fun b hb o e => hs₃.extBut b o (fun h => hCf ((show b = C from h) ▸ hb)) e
      have hpl₃ : h₃.PlainList D ys := hpl.at fun o e => hs₃.extBut _ o hDC (hk₂ _ o hDw e)
      have hCH : (CompH H C x d).P { s' with heap := h₃, toks := tk₂ + 1 } := ⟨H.st _ _ nx3 hs, _, v, hn₃, by simp, hv⟩
      refine (htest C i d hd).run _ hCH _ _ fun s₄ nx4 hCH4 => ?_
      cases ht : tst i with
      | false =>
        simp only [Bool.false_eq_true, if_false]
        refine ⟨n + 1 - (i + 1), by omega, i + 1, _, ys, rfl, hlt, nx3.trans nx4, W.frame _ _ _ hst₃ fun b _ o e => nx4.up b o e, hpl₃.at fun o e => nx4.up _ o e, hn₃.keeps nx4.up, ?_⟩
        rw [picked_succ, ht]; simpa using hI
      | true =>
        simp only [if_true]
        refine (helt C i d hd ht).run _ hCH4 _ _ fun y s₅ g5 nx5 _ => ?_
        have hpl5 : s₅.heap.PlainList D ys := (hpl₃.at fun o e => nx4.up _ o e).at fun o e => nx5.up _ o e
        refine wpAny_list_append_plain (hsz := by omega) hpl5 fun h₆ hl₆ hs₆ => ?_
        have nx6 : Nx s { s₅ with heap := h₆ } := by
          have nx5' := (nx3.trans nx4).trans nx5
          exact ⟨fun b o e => hs₆.extBut b o (by rintro rfl; rw [fD] at e; cases e) (nx5'.up b o e), nx5'.os, nx5'.gens, nx5'.bare⟩
        refine ⟨n + 1 - (i + 1), by omega, i + 1, _, ys.push y, rfl, hlt, nx6, ?_, hl₆, ((hn₃.keeps nx4.up).keeps nx5.up).sameBut hs₆ (Ne.symm hDC), ?_⟩
        · exact W.frame _ _ _ hst₃ fun b hb o e => hs₆.extBut b o (fun h => hDf (h ▸ hb)) (nx5.up b o (nx4.up b o e))
        · rw [picked_succ, ht, Array.toList_push]
          exact hI.append ⟨g5.is0 (hres i).1 (hres i).2, trivial⟩
    · have hin : i = n := Nat.le_antisymm hi hge
      subst hin
      refine W.done _ _ _ hsti fun h₂ tk₂ hk₂ => ?_
      have nx3 : Nx s { s' with heap := h₂, toks := tk₂ } := ⟨fun b o e => hk₂ b o (fun hb => by rw [hwr b hb] at e; cases e) (nx.up b o e), nx.os, nx.gens, nx.bare⟩
      exact hRR D C _ ys m' nx3 (H.st _ _ nx3 hs) fD fC hDC (hns.at fun o e => hk₂ _ o hCw e) (hpl.at fun o e => hk₂ _ o hDw e) hI
  exact codeAny_compStart_list (loop _ rfl) (W.self 0 _ _ _ hst₁ (loop _ rfl))
end
end Mine

open PySem PySem.W PyProof.Rows
namespace Mine
set_option Elab.async false
set_option maxRecDepth 100000
set_option linter.unusedVariables false

section
variable {prog : Program} {w : World} {A : Around} {env : Env} {H : HP} {xs : List Str}

/- a list comprehension of one clause -/
theorem Ev.comp {elt iter : PySem.Expr} {x : Str} {px : Pos} {ifs : List PySem.Expr} {scope : Scope} {cl : List (Str × Addr)} {pos : Pos} {d0 : D} {items : List D} (tst : Nat → Bool) (res : Nat → D)
    (hclos : closureFor scope env = pure cl) (hcell : ∀ y ∈ scope.names, y.2 ≠ .cell) (hkind : scope.kind = .function)
    (hnames : ∀ y ∈ scope.names, y.2 = .local → scope.names.lookup y.1 = some .local) (hx : scope.names.lookup x = some .local)
    (hit : Ev (model prog w) A env H iter d0) (hsrc : Src prog w A d0 items) (hz : items.length ≤ 2000)
    (htest : ∀ (C : Addr) (i : Nat) d, items[i]? = some d → Tv (model prog w) A (CompH H C x d) (forIn ifs true fun c r => if r = true then do let ok ← isTrue c (compEnvC scope cl C env) (eval c (compEnvC scope cl C env)); pure (ForInStep.yield ok) else pure (ForInStep.yield r)) (tst i))
    (helt : ∀ (C : Addr) (i : Nat) d, items[i]? = some d → tst i = true → Ev (model prog w) A (compEnvC scope cl C env) (CompH H C x d) elt (res i))
    (hres : ∀ i, (∀ T, res i ≠ .o T) ∧ ∀ T, res i ≠ .k T)
    (hfold : ∀ v, foldedSetIterable iter env v = pure v := by intro _; rfl) :
    Ev (model prog w) A env H (.ListComp elt [⟨.Name x px, iter, ifs, 0⟩] scope pos) (.o (Ls (picked items.length tst res))) := ⟨fun s hs Q E q => by
  rw [eval_ListComp]
  refine wpAny_comprehension_free (use := Option.none) rfl hfold hclos hkind hnames (hit.run s hs _ _ fun v s1 g1 n1 h1 => hsrc s1 v _ _ g1.at fun s2 I fp wr P St W hst hfp hwr hP n2 => ?_)
  refine comp_core (H := H) (s := s1) (RR := fun acc C => compPost (model prog w) A E Option.none Q acc C) W rfl hz hcell hkind hx hst hfp hwr hP h1 n2 htest helt hres ?_
  intro D C s' ys m' nx hs' fD fC hDC hns hpl hI
  refine ⟨m', hns, fun h' hsb => ?_⟩
  have nx' : Nx s1 { s' with heap := h' } := ⟨fun b o e => hsb.extBut b o (by rintro rfl; rw [fC] at e; cases e) (nx.up b o e), nx.os, nx.gens, nx.bare⟩
  obtain ⟨k, hD⟩ := hpl
  refine q _ _ ⟨D, _, rfl, ?_, hsb.extBut _ _ hDC hD, ys, k, rfl, hI⟩ (n1.trans nx') (H.st _ _ nx' h1)
  cases e : s.heap.get? D with
  | none => rfl
  | some o => rw [n1.up _ _ e] at fD; cases fD⟩

theorem Tv.nil {M : Model} {env' : Env} : Tv M A H (forIn ([] : List PySem.Expr) true fun c r => if r = true then do let ok ← isTrue c env' (eval c env'); pure (ForInStep.yield ok) else pure (ForInStep.yield r)) true := ⟨fun s hs Q E q => by
  rw [List.forIn_nil]; exact wpAny_pure (q s (Nx.refl s) hs)⟩
theorem Tv.one {M : Model} {env' : Env} {t : PySem.Expr} {b : Bool} (h : Tr M A env' H t b) : Tv M A H (forIn [t] true fun c r => if r = true then do let ok ← isTrue c env' (eval c env'); pure (ForInStep.yield ok) else pure (ForInStep.yield r)) b := ⟨fun s hs Q E q => by
  rw [List.forIn_cons]
  refine wpAny_bind ?_
  rw [if_pos rfl]
  refine wpAny_bind (h.run s hs _ _ fun s' n hs' => wpAny_pure ?_)
  show wpAny M A (forIn [] b _) Q E s'
  rw [List.forIn_nil]; exact wpAny_pure (q s' n hs')⟩

/- the comprehension's own name -/
theorem Ev.own {M : Model} {scope : Scope} {cl : List (Str × Addr)} {C : Addr} {x : Str} {d : D} {p : Pos} (hk : scope.kind = .function) (hx : scope.names.lookup x = some .local) (hd : (x == ("__debug__" : Str)) = false := by decide +kernel) :
    Ev M A (compEnvC scope cl C env) (CompH H C x d) (.Name x p) d := by
  refine ⟨fun s hs Q E q => ?_⟩
  obtain ⟨_, m, v, h1, h2, h3⟩ := id hs
  exact wpAny_Name (wpAny_loadName_local (env := compEnvC scope cl C env) hk (lookup_relabel_local hx) h1 h2 (q v s h3.got (Nx.refl s) hs)) hd

variable {s₀ : Shared} {vs : Vars} {os : Objs}
end
end Mine

open PySem PySem.W PyProof.Rows
namespace Mine
set_option Elab.async false
set_option maxRecDepth 100000
set_option linter.unusedVariables false

theorem join_empty : ∀ ls : List (List Nat), Str.join ⟨#[]⟩ (ls.map fun l => (⟨l.toArray⟩ : Str)) = ⟨ls.flatten.toArray⟩
  | [] => rfl
  | [x] => by
    show (⟨x.toArray⟩ : Str) = _
    simp
  | x :: y :: r => by
    have ih := join_empty (y :: r)
    show (⟨x.toArray⟩ : Str) ++ ⟨#[]⟩ ++ Str.join ⟨#[]⟩ ((y :: r).map fun l => (⟨l.toArray⟩ : Str)) = _
    rw [ih]
    show (⟨(x.toArray ++ #[]) ++ _⟩ : Str) = _
    simp [List.flatten_cons, List.append_toArray]

theorem strs_vals : ∀ (vs : List Value) (ls : List (List Nat)), Is0s vs (ls.map D.s) → ∃ l : List (Str × Tok), strValues l = vs ∧ l.map (·.1) = ls.map fun l => (⟨l.toArray⟩ : Str)
  | [], [], _ => ⟨[], rfl, rfl⟩
  | v :: vs, x :: ls, h => by
    obtain ⟨⟨t, rfl⟩, h2⟩ := h
    obtain ⟨l, h3, h4⟩ := strs_vals vs ls h2
    exact ⟨(⟨x.toArray⟩, t) :: l, by rw [← h3]; rfl, by rw [List.map_cons, h4]; rfl⟩
  | [], _ :: _, h => h.elim
  | _ :: _, [], h => h.elim

theorem join_sum : ∀ (ls : List (List Nat)) (k : Nat), (ls.map fun l => (⟨l.toArray⟩ : Str)).foldl (fun a x => a + x.length + (⟨#[]⟩ : Str).length) k = k + ls.flatten.length
  | [], k => by simp
  | x :: r, k => by
    rw [List.map_cons, List.foldl_cons, join_sum r]
    have : (⟨x.toArray⟩ : Str).length = x.length := by simp [Str.length]
    rw [this]
    have e0 : (⟨#[]⟩ : Str).length = 0 := rfl
    rw [e0, List.flatten_cons, List.length_append]; omega

section
variable {prog : Program} {w : World} {A : Around} {env : Env} {H : HP}
theorem Cb.join (ls : List (List Nat)) (hz : ls.flatten.length ≤ 2000) : Cl1 (model prog w) A (.builtin "str.join") [.s [], .k (Lo (ls.map D.s))] (.s ls.flatten) := by
  rintro s vs Q E g q
  obtain ⟨v, u, rfl, ⟨t, rfl⟩, D0, o, rfl, ho, hL⟩ := g.two
  obtain ⟨items, hl, hI, _⟩ := hL.is ho
  obtain ⟨l, h1, h2⟩ := strs_vals _ _ hI
  have hl' : s.heap.IsList D0 (strValues l).toArray := by rw [h1]; simpa using hl
  refine SC.join hl' h2 ?_ fun t' k => ?_
  · unfold JoinOk Builtin.Str.tooLong
    rw [List.foldl_toArray, join_sum]
    have h2 : sizeLine = 2 ^ 24 := rfl
    rw [decide_eq_false (by omega)]; rfl
  · have e : Txt.join ⟨#[]⟩ (ls.map fun l => (⟨l.toArray⟩ : Str)) = ⟨ls.flatten.toArray⟩ := by
      unfold Txt.join
      rw [StrLaws.glued_eq_join, join_empty]
    rw [show (([] : List Nat).toArray) = #[] from rfl, e]
    exact q _ _ ⟨t', rfl⟩ (Nx.tok s _)

/- ''.join(e) -/
theorem Ev.join {e : PySem.Expr} {c : Nat} {p0 apos pos : Pos} {x : Str} {ls : List (List Nat)} (hx : x = ⟨#[]⟩) (he : Ev (model prog w) A env H e (.k (Lo (ls.map D.s)))) (hz : ls.flatten.length ≤ 2000)
    (hbase : attributeBase (.Constant (.str x) c p0) "join" env (eval (.Constant (.str x) c p0) env) = eval (.Constant (.str x) c p0) env := by rfl)
    (hfew : ((backTo pos (starEach [e] env)).all (fun x => !x.1) && (backToKw pos (keywordEach [] env)).all (fun x => x.1.isSome)
      && decide (([e] : List PySem.Expr).length + ([] : List Keyword).length + (if ([] : List Keyword).isEmpty then 0 else 1) < 30)) = true := by rfl)
    (hline : (apos.endLine == pos.line) = true := by rfl)
    (hst : starEach [e] env = (false, eval e env) :: starEach [] env := by rfl) :
    Ev (model prog w) A env H (.Call (.Attribute (.Constant (.str x) c p0) "join" apos) [e] [] pos) (.s ls.flatten) :=
  Ev.meth1 (T := "str") (d0 := .s []) F.plainAttrs_str F.slot_str_join F.type_str_join (Ev.str (by rw [hx])) (fun s v _ h => by obtain ⟨t, rfl⟩ := h; exact ⟨typeIs_str _ _ _, fun _ e => nomatch e⟩) he (Cb.join ls hz).cr hbase hfew hline hst
end
end Mine

open PySem PySem.W PyProof.Rows
namespace Mine
set_option Elab.async false
set_option linter.unusedVariables false

theorem Is0s.ints : ∀ {vs : List Value} {ns : List Int}, Is0s vs (ns.map D.i) → IntsAre vs ns
  | [], [], _ => .nil
  | v :: vs, n :: ns, h => by
    obtain ⟨⟨t, rfl⟩, h2⟩ := h
    exact .cons n t (Is0s.ints h2)
  | [], _ :: _, h => h.elim
  | _ :: _, [], h => h.elim
section
variable {prog : Program} {w : World} {A : Around} {env : Env} {H : HP} {xs : List Str}

theorem Op.ladd (a b : List D) (hz : a.length + b.length ≤ 4000) : Op2 (model prog w) A (binaryOp .Add) (.k (Ls a)) (.k (Ls b)) (.o (Ls (a ++ b))) := by
  rintro s _ _ Q E ⟨l, o, rfl, ho, i1, n1, rfl, h1⟩ ⟨m, o', rfl, ho', i2, n2, rfl, h2⟩ q
  have e1 : i1.size = a.length := by rw [← Array.length_toList]; exact h1.length
  have e2 : i2.size = b.length := by rw [← Array.length_toList]; exact h2.length
  have hsl : sizeLine = 2 ^ 24 := rfl
  refine P.add_list ho ho' (q _ _ ⟨_, _, rfl, fresh_size _ _ (Nat.le_refl _), Heap.get?_push_size _ rfl, _, 0, rfl, ?_⟩ (Nx.push s _)) (by omega)
  rw [Array.toList_append]; exact h1.append h2

theorem all_get (ns ms : List Int) (h : ns.length = ms.length) : ((List.range ns.length).all fun j => ns.getD j 0 == ms.getD j 0) = (ns == ms) := by
  rw [Bool.eq_iff_iff, List.all_eq_true, beq_iff_eq]
  constructor
  · intro hh
    apply List.ext_getElem h
    intro i h1 h2
    have := hh i (List.mem_range.mpr h1)
    rw [beq_iff_eq, List.getD_eq_getElem?_getD, List.getD_eq_getElem?_getD, List.getElem?_eq_getElem h1, List.getElem?_eq_getElem h2] at this
    exact this
  · rintro rfl i _; simp

theorem eqAt_ints {s : Shared} {i1 i2 : Array Value} {ns ms : List Int} (h1 : Is0s i1.toList (ns.map D.i)) (h2 : Is0s i2.toList (ms.map D.i)) (j : Nat) (hj1 : j < i1.size) (hj2 : j < i2.size) : SeqAt.EqAt A.in1 s i1[j] i2[j] (ns.getD j 0 == ms.getD j 0) := by
  have e1 : j < ns.length := by have := h1.length; simp at this; omega
  have e2 : j < ms.length := by have := h2.length; simp at this; omega
  obtain ⟨v, hv, t, rfl⟩ := h1.get j (d := .i (ns.getD j 0)) (by rw [List.getElem?_map, List.getElem?_eq_getElem e1, List.getD_eq_getElem?_getD, List.getElem?_eq_getElem e1]; rfl)
  obtain ⟨u, hu, t', rfl⟩ := h2.get j (d := .i (ms.getD j 0)) (by rw [List.getElem?_map, List.getElem?_eq_getElem e2, List.getD_eq_getElem?_getD, List.getElem?_eq_getElem e2]; rfl)
  have hv' : i1[j] = .int (ns.getD j 0) t := by rw [Array.getElem?_toList, Array.getElem?_eq_getElem hj1] at hv; exact Option.some.inj hv
  have hu' : i2[j] = .int (ms.getD j 0) t' := by rw [Array.getElem?_toList, Array.getElem?_eq_getElem hj2] at hu; exact Option.some.inj hu
  rw [hv', hu']
  exact (MeetsSeq.EqGives.int _ _ _ _).at _ _

theorem Op.lne (ns ms : List Int) (hu : A.units < cLine) : Op2 (model prog w) A (compareOp .NotEq) (.k (Lo (ns.map D.i))) (.k (Lo (ms.map D.i))) (.b (ns != ms)) := by
  rintro s _ _ Q E ⟨l, o, rfl, ho, hL⟩ ⟨m, o', rfl, ho', hM⟩ q
  obtain ⟨i1, hl, h1, e1⟩ := hL.is ho
  obtain ⟨i2, hm, h2, e2⟩ := hM.is ho'
  rw [List.length_map] at e1 e2
  by_cases hsz : ns.length = ms.length
  · refine SeqAt.RcNeAt.lists (A := A) (e := fun j => ns.getD j 0 == ms.getD j 0) hl hm (by omega) hu (fun j a b => eqAt_ints h1 h2 j a b) prog w E Q ?_
    rw [e1, all_get ns ms hsz]
    exact q _ _ rfl (Nx.refl s)
  · refine SeqAt.RcNeAt.lists_lengths (A := A) hl hm (by rw [e1, e2]; simpa using hsz) hu prog w E Q ?_
    have : (ns != ms) = true := by rw [bne_iff_ne]; rintro rfl; exact hsz rfl
    rw [this] at q
    exact q _ _ rfl (Nx.refl s)

/- a slice of a list -/
theorem Ev.lslice {value : PySem.Expr} {lower upper : Option PySem.Expr} {p pos : Pos} {ds : List D} {d1 d2 : D} {lo hi : Option Int}
    (hv : Ev (model prog w) A env H value (.k (Lo ds))) (h1 : Evp (model prog w) A env H lower d1) (h2 : Evp (model prog w) A env H upper d2) (p1 : Part d1 lo) (p2 : Part d2 hi) (hz : ds.length ≤ 2000)
    (ht : ∀ o r, letTemporaryGo value o r = pure () := by intro _ _; rfl) :
    Ev (model prog w) A env H (.Subscript value (.Slice lower upper Option.none p) pos) (.o (Ls (cut lo hi ds))) := by
  refine ⟨fun s hs Q E q => ?_⟩
  refine wpAny_Subscript_list_slice (hv.run s hs _ _ fun v s1 g1 n1 hs1 => h1.run s1 hs1 _ _ fun vl s2 g2 n2 hs2 => h2.run s2 hs2 _ _ fun vu s3 g3 n3 hs3 => ?_) ht
  obtain ⟨l, o, rfl, ho, hL⟩ := g1
  obtain ⟨items, hl, hI, hsz⟩ := hL.is (n3.up _ _ (n2.up _ _ ho))
  have part : ∀ {v : Value} {d : D} {p : Option Int}, Part d p → At s3 v d → IsPart v p := fun {v d p} hp g => by
    cases p with
    | none => cases (show d = .n from hp); cases (show v = .none from g); exact .none
    | some i => cases (show d = .i i from hp); obtain ⟨t, rfl⟩ := g; exact .int i t
  have hsl : sizeLine = 2 ^ 24 := rfl
  refine ⟨l, items, lo, hi, rfl, hl, by omega, part p1 (g2.at.nx n3), part p2 g3.at, ?_⟩
  have nn : Nx s { s3 with heap := (s3.heap.push { cls := .type "slice", data := .fields #[vl, vu, .none] }).push { cls := .type "list", data := .seq (slicePick items lo hi Option.none) } } :=
    ((n1.trans n2).trans n3).trans ((Nx.push s3 _).trans (Nx.push _ _))
  refine q _ _ ⟨_, _, rfl, ?_, by rw [← Heap.size_push]; exact Heap.get?_push_size _ rfl, _, 0, rfl, ?_⟩ nn (H.st _ _ nn hs)
  · cases e : s.heap.get? (s3.heap.objs.size + 1) with
    | none => rfl
    | some o =>
      exact absurd (Heap.lt_size (((n1.trans n2).trans n3).up _ _ e)) (Nat.not_lt.mpr (Nat.le_succ _))
  · rw [cut_list]
    unfold cut
    have e : items.toList.length = ds.length := hI.length
    rw [e]
    exact (hI.drop _).take _

end
end Mine

open PySem PySem.W PyProof.Rows
namespace Mine
set_option Elab.async false
set_option linter.unusedVariables false

section
variable {prog : Program} {w : World} {A : Around} {env : Env} {H : HP} {xs : List Str}

theorem Cb.isBool (n : Int) : Cl1 (model prog w) A (.builtin "isinstance") [.i n, .v (.type "bool")] (.b false) := by
  rintro s vs Q E g q
  obtain ⟨v, u, rfl, ⟨t, rfl⟩, rfl⟩ := g.two
  exact IsiPair.int_bool (q _ _ rfl (Nx.tok s _))

end
end Mine

open PySem PySem.W PyProof.Rows
namespace Mine
set_option Elab.async false
set_option maxRecDepth 100000
set_option linter.unusedVariables false

section
variable {prog : Program} {w : World} {A : Around} {env : Env} {H : HP} {xs : List Str}

/- a slice of a list that may be a temporary -/
theorem Ev.lsliceT {value : PySem.Expr} {lower upper : Option PySem.Expr} {p pos : Pos} {ds : List D} {d1 d2 : D} {lo hi : Option Int}
    (hv : Ev (model prog w) A env H value (.k (Lo ds))) (h1 : Evp (model prog w) A env H lower d1) (h2 : Evp (model prog w) A env H upper d2) (p1 : Part d1 lo) (p2 : Part d2 hi) (hz : ds.length ≤ 2000) :
    Ev (model prog w) A env H (.Subscript value (.Slice lower upper Option.none p) pos) (.o (Ls (cut lo hi ds))) := by
  refine ⟨fun s hs Q E q => Subscript_ (hv.run s hs _ _ fun v s1 g1 n1 hs1 => wpAny_Slice (h1.run s1 hs1 _ _ fun vl s2 g2 n2 hs2 => h2.run s2 hs2 _ _ fun vu s3 g3 n3 hs3 => ?_))⟩
  obtain ⟨l, o, rfl, ho, hL⟩ := g1
  obtain ⟨items, hl, hI, hsz⟩ := hL.is (n3.up _ _ (n2.up _ _ ho))
  have part : ∀ {v : Value} {d : D} {p : Option Int}, Part d p → At s3 v d → IsPart v p := fun {v d p} hp g => by
    cases p with
    | none => cases (show d = .n from hp); cases (show v = .none from g); exact .none
    | some i => cases (show d = .i i from hp); obtain ⟨t, rfl⟩ := g; exact .int i t
  have hsl : sizeLine = 2 ^ 24 := rfl
  refine wpAny_pure ?_
  have nn : Nx s { s3 with heap := (s3.heap.push { cls := .type "slice", data := .fields #[vl, vu, .none] }).push { cls := .type "list", data := .seq (slicePick items lo hi Option.none) } } :=
    ((n1.trans n2).trans n3).trans ((Nx.push s3 _).trans (Nx.push _ _))
  have hQ : Q (.ref (s3.heap.objs.size + 1)) { s3 with heap := (s3.heap.push { cls := .type "slice", data := .fields #[vl, vu, .none] }).push { cls := .type "list", data := .seq (slicePick items lo hi Option.none) } } := by
    refine q _ _ ⟨_, _, rfl, ?_, by rw [← Heap.size_push]; exact Heap.get?_push_size _ rfl, _, 0, rfl, ?_⟩ nn (H.st _ _ nn hs)
    · cases e : s.heap.get? (s3.heap.objs.size + 1) with
      | none => rfl
      | some o =>
        exact absurd (Heap.lt_size (((n1.trans n2).trans n3).up _ _ e)) (Nat.not_lt.mpr (Nat.le_succ _))
    · rw [cut_list]
      unfold cut
      have e : items.toList.length = ds.length := hI.length
      rw [e]
      exact (hI.drop _).take _
  have hT : ({ s3 with heap := s3.heap.push { cls := .type "slice", data := .fields #[vl, vu, .none] } } : Shared).TypeIs (.ref l) "list" := (hl.push _).typeIs
  have hget : wpAny (model prog w) A (getItem (.ref l) (.ref s3.heap.objs.size)) Q E { s3 with heap := s3.heap.push { cls := .type "slice", data := .fields #[vl, vu, .none] } } :=
    wpAny_getItem_list_slice (hl.push _) (Heap.IsSliceOf.new ..) (part p1 (g2.at.nx n3)) (part p2 g3.at) .none (by simp) (by rw [Heap.size_push]; exact hQ) (by omega)
  have fin : wpAny (model prog w) A (operate [.ref s3.heap.objs.size, .ref l] (getItem (.ref l) (.ref s3.heap.objs.size))) (fun r s₃ => wpAny (model prog w) A (letTemporaryGo value (.ref l) r >>= fun _ => pure r) Q E s₃) E { s3 with heap := s3.heap.push { cls := .type "slice", data := .fields #[vl, vu, .none] } } :=
    wpAny_operating (wpAny_mono hget (fun r s₃ h₃ => wpAny_bind (wpAny_letTemporaryGo (wpAny_pure h₃))) fun _ _ x => x)
  unfold subscriptTail
  refine wpAny_bind ?_
  rw [getitemInPython_of_ne hT.not_modules]
  refine wpAny_bind (wpAny_specialOf hT list_getitem_lookup ?_)
  first
    | exact wpAny_pure (wpAny_bind fin)
    | exact wpAny_bind (wpAny_pure (wpAny_bind fin))
    | exact wpAny_bind fin
end
end Mine

open PySem PySem.W PyProof.Rows
namespace Mine
set_option Elab.async false

/- a dict's pairs as they lie: strs and ints with whatever tokens -/
inductive AreS : List (Str × Value) → List (Str × Int) → Prop
  | nil : AreS [] []
  | cons {k : Str} {v : Int} {t : Tok} {kvs ps} : AreS kvs ps → AreS ((k, .int v t) :: kvs) ((k, v) :: ps)
theorem AreS.append {a b : List (Str × Value)} {p q : List (Str × Int)} (h : AreS a p) (h' : AreS b q) : AreS (a ++ b) (p ++ q) := by
  induction h with
  | nil => exact h'
  | cons _ ih => exact .cons ih
theorem AreS.keys {a : List (Str × Value)} {p : List (Str × Int)} (h : AreS a p) : a.map (·.1) = p.map (·.1) := by
  induction h with
  | nil => rfl
  | cons _ ih => simp [ih]
theorem AreS.length {a : List (Str × Value)} {p : List (Str × Int)} (h : AreS a p) : a.length = p.length := by
  have := congrArg List.length h.keys; simpa using this

/- the trees of a display's pair -/
noncomputable def PairIsS (M : Model) (t : Sem Value × Sem Value) (p : Str × Int) : Prop :=
  (∀ (A : Around) (E : Value → Shared → Prop) (s : Shared) (Q : Value → Shared → Prop), Q (.str p.1 s.toks) { s with toks := s.toks + 1 } → wpAny M A t.1 Q E s) ∧
  (∀ (A : Around) (E : Value → Shared → Prop) (s : Shared) (Q : Value → Shared → Prop), Q (.int p.2 s.toks) { s with toks := s.toks + 1 } → wpAny M A t.2 Q E s)
inductive PairsAreS (M : Model) : List (Sem Value × Sem Value) → List (Str × Int) → Prop
  | nil : PairsAreS M [] []
  | cons {t p ts ps} : PairIsS M t p → PairsAreS M ts ps → PairsAreS M (t :: ts) (p :: ps)
theorem PairsAreS.length {M : Model} {a p} (h : PairsAreS M a p) : a.length = p.length := by
  induction h with
  | nil => rfl
  | cons _ _ ih => simp [ih]

section
variable {prog : Program} {w : World} {A : Around} {E : Value → Shared → Prop} {s : Shared}

theorem stored_freshS {kvs : List (Str × Value)} {k : Str} {v : Value} (h : k ∉ kvs.map (·.1)) : stored kvs k v = kvs ++ [(k, v)] := by
  unfold stored
  rw [if_neg]
  rw [List.any_eq_true]; rintro ⟨kv, hkv, he⟩
  exact h (List.mem_map.mpr ⟨kv, hkv, of_decide_eq_true he⟩)

theorem nodup_midS {a b : List Str} {k : Str} (h : (a ++ k :: b).Nodup) : k ∉ a := by
  rw [List.nodup_append] at h
  exact fun hk => h.2.2 k hk k (.head _) rfl

/- the long sub-dict's loop -/
theorem fill_longS {d : Addr} {ts : List (Sem Value × Sem Value)} {ps : List (Str × Int)} (hx : PairsAreS (model prog w) ts ps) : ∀ (aps : List (Str × Int)) (acc : List (Str × Value)) (s : Shared) (Q : PUnit → Shared → Prop),
    AreS acc aps → ((aps ++ ps).map (·.1)).Nodup → s.heap.DictOf (PySem.strKind prog w) d acc → (aps ++ ps).length ≤ sizeLine →
    (∀ h' tk kvs, AreS kvs (aps ++ ps) → h'.DictOf (PySem.strKind prog w) d kvs → Heap.SameBut d s.heap h' → Q PUnit.unit { s with heap := h', toks := tk }) →
    wpAny (model prog w) A (forIn ts PUnit.unit fun (x : Sem Value × Sem Value) (_ : PUnit) => (do
        let kv ← x.1
        let vv ← holding [kv] x.2
        holding [kv, vv] (dictSet d kv vv)
        pure (ForInStep.yield PUnit.unit) : Sem (ForInStep PUnit))) Q E s := by
  induction hx with
  | nil =>
    intro aps acc s Q ha _ hm _ hQ
    rw [List.forIn_nil]
    exact wpAny_pure (by simpa using hQ s.heap s.toks acc (by simpa using ha) hm (Heap.SameBut.refl _ _))
  | cons hx hr ih =>
    rename_i t p ts ps
    obtain ⟨k, v⟩ := p
    intro aps acc s Q ha hn hm hz hQ
    rw [List.forIn_cons]
    refine wpAny_bind (wpAny_bind (hx.1 _ _ _ _ (wpAny_bind (wpAny_holding (hx.2 _ _ _ _ (wpAny_bind (wpAny_holding ?_)))))))
    have hfresh : k ∉ acc.map (·.1) := by
      rw [ha.keys]
      rw [List.map_append, List.map_cons] at hn
      exact nodup_midS hn
    have hle : acc.length ≤ sizeLine := by
      have := ha.length
      simp only [List.length_append, List.length_cons] at hz
      omega
    refine wpAny_dictSet_pairs (knd := PySem.strKind prog w) (k := k) (hsz := hle) (strKind_is _ _ _ _) hm fun h₁ hm₁ hs₁ => wpAny_pure ?_
    rw [stored_freshS hfresh] at hm₁
    refine ih (aps ++ [(k, v)]) _ _ Q (ha.append (.cons .nil)) (by simpa using hn) hm₁ (by simpa using hz) fun h' tk kvs hk hm' hs' => ?_
    exact hQ h' tk kvs (by simpa using hk) hm' (hs₁.trans hs')

theorem pairs_allS {ts : List (Sem Value × Sem Value)} {ps : List (Str × Int)} (hx : PairsAreS (model prog w) ts ps) : ∀ (s : Shared) (Q : List (Value × Value) → Shared → Prop),
    (∀ vs tk kvs, AreS kvs ps → Carries (PySem.strKind prog w) vs kvs → Q vs { s with toks := tk }) → wpAny (model prog w) A (evalPairs ts) Q E s := by
  induction hx with
  | nil =>
    intro s Q hQ
    exact evalPairs_nil (by simpa using hQ [] s.toks [] .nil trivial)
  | cons hx hr ih =>
    rename_i t p ts ps
    obtain ⟨k, v⟩ := p
    intro s Q hQ
    exact evalPairs_cons (hx.1 _ _ _ _ (hx.2 _ _ _ _ (ih _ _ fun vs tk kvs ha hc =>
      hQ _ tk ((k, .int v _) :: kvs) (.cons ha) ⟨strKind_is _ _ _ _, rfl, hc⟩)))

theorem subDict_areS {ts : List (Sem Value × Sem Value)} {ps : List (Str × Int)} {Q : Addr → Shared → Prop} (hx : PairsAreS (model prog w) ts ps) (hn : (ps.map (·.1)).Nodup) (hz : ps.length ≤ sizeLine)
    (hQ : ∀ h' tk kvs, AreS kvs ps → h'.DictOf (PySem.strKind prog w) s.heap.objs.size kvs → KeepsAll s.heap h' → Q s.heap.objs.size { s with heap := h', toks := tk }) :
    wpAny (model prog w) A (subDict ts) Q E s := by
  unfold subDict
  refine wpAny_bind (wpAny_alloc ?_)
  have hd : (s.heap.push { cls := .type "dict", data := .dict #[] }).DictOf (PySem.strKind prog w) s.heap.objs.size [] := .new s.heap
  have kk : ∀ h', Heap.SameBut s.heap.objs.size (s.heap.push { cls := .type "dict", data := .dict #[] }) h' → KeepsAll s.heap h' := fun h' hs =>
    (KeepsAll.push _ _).same (Nat.le_refl _) hs
  refine wpAny_bind (wpAny_holding ?_)
  split
  · refine wpAny_bind (pairs_allS hx _ _ fun vs tk kvs ha hc => wpAny_holding ?_)
    refine wpAny_bind (wpAny_storeAll (knd := PySem.strKind prog w) vs kvs [] _ _ hc hd (by rw [List.length_nil, ha.length]; omega) fun h' hm hs => wpAny_pure (wpAny_pure ?_))
    rw [merged_nil_of_nodup _ (by rw [ha.keys]; exact hn)] at hm
    exact hQ _ _ kvs ha hm (kk _ hs)
  · refine wpAny_bind (wpAny_rule ?_)
    refine wpAny_bind (fill_longS hx [] [] _ _ .nil hn hd hz fun h' tk kvs hk hm hs => wpAny_pure (wpAny_pure ?_))
    exact hQ _ _ kvs hk hm (kk _ hs)

/- a display of no more than 16 pairs -/
theorem display_areS {ts : List (Sem Value × Sem Value)} {ps : List (Str × Int)} {Q : Value → Shared → Prop} (hx : PairsAreS (model prog w) ts ps) (hn : (ps.map (·.1)).Nodup) (hz : ps.length ≤ 16) (hne : ps ≠ [])
    (hQ : ∀ h' tk kvs, AreS kvs ps → h'.DictOf (PySem.strKind prog w) s.heap.objs.size kvs → KeepsAll s.heap h' → Q (.ref s.heap.objs.size) { s with heap := h', toks := tk }) :
    wpAny (model prog w) A (dictDisplay (ts.map fun p => (some p.1, p.2))) Q E s := by
  unfold dictDisplay
  dsimp only
  have hl := hx.length
  refine wpAny_bind ?_
  refine wpAny_forIn_list _
      (fun rest st s' => ∃ tsr, rest = (tsr.map fun p => (some p.1, p.2)) ∧ st.2 ++ tsr = ts ∧ st.1 = none ∧ s' = s)
      _ ?_ ?_ _ _ ⟨ts, rfl, by simp, rfl, rfl⟩
  · rintro ⟨k, v⟩ rest ⟨main, run⟩ s' ⟨tsr, hr, he, hm, rfl⟩
    dsimp only at he hm
    cases tsr with
    | nil => cases hr
    | cons t tsr =>
      simp only [List.map_cons, List.cons.injEq, Prod.mk.injEq] at hr
      obtain ⟨⟨rfl, rfl⟩, rfl⟩ := hr
      dsimp only
      have hlen : (run ++ [(t.1, t.2)]).length ≤ 16 := by
        have := congrArg List.length he
        simp at this ⊢; omega
      rw [if_neg (by simp at hlen ⊢; omega)]
      exact wpAny_pure ⟨tsr, rfl, by rw [← he]; simp, hm, rfl⟩
  · rintro ⟨main, run⟩ s' ⟨tsr, hr, he, hm, rfl⟩
    dsimp only at he hm
    subst hm
    cases tsr with
    | cons t tsr => cases hr
    | nil =>
      rw [List.append_nil] at he
      subst he
      have hrun : run.isEmpty = false := by
        cases run with
        | nil => cases hx; exact absurd rfl hne
        | cons _ _ => rfl
      dsimp only
      rw [hrun]
      simp only [Bool.false_eq_true, if_false]
      have hsl : sizeLine = 2 ^ 24 := rfl
      refine wpAny_bind (wpAny_bind (subDict_areS hx hn (by omega) fun h2 tk2 kvs2 ha2 hm2 hk2 => wpAny_pure (wpAny_pure (hQ _ _ _ ha2 hm2 hk2))))

/- the pairs that a display of written strs and ints bears -/
noncomputable def constPairsS : List (Option PySem.Expr) → List PySem.Expr → Option (List (Str × Int))
  | [], [] => some []
  | k :: ks, v :: vs => (k.bind strLit).bind fun i => (intLit v).bind fun x => (constPairsS ks vs).map ((i.1, x.1) :: ·)
  | _, _ => none

theorem constPairsS_are (env : Env) (pos : Pos) : ∀ (ks : List (Option PySem.Expr)) (vs : List PySem.Expr) (ps : List (Str × Int)), constPairsS ks vs = some ps →
    ∃ ts, (evalEachOpt ks env).zip ((evalEach vs env).map fun v => do let x ← v; standAt pos; pure x) = ts.map (fun p => (some p.1, p.2)) ∧ PairsAreS (model prog w) ts ps
  | [], [], ps, h => by
    cases h
    exact ⟨[], rfl, .nil⟩
  | [], _ :: _, _, h => nomatch h
  | _ :: _, [], _, h => nomatch h
  | k :: ks, v :: vs, ps, h => by
    have h : (k.bind strLit).bind (fun i => (intLit v).bind fun x => (constPairsS ks vs).map ((i.1, x.1) :: ·)) = some ps := h
    obtain ⟨i, hi, h⟩ := Option.bind_eq_some_iff.mp h
    obtain ⟨x, hx, h⟩ := Option.bind_eq_some_iff.mp h
    obtain ⟨ps', h', rfl⟩ := Option.map_eq_some_iff.mp h
    obtain ⟨e0, rfl, hi⟩ := Option.bind_eq_some_iff.mp hi
    have e1 := strLit_eq hi
    have e2 := intLit_eq hx
    subst e1
    subst e2
    obtain ⟨ts, e, hp⟩ := constPairsS_are env pos ks vs ps' h'
    refine ⟨(eval (.Constant (.str i.1) i.2.1 i.2.2) env, do let y ← eval (.Constant (.int x.1) x.2.1 x.2.2) env; standAt pos; pure y) :: ts, ?_, .cons ⟨fun A E s Q q => wpAny_Constant_str (x := i.1) (k := i.2.1) (pos := i.2.2) (env := env) q, fun A E s Q q => wpAny_bind (wpAny_Constant_int (i := x.1) (k := x.2.1) (pos := x.2.2) (env := env) (wpAny_bind (wpAny_standAt (wpAny_pure q))))⟩ hp⟩
    rw [List.map_cons, ← e]
    rfl

theorem eval_Dict_areS {env : Env} {ks : List (Option PySem.Expr)} {vs : List PySem.Expr} {pos : Pos} {ps : List (Str × Int)} {Q : Value → Shared → Prop} (hc : constPairsS ks vs = some ps) (hn : (ps.map (·.1)).Nodup) (hz : ps.length ≤ 16) (hne : ps ≠ [])
    (hQ : ∀ h' tk kvs, AreS kvs ps → h'.DictOf (PySem.strKind prog w) s.heap.objs.size kvs → KeepsAll s.heap h' → Q (.ref s.heap.objs.size) { s with heap := h', toks := tk }) :
    wpAny (model prog w) A (eval (.Dict ks vs pos) env) Q E s := by
  obtain ⟨ts, e, hp⟩ := constPairsS_are (prog := prog) (w := w) env pos ks vs ps hc
  rw [arm_eval_Dict, e]
  exact wpAny_bind (wpAny_standAt (display_areS hp hn hz hne hQ))
end
end Mine

open PySem PySem.W PyProof.Rows
namespace Mine
set_option Elab.async false
set_option maxRecDepth 100000
set_option linter.unusedVariables false

/- a dict that tells the pairs -/
noncomputable def Td (prog : Program) (w : World) (ps : List (Str × Int)) : Obj → Prop := fun o => ∃ es ep kvs, o.ExactDict ∧ o.data = .dict es ep ∧ PySem.KeysOf (PySem.strKind prog w) es ∧ Pairs (PySem.strKind prog w) es.toList kvs ∧ (kvs.map (·.1)).Nodup ∧ AreS kvs ps
noncomputable def pairsD (ps : List (Str × Int)) : List (PyData × PyData) := ps.map fun p => (.str p.1, .int p.2)
noncomputable def atS (ps : List (Str × Int)) (k : Str) : Option Int := (ps.find? fun p => p.1 == k).map (·.2)

theorem areS_flat {kvs : List (Str × Value)} {ps : List (Str × Int)} (h : AreS kvs ps) : PyProof.V.FlatPairs PyData.str kvs (pairsD ps) := by
  induction h with
  | nil => exact .nil
  | cons _ ih => exact .cons (PyProof.V.Flat.int _ _) ih
theorem lookupS (k : Str) : ∀ ps : List (Str × Int), PySem.Spec.lookup (.str k) (pairsD ps) = (atS ps k).map PyData.int
  | [] => rfl
  | (k', v) :: ps => by
    show (if PySem.Spec.same (PyData.str k') (.str k) then some (PyData.int v) else PySem.Spec.lookup _ (pairsD ps)) = _
    rw [lookupS k ps]
    unfold atS
    rw [List.find?_cons]
    have : PySem.Spec.same (PyData.str k') (.str k) = (k' == k) := by rw [PyProof.V.same_str, Bool.eq_iff_iff, beq_iff_eq, decide_eq_true_eq]
    rw [this]
    cases k' == k <;> rfl

theorem Td.tab {prog : Program} {w : World} {ps : List (Str × Int)} {o : Obj} {h : Heap} {l : Addr} (T : Td prog w ps o) (ho : h.get? l = some o) (hlow : (l == sysModules) = false) : StrTab prog w h l (pairsD ps) := by
  obtain ⟨es, ep, kvs, h1, h2, h3, h4, h5, h6⟩ := T
  exact ⟨hlow, kvs, ⟨o, es, ep, ho, h1, h2, h3, h4, h5⟩, areS_flat h6⟩

section
variable {prog : Program} {w : World} {A : Around} {env : Env} {H : HP} {s₀ : Shared} {vs : Vars} {os : Objs} {xs : List Str}

/- x = {str: int, ..} -/
theorem Sm.newDict {i : Nat} {x : Str} {a : Option D} {ks : List (Option PySem.Expr)} {es : List PySem.Expr} {p p' pd : Pos} {rest : List Stmt} {ps : List (Str × Int)} {Q : Flow → Shared → Prop} (K : Ok env xs) (hN : ∃ m, s₀.heap.Ns mainGlobals m)
    (hi : vs[i]? = some (x, a)) (hx : x ∈ xs) (hc : constPairsS ks es = some ps) (hn : (ps.map (·.1)).Nodup) (hz : ps.length ≤ 16) (hne : ps ≠ [])
    (h : ∀ l, (l == sysModules) = false → Sm (model prog w) A env (Fm s₀ env (vs.set i (x, some (.r l))) ((l, Td prog w ps) :: os)) rest Q)
    (hs : swapsWith (.Dict ks es pd) (some (.Name x p')) p.line env = pure false := by rfl) : Sm (model prog w) A env (Fm s₀ env vs os) (.Assign [.Name x p'] (.Dict ks es pd) p :: rest) Q :=
  .one fun s (hs' : Fm s₀ env vs os s) E => wpAny_Assign_Name (eval_Dict_areS hc hn hz hne fun h' tk kvs ha hd hk => by
    obtain ⟨o, es, ep, ho, h1, h2, h3, h4, h5⟩ := hd
    have hl : (s.heap.objs.size == sysModules) = false := by
      obtain ⟨m, hm⟩ := hN
      have hlt : mainGlobals < s.heap.objs.size := (hm.keeps hs'.nx.up).lt
      exact beq_eq_false_iff_ne.mpr (Nat.ne_of_gt (Nat.lt_trans (by decide) hlt))
    exact (hs'.made (Nx.of (tk := tk) hk.get) (fresh_size _ _ (Nat.le_refl _)) ho (T := Td prog w ps) ⟨es, ep, kvs, h1, h2, h3, h4, h5, ha⟩).store hi (show Is0 (.ref s.heap.objs.size) (.r s.heap.objs.size) from rfl) K.fn (K.st x hx) fun s'' F' E => (h _ hl).run s'' F' E) hs

theorem FH.tab {i : Nat} {l : Addr} {ps : List (Str × Int)} (hi : os[i]? = some (l, Td prog w ps)) (hlow : (l == sysModules) = false) : ∀ s, (FH s₀ env vs os).P s → StrTab prog w s.heap l (pairsD ps) := fun s (F : Fm s₀ env vs os s) => by
  obtain ⟨_, _, _, o, ho, hT⟩ := F.own _ (List.mem_of_getElem? hi)
  exact hT.tab ho hlow

/- key in a dict -/
theorem Tr.inTab {e c : PySem.Expr} {p : Pos} {l : Addr} {k : List Nat} {ps : List (Str × Int)} (he : Ev (model prog w) A env H e (.s k)) (hd : Ev (model prog w) A env H c (.r l)) (T : ∀ s, H.P s → StrTab prog w s.heap l (pairsD ps))
    (hm : behindInMarks .In c = false := by with_unfolding_all rfl) : Tr (model prog w) A env H (.Compare e [.In] [c] p) (atS ps ⟨k.toArray⟩).isSome :=
  ⟨fun s hs _ _ q => wpAny_isTrue_Compare1 (he.run s hs _ _ fun v1 s1 g1 n1 h1 => hd.run s1 h1 _ _ fun v2 s2 g2 n2 h2 => by
    obtain ⟨t, rfl⟩ := (show ∃ t, v1 = .str ⟨k.toArray⟩ t from g1)
    cases (show v2 = .ref l from g2)
    refine in_strTab (T s2 h2) (wpAny_truthy_bool ?_)
    have e : (PySem.Spec.lookup (.str ⟨k.toArray⟩) (pairsD ps)).isSome = (atS ps ⟨k.toArray⟩).isSome := by rw [lookupS]; cases atS ps ⟨k.toArray⟩ <;> rfl
    rw [e]
    exact q _ ((n1.trans n2).trans (Nx.tok _ _)) (H.st _ _ (Nx.tok _ _) h2)) hm⟩

/- a dict's item -/
theorem Ev.itemTab {value slice : PySem.Expr} {pos : Pos} {l : Addr} {k : List Nat} {ps : List (Str × Int)} {v : Int} (hd : Ev (model prog w) A env H value (.r l)) (he : Ev (model prog w) A env H slice (.s k)) (T : ∀ s, H.P s → StrTab prog w s.heap l (pairsD ps)) (hv : atS ps ⟨k.toArray⟩ = some v)
    (hs : ∀ t, subscripted slice false (.ref l) (.str ⟨k.toArray⟩ t) = operate [.ref l, .str ⟨k.toArray⟩ t] (getItem (.ref l) (.str ⟨k.toArray⟩ t)) := by intro _; with_unfolding_all rfl)
    (ht : ∀ o r, letTemporaryGo value o r = pure () := by intro _ _; with_unfolding_all rfl) :
    Ev (model prog w) A env H (.Subscript value slice pos) (.i v) := ⟨fun s h0 Q E q =>
  Subscript_ (hd.run s h0 _ _ fun u s1 g1 n1 h1 => he.run s1 h1 _ _ fun i s2 g2 n2 h2 => by
    cases (show u = .ref l from g1)
    obtain ⟨t, rfl⟩ := (show ∃ t, i = .str ⟨k.toArray⟩ t from g2)
    refine item_strTab (T s2 h2) (dv := .int v) (by rw [lookupS, hv]; rfl) (fun x hx => ?_) (hs t) (ht _)
    obtain ⟨t', rfl⟩ := hx.int_inv
    exact q _ _ ⟨t', rfl⟩ ((n1.trans n2).trans (Nx.tok _ _)) (H.st _ _ (Nx.tok _ _) h2))⟩
end
end Mine

open PySem PySem.W PyProof.Rows
namespace Mine
set_option Elab.async false
set_option maxRecDepth 100000
set_option linter.unusedVariables false

theorem ltl_step (ns ms : List Int) (i : Nat) (h1 : i < ns.length) (h2 : i < ms.length) : decide (ns.drop i < ms.drop i) = if ns.getD i 0 == ms.getD i 0 then decide (ns.drop (i + 1) < ms.drop (i + 1)) else decide (ns.getD i 0 < ms.getD i 0) := by
  rw [List.drop_eq_getElem_cons h1, List.drop_eq_getElem_cons h2, List.getD_eq_getElem?_getD, List.getD_eq_getElem?_getD, List.getElem?_eq_getElem h1, List.getElem?_eq_getElem h2]
  simp only [Option.getD_some, List.cons_lt_cons_iff]
  by_cases h : ns[i] = ms[i]
  · rw [if_pos (beq_iff_eq.mpr h)]
    have : ¬ ns[i] < ms[i] := by rw [h]; exact Int.lt_irrefl _
    rw [decide_eq_decide]
    exact ⟨fun x => x.elim (fun y => absurd y this) (·.2), fun x => .inr ⟨h, x⟩⟩
  · rw [if_neg (by simpa using h)]
    rw [decide_eq_decide]
    exact ⟨fun x => x.elim id (fun y => absurd y.1 h), .inl⟩
theorem ltl_end (ns ms : List Int) (i : Nat) (h : ¬ (i < ns.length ∧ i < ms.length)) (h1 : i ≤ ns.length) (h2 : i ≤ ms.length) : decide (ns.drop i < ms.drop i) = decide (ns.length < ms.length) := by
  rcases Nat.lt_or_ge i ms.length with hm | hm
  · have hn : ns.drop i = [] := List.drop_eq_nil_of_le (by omega)
    rw [hn, List.drop_eq_getElem_cons hm, decide_eq_decide]
    exact ⟨fun _ => by omega, fun _ => List.nil_lt_cons _ _⟩
  · have hn : ms.drop i = [] := List.drop_eq_nil_of_le hm
    rw [hn, decide_eq_decide]
    exact ⟨fun x => absurd x (List.not_lt_nil _), fun x => by omega⟩

theorem eqInts {A : Around} {s : Shared} {x y : Value} {m n : Int} (hx : ∃ t, x = .int m t) (hy : ∃ t, y = .int n t) : SeqAt.EqAt A.in1 s x y (m == n) := by
  obtain ⟨t, rfl⟩ := hx
  obtain ⟨u, rfl⟩ := hy
  exact (MeetsSeq.EqGives.int _ _ _ _).at _ _

/- the items are the ints -/
noncomputable def Its (items : Array Value) (ns : List Int) : Prop := items.size = ns.length ∧ ∀ j (h : j < items.size), ∃ t, items[j] = .int (ns.getD j 0) t
theorem Is0s.its {items : Array Value} {ns : List Int} (h : Is0s items.toList (ns.map D.i)) : Its items ns := by
  have e : items.size = ns.length := by have := h.length; simpa using this
  refine ⟨e, fun j hj => ?_⟩
  have e1 : j < ns.length := e ▸ hj
  obtain ⟨v, hv, t, rfl⟩ := h.get j (d := .i (ns.getD j 0)) (by rw [List.getElem?_map, List.getElem?_eq_getElem e1, List.getD_eq_getElem?_getD, List.getElem?_eq_getElem e1]; rfl)
  refine ⟨t, ?_⟩
  rw [Array.getElem?_toList, Array.getElem?_eq_getElem hj] at hv; exact Option.some.inj hv

theorem lt_end (l b : Addr) (items items2 : Array Value) (n n2 : Nat) (dd dd2 : Option Addr) (sl sl2 : Array (Option Value)) (i : Nat) (hi : ¬ (i < items.size ∧ i < items2.size)) : Meets (Builtin.«list.__eq__.loop» ⟨[.ref l, .ref b, rawInt i, rawInt 0], []⟩)
      (fun A R s => s.heap.get? l = some { cls := .type "list", dict := dd, data := .seq items n, slots := sl } ∧ s.heap.get? b = some { cls := .type "list", dict := dd2, data := .seq items2 n2, slots := sl2 } ∧
        R (.ok (.ret (.bool (decide (items.size < items2.size))))) s) := by
  intro prog w A R s h
  obtain ⟨hp, g, d, tk, os⟩ := s; obtain ⟨hl, hb, h⟩ := h
  wp_walk using PySem.AutoSeq1.wpAny_loadPart' hl, PySem.AutoSeq1.wpAny_loadPart' hb
  cases h1 : items[((i : Nat) : Int).toNat]? with
  | none =>
    wp_walk using PySem.AutoSeq1.wpAny_loadPart' hl, PySem.AutoSeq1.wpAny_loadPart' hb
    exact h
  | some x => cases h2 : items2[((i : Nat) : Int).toNat]? with
    | none =>
      wp_walk using PySem.AutoSeq1.wpAny_loadPart' hl, PySem.AutoSeq1.wpAny_loadPart' hb
      exact h
    | some y =>
      have a1 := (Array.getElem?_eq_some_iff.mp h1).1
      have a2 := (Array.getElem?_eq_some_iff.mp h2).1
      exact absurd ⟨by simpa using a1, by simpa using a2⟩ hi

theorem lt_loop (l b : Addr) (items items2 : Array Value) (n n2 : Nat) (dd dd2 : Option Addr) (sl sl2 : Array (Option Value)) (ns ms : List Int) (h1 : Its items ns) (h2 : Its items2 ms) (k : Nat) :
    ∀ i : Nat, items.size - i ≤ k → i ≤ items.size → i ≤ items2.size → Meets (Builtin.«list.__eq__.loop» ⟨[.ref l, .ref b, rawInt i, rawInt 0], []⟩)
      (fun A R s => s.heap.get? l = some { cls := .type "list", dict := dd, data := .seq items n, slots := sl } ∧ s.heap.get? b = some { cls := .type "list", dict := dd2, data := .seq items2 n2, slots := sl2 } ∧
        R (.ok (.ret (.bool (decide (ns.drop i < ms.drop i))))) s) := by
  have fin : ∀ i : Nat, ¬ (i < items.size ∧ i < items2.size) → i ≤ items.size → i ≤ items2.size → Meets (Builtin.«list.__eq__.loop» ⟨[.ref l, .ref b, rawInt i, rawInt 0], []⟩)
      (fun A R s => s.heap.get? l = some { cls := .type "list", dict := dd, data := .seq items n, slots := sl } ∧ s.heap.get? b = some { cls := .type "list", dict := dd2, data := .seq items2 n2, slots := sl2 } ∧
        R (.ok (.ret (.bool (decide (ns.drop i < ms.drop i))))) s) := fun i hi hi1 hi2 prog w A R s h => by
    refine lt_end l b items items2 n n2 dd dd2 sl sl2 i hi prog w A R s ⟨h.1, h.2.1, ?_⟩
    have := h.2.2
    rw [ltl_end _ _ i (by rw [← h1.1, ← h2.1]; omega) (by first | rw [← h1.1]; exact hi1 | rw [← h2.1]; exact hi2) (by first | rw [← h1.1]; exact hi1 | rw [← h2.1]; exact hi2), ← h1.1, ← h2.1] at this
    exact this
  induction k with
  | zero => exact fun i hk hi1 hi2 => fin i (by omega) hi1 hi2
  | succ k ih =>
    intro i hk hi1 hi2
    by_cases hi : i < items.size ∧ i < items2.size
    · intro prog w A R s h
      obtain ⟨hp, g, d, tk, os⟩ := s; obtain ⟨hl, hb, h⟩ := h
      wp_walk using PySem.AutoSeq1.wpAny_loadPart' hl, PySem.AutoSeq1.wpAny_loadPart' hb
      have hlt := hi.1
      have hlt2 := hi.2
      have hi1 : items[((i : Nat) : Int).toNat]? = some items[i] := by simp [hlt]
      have hi2 : items2[((i : Nat) : Int).toNat]? = some items2[i] := by simp [hlt2]
      have hc : ((i : Int) + 1) = ((i + 1 : Nat) : Int) := by push_cast; rfl
      rw [hi1, hi2]
      refine wpAny_bind (eqInts (h1.2 i hlt) (h2.2 i hlt2) prog w _ _ ?_)
      rw [ltl_step _ _ i (by first | rw [← h1.1]; exact hlt | rw [← h2.1]; exact hlt2) (by first | rw [← h1.1]; exact hlt | rw [← h2.1]; exact hlt2)] at h
      cases hb' : ns.getD i 0 == ms.getD i 0 with
      | true =>
        rw [if_pos (by first | exact hb' | (rw [BEq.comm]; exact hb'))] at h
        wp_walk
        rw [hc]
        exact ⟨plainId_quiet MeetsSeq3.plain_eq_loop _, codeAny_builtin MeetsSeq3.entry_eq_loop (by
          rw [Around.under_plainId MeetsSeq3.plain_eq_loop _]
          exact ih (i + 1) (by omega) (by omega) (by omega) prog w A R _ ⟨hl, hb, h⟩)⟩
      | false =>
        rw [if_neg (by first | (rw [hb']; decide) | (rw [BEq.comm, hb']; decide))] at h
        obtain ⟨t1, e1⟩ := h1.2 i hlt
        obtain ⟨t2, e2⟩ := h2.2 i hlt2
        wp_walk using PySem.AutoSeq1.wpAny_loadPart' hl, PySem.AutoSeq1.wpAny_loadPart' hb
        rw [hi1, hi2, e1, e2]
        dsimp only
        refine wpAny_bind (richCompare_gives (op := .Lt) (typeIs_int _ _ t1) (typeIs_int _ _ t2) F.slot_int_lt F.entry_int_lt (F.args_int_lt_2 _ _) (gives_int_lt _ _ t1 t2) (fun x => nomatch x) ?_)
        exact wpAny_pure h
    · exact fin i hi hi1 hi2

theorem list_lt (l b : Addr) (items items2 : Array Value) (n n2 : Nat) (dd dd2 : Option Addr) (sl sl2 : Array (Option Value)) (ns ms : List Int) (h1 : Its items ns) (h2 : Its items2 ms) :
    Meets (Builtin.«list.__lt__» ⟨[.ref l, .ref b], []⟩)
      (fun A R s => s.heap.get? l = some { cls := .type "list", dict := dd, data := .seq items n, slots := sl } ∧ s.heap.get? b = some { cls := .type "list", dict := dd2, data := .seq items2 n2, slots := sl2 } ∧
        R (.ok (.ret (.bool (decide (ns < ms))))) s) := by
  intro prog w A R s h
  obtain ⟨hp, g, d, tk, os⟩ := s; obtain ⟨hl, hb, h⟩ := h
  have f3 := PySem.AutoSeq1.sub_list_list
  wp_walk using PySem.AutoSeq1.wpAny_loadPart' hl, PySem.AutoSeq1.wpAny_loadPart' hb
  exact ⟨plainId_quiet MeetsSeq3.plain_eq_loop _, codeAny_builtin MeetsSeq3.entry_eq_loop (by
    rw [Around.under_plainId MeetsSeq3.plain_eq_loop _]
    exact lt_loop l b items items2 n n2 dd dd2 sl sl2 ns ms h1 h2 _ 0 (Nat.le_refl _) (Nat.zero_le _) (Nat.zero_le _) prog w A R _ ⟨hl, hb, by simpa using h⟩)⟩

theorem Op.llt {prog : Program} {w : World} {A : Around} (ns ms : List Int) (hu : A.units < cLine) : Op2 (model prog w) A (compareOp .Lt) (.k (Lo (ns.map D.i))) (.k (Lo (ms.map D.i))) (.b (decide (ns < ms))) := by
  rintro s _ _ Q E ⟨l, o, rfl, ho, hL⟩ ⟨m, o', rfl, ho', hM⟩ q
  obtain ⟨i1, hl, g1, e1⟩ := hL.is ho
  obtain ⟨i2, hm, g2, e2⟩ := hM.is ho'
  obtain ⟨⟨cls, dd, data, sl⟩, ho, hc, n, hd⟩ := id hl
  obtain ⟨⟨cls2, dd2, data2, sl2⟩, ho2, hc2, n2, hd2⟩ := id hm
  simp only at hc hd hc2 hd2
  subst hc hd hc2 hd2
  refine id (richCompare_meets_room (op := .Lt) ⟨_, ho, rfl⟩ ⟨_, ho2, rfl⟩ F.slot_list_lt F.entry_list_lt (F.args_list_lt_2 _ _) (list_lt l m i1 i2 n n2 dd dd2 sl sl2 ns ms g1.its g2.its)
    ⟨ho, ho2, show Value.bool _ ≠ Value.notImplemented ∧ _ from ⟨(fun x => nomatch x), q _ _ rfl (Nx.refl s)⟩⟩ hu)

theorem gt_end (l b : Addr) (items items2 : Array Value) (n n2 : Nat) (dd dd2 : Option Addr) (sl sl2 : Array (Option Value)) (i : Nat) (hi : ¬ (i < items.size ∧ i < items2.size)) : Meets (Builtin.«list.__eq__.loop» ⟨[.ref l, .ref b, rawInt i, rawInt 4], []⟩)
      (fun A R s => s.heap.get? l = some { cls := .type "list", dict := dd, data := .seq items n, slots := sl } ∧ s.heap.get? b = some { cls := .type "list", dict := dd2, data := .seq items2 n2, slots := sl2 } ∧
        R (.ok (.ret (.bool (decide (items2.size < items.size))))) s) := by
  intro prog w A R s h
  obtain ⟨hp, g, d, tk, os⟩ := s; obtain ⟨hl, hb, h⟩ := h
  wp_walk using PySem.AutoSeq1.wpAny_loadPart' hl, PySem.AutoSeq1.wpAny_loadPart' hb
  cases h1 : items[((i : Nat) : Int).toNat]? with
  | none =>
    wp_walk using PySem.AutoSeq1.wpAny_loadPart' hl, PySem.AutoSeq1.wpAny_loadPart' hb
    exact h
  | some x => cases h2 : items2[((i : Nat) : Int).toNat]? with
    | none =>
      wp_walk using PySem.AutoSeq1.wpAny_loadPart' hl, PySem.AutoSeq1.wpAny_loadPart' hb
      exact h
    | some y =>
      have a1 := (Array.getElem?_eq_some_iff.mp h1).1
      have a2 := (Array.getElem?_eq_some_iff.mp h2).1
      exact absurd ⟨by simpa using a1, by simpa using a2⟩ hi

theorem gt_loop (l b : Addr) (items items2 : Array Value) (n n2 : Nat) (dd dd2 : Option Addr) (sl sl2 : Array (Option Value)) (ns ms : List Int) (h1 : Its items ns) (h2 : Its items2 ms) (k : Nat) :
    ∀ i : Nat, items.size - i ≤ k → i ≤ items.size → i ≤ items2.size → Meets (Builtin.«list.__eq__.loop» ⟨[.ref l, .ref b, rawInt i, rawInt 4], []⟩)
      (fun A R s => s.heap.get? l = some { cls := .type "list", dict := dd, data := .seq items n, slots := sl } ∧ s.heap.get? b = some { cls := .type "list", dict := dd2, data := .seq items2 n2, slots := sl2 } ∧
        R (.ok (.ret (.bool (decide (ms.drop i < ns.drop i))))) s) := by
  have fin : ∀ i : Nat, ¬ (i < items.size ∧ i < items2.size) → i ≤ items.size → i ≤ items2.size → Meets (Builtin.«list.__eq__.loop» ⟨[.ref l, .ref b, rawInt i, rawInt 4], []⟩)
      (fun A R s => s.heap.get? l = some { cls := .type "list", dict := dd, data := .seq items n, slots := sl } ∧ s.heap.get? b = some { cls := .type "list", dict := dd2, data := .seq items2 n2, slots := sl2 } ∧
        R (.ok (.ret (.bool (decide (ms.drop i < ns.drop i))))) s) := fun i hi hi1 hi2 prog w A R s h => by
    refine gt_end l b items items2 n n2 dd dd2 sl sl2 i hi prog w A R s ⟨h.1, h.2.1, ?_⟩
    have := h.2.2
    rw [ltl_end _ _ i (by rw [← h1.1, ← h2.1]; omega) (by first | rw [← h1.1]; exact hi1 | rw [← h2.1]; exact hi2) (by first | rw [← h1.1]; exact hi1 | rw [← h2.1]; exact hi2), ← h1.1, ← h2.1] at this
    exact this
  induction k with
  | zero => exact fun i hk hi1 hi2 => fin i (by omega) hi1 hi2
  | succ k ih =>
    intro i hk hi1 hi2
    by_cases hi : i < items.size ∧ i < items2.size
    · intro prog w A R s h
      obtain ⟨hp, g, d, tk, os⟩ := s; obtain ⟨hl, hb, h⟩ := h
      wp_walk using PySem.AutoSeq1.wpAny_loadPart' hl, PySem.AutoSeq1.wpAny_loadPart' hb
      have hlt := hi.1
      have hlt2 := hi.2
      have hi1 : items[((i : Nat) : Int).toNat]? = some items[i] := by simp [hlt]
      have hi2 : items2[((i : Nat) : Int).toNat]? = some items2[i] := by simp [hlt2]
      have hc : ((i : Int) + 1) = ((i + 1 : Nat) : Int) := by push_cast; rfl
      rw [hi1, hi2]
      refine wpAny_bind (eqInts (h1.2 i hlt) (h2.2 i hlt2) prog w _ _ ?_)
      rw [ltl_step _ _ i (by first | rw [← h1.1]; exact hlt | rw [← h2.1]; exact hlt2) (by first | rw [← h1.1]; exact hlt | rw [← h2.1]; exact hlt2)] at h
      cases hb' : ns.getD i 0 == ms.getD i 0 with
      | true =>
        rw [if_pos (by first | exact hb' | (rw [BEq.comm]; exact hb'))] at h
        wp_walk
        rw [hc]
        exact ⟨plainId_quiet MeetsSeq3.plain_eq_loop _, codeAny_builtin MeetsSeq3.entry_eq_loop (by
          rw [Around.under_plainId MeetsSeq3.plain_eq_loop _]
          exact ih (i + 1) (by omega) (by omega) (by omega) prog w A R _ ⟨hl, hb, h⟩)⟩
      | false =>
        rw [if_neg (by first | (rw [hb']; decide) | (rw [BEq.comm, hb']; decide))] at h
        obtain ⟨t1, e1⟩ := h1.2 i hlt
        obtain ⟨t2, e2⟩ := h2.2 i hlt2
        wp_walk using PySem.AutoSeq1.wpAny_loadPart' hl, PySem.AutoSeq1.wpAny_loadPart' hb
        rw [hi1, hi2, e1, e2]
        dsimp only
        refine wpAny_bind (richCompare_gives (op := .Gt) (typeIs_int _ _ t1) (typeIs_int _ _ t2) F.slot_int_gt F.entry_int_gt (F.args_int_gt_2 _ _) (gives_int_gt _ _ t1 t2) (fun x => nomatch x) ?_)
        exact wpAny_pure h
    · exact fin i hi hi1 hi2

theorem list_gt (l b : Addr) (items items2 : Array Value) (n n2 : Nat) (dd dd2 : Option Addr) (sl sl2 : Array (Option Value)) (ns ms : List Int) (h1 : Its items ns) (h2 : Its items2 ms) :
    Meets (Builtin.«list.__gt__» ⟨[.ref l, .ref b], []⟩)
      (fun A R s => s.heap.get? l = some { cls := .type "list", dict := dd, data := .seq items n, slots := sl } ∧ s.heap.get? b = some { cls := .type "list", dict := dd2, data := .seq items2 n2, slots := sl2 } ∧
        R (.ok (.ret (.bool (decide (ms < ns))))) s) := by
  intro prog w A R s h
  obtain ⟨hp, g, d, tk, os⟩ := s; obtain ⟨hl, hb, h⟩ := h
  have f3 := PySem.AutoSeq1.sub_list_list
  wp_walk using PySem.AutoSeq1.wpAny_loadPart' hl, PySem.AutoSeq1.wpAny_loadPart' hb
  exact ⟨plainId_quiet MeetsSeq3.plain_eq_loop _, codeAny_builtin MeetsSeq3.entry_eq_loop (by
    rw [Around.under_plainId MeetsSeq3.plain_eq_loop _]
    exact gt_loop l b items items2 n n2 dd dd2 sl sl2 ns ms h1 h2 _ 0 (Nat.le_refl _) (Nat.zero_le _) (Nat.zero_le _) prog w A R _ ⟨hl, hb, by simpa using h⟩)⟩

theorem Op.lgt {prog : Program} {w : World} {A : Around} (ns ms : List Int) (hu : A.units < cLine) : Op2 (model prog w) A (compareOp .Gt) (.k (Lo (ns.map D.i))) (.k (Lo (ms.map D.i))) (.b (decide (ms < ns))) := by
  rintro s _ _ Q E ⟨l, o, rfl, ho, hL⟩ ⟨m, o', rfl, ho', hM⟩ q
  obtain ⟨i1, hl, g1, e1⟩ := hL.is ho
  obtain ⟨i2, hm, g2, e2⟩ := hM.is ho'
  obtain ⟨⟨cls, dd, data, sl⟩, ho, hc, n, hd⟩ := id hl
  obtain ⟨⟨cls2, dd2, data2, sl2⟩, ho2, hc2, n2, hd2⟩ := id hm
  simp only at hc hd hc2 hd2
  subst hc hd hc2 hd2
  refine id (richCompare_meets_room (op := .Gt) ⟨_, ho, rfl⟩ ⟨_, ho2, rfl⟩ F.slot_list_gt F.entry_list_gt (F.args_list_gt_2 _ _) (list_gt l m i1 i2 n n2 dd dd2 sl sl2 ns ms g1.its g2.its)
    ⟨ho, ho2, show Value.bool _ ≠ Value.notImplemented ∧ _ from ⟨(fun x => nomatch x), q _ _ rfl (Nx.refl s)⟩⟩ hu)
end Mine

open PySem PySem.W PyProof.Rows
namespace Mine
set_option Elab.async false
set_option linter.unusedVariables false

/- a letter's cost -/
noncomputable def cost (x y : Nat) : Int := if x = y then 0 else if lowL [x] = lowL [y] then 1 else 2
noncomputable def pmin (m n : Int) : Int := if n < m then n else m
noncomputable def big : Int := 9223372036854775807

noncomputable def preLen : List Nat → List Nat → Nat
  | x :: a, y :: b => if x = y then preLen a b + 1 else 0
  | _, _ => 0

theorem preLen_le_left : ∀ a b : List Nat, preLen a b ≤ a.length
  | [], _ => by simp [preLen]
  | _ :: _, [] => by simp [preLen]
  | x :: a, y :: b => by
    unfold preLen
    split
    · have := preLen_le_left a b; simp; omega
    · simp
theorem preLen_le_right : ∀ a b : List Nat, preLen a b ≤ b.length
  | [], _ => by simp [preLen]
  | _ :: _, [] => by simp [preLen]
  | x :: a, y :: b => by
    unfold preLen
    split
    · have := preLen_le_right a b; simp; omega
    · simp

theorem preLen_test : ∀ (a b : List Nat) (k : Nat), k ≤ preLen a b → ((!(a.drop k).isEmpty) && (!(b.drop k).isEmpty) && ([a.getD k 0] == [b.getD k 0])) = decide (k < preLen a b)
  | [], b, k, h => by
    have : k = 0 := by simp [preLen] at h; exact h
    subst this; simp [preLen]
  | x :: a, [], k, h => by
    have : k = 0 := by simp [preLen] at h; exact h
    subst this; simp [preLen]
  | x :: a, y :: b, 0, h => by
    unfold preLen
    by_cases hxy : x = y
    · subst hxy; simp
    · simp [hxy]
  | x :: a, y :: b, k + 1, h => by
    unfold preLen at h ⊢
    by_cases hxy : x = y
    · rw [if_pos hxy] at h ⊢
      have := preLen_test a b k (by omega)
      simp only [List.drop_succ_cons, List.getD_cons_succ]
      rw [this]
      simp
    · rw [if_neg hxy] at h; omega

structure SS where
  d : Int
  res : Int
  mn : Int
  row : List Int

noncomputable def stepS (c : Nat) (a : List Nat) (S : SS) (j : Nat) : SS :=
  ⟨S.row.getD j 0, pmin (pmin S.res (S.row.getD j 0) + 2) (S.d + cost c (a.getD j 0)),
    if pmin (pmin S.res (S.row.getD j 0) + 2) (S.d + cost c (a.getD j 0)) < S.mn then pmin (pmin S.res (S.row.getD j 0) + 2) (S.d + cost c (a.getD j 0)) else S.mn,
    S.row.set j (pmin (pmin S.res (S.row.getD j 0) + 2) (S.d + cost c (a.getD j 0)))⟩
noncomputable def inner (c : Nat) (a : List Nat) (S : SS) : Nat → SS
  | 0 => S
  | j + 1 => stepS c a (inner c a S j) j
noncomputable def row0 (n : Nat) : List Int := (List.range n).map fun (i : Nat) => 2 + (i : Int) * 2
noncomputable def start (i : Nat) (row : List Int) : SS := ⟨(i : Int) * 2, (i : Int) * 2, big, row⟩
noncomputable def outer (a b : List Nat) : Nat → List Int × Int
  | 0 => (row0 a.length, 0)
  | i + 1 => ((inner (b.getD i 0) a (start i (outer a b i).1) a.length).row, (inner (b.getD i 0) a (start i (outer a b i).1) a.length).res)
noncomputable def mins (a b : List Nat) (i : Nat) : Int := (inner (b.getD i 0) a (start i (outer a b i).1) a.length).mn
/- the rows, for a no longer than b -/
noncomputable def rows (a b : List Nat) (m : Int) : Int :=
  if ((b.length : Int) - a.length) * 2 > m then m + 1
  else if (List.range b.length).any fun i => decide (mins a b i > m) then m + 1 else (outer a b b.length).2
/- a and b without what they end on alike -/
noncomputable def sufLen (a b : List Nat) : Nat := preLen a.reverse b.reverse
/- what stands behind the trimming -/
noncomputable def lev2 (a b : List Nat) (m : Int) : Int :=
  if a = [] ∨ b = [] then 2 * ((a.length : Int) + b.length)
  else if b.length < a.length then rows b a m else rows a b m
noncomputable def lev1 (a b : List Nat) (m : Int) : Int := lev2 (a.take (a.length - sufLen a b)) (b.take (b.length - sufLen a b)) m
noncomputable def lev (a b : List Nat) (m : Int) : Int := if a = b then 0 else lev1 (a.drop (preLen a b)) (b.drop (preLen a b)) m

theorem stepS_row_length (c : Nat) (a : List Nat) (S : SS) (j : Nat) : (stepS c a S j).row.length = S.row.length := by simp [stepS]
theorem inner_row_length (c : Nat) (a : List Nat) (S : SS) : ∀ j, (inner c a S j).row.length = S.row.length
  | 0 => rfl
  | j + 1 => by rw [inner, stepS_row_length, inner_row_length c a S j]
theorem outer_row_length (a b : List Nat) : ∀ i, (outer a b i).1.length = a.length
  | 0 => by simp [outer, row0]
  | i + 1 => by
    show (inner _ a _ a.length).row.length = _
    rw [inner_row_length]
    exact outer_row_length a b i

theorem drop_reverse_isEmpty (a : List Nat) (k : Nat) : (a.reverse.drop k).isEmpty = (a.take (a.length - k)).isEmpty := by
  rw [Bool.eq_iff_iff]
  simp only [List.isEmpty_iff, List.drop_eq_nil_iff, List.length_reverse, List.take_eq_nil_iff]
  constructor
  · intro h; left; omega
  · rintro (h | h)
    · omega
    · subst h; simp

theorem sufLen_test (a b : List Nat) (k : Nat) (h : k ≤ sufLen a b) :
    ((!(a.take (a.length - k)).isEmpty) && (!(b.take (b.length - k)).isEmpty) && ([a.reverse.getD k 0] == [b.reverse.getD k 0])) = decide (k < sufLen a b) := by
  have := preLen_test a.reverse b.reverse k h
  rw [drop_reverse_isEmpty, drop_reverse_isEmpty] at this
  exact this

theorem cut_from {α : Type} (l : List α) (k : Nat) : cut (some (k : Int)) none l = l.drop k := by
  unfold cut
  simp only [Option.elim, clipAt_nat]
  rcases Nat.le_total k l.length with h | h
  · rw [Nat.min_eq_left h, List.take_of_length_le (by simp)]
  · rw [Nat.min_eq_right h, List.drop_of_length_le h]; simp
theorem cut_to {α : Type} (l : List α) (k : Nat) : cut none (if k = 0 then none else some (-(k : Int))) l = l.take (l.length - k) := by
  unfold cut
  by_cases h : k = 0
  · subst h; simp
  · rw [if_neg h]
    simp only [Option.elim, clipAt_neg _ _ (by omega : 1 ≤ k), List.drop_zero, Nat.sub_zero]
theorem cut_upto {α : Type} (l : List α) (k : Nat) : cut none (some (k : Int)) l = l.take k := by
  unfold cut
  simp only [Option.elim, clipAt_nat, List.drop_zero, Nat.sub_zero]
  rcases Nat.le_total k l.length with h | h
  · rw [Nat.min_eq_left h]
  · rw [Nat.min_eq_right h, List.take_of_length_le (Nat.le_refl _), List.take_of_length_le h]

theorem sign_front (l : List Nat) (k : Nat) (h : k < l.length) : (seqIndex? (k : Int) l.length).bind (l[·]?) = some (l.getD k 0) := by
  unfold seqIndex?
  have h1 : ¬ ((k : Int) < 0) := by omega
  simp only [h1, if_false]
  rw [if_pos (by simp only [Bool.and_eq_true, decide_eq_true_eq]; omega)]
  simp [List.getElem?_eq_getElem h]
theorem sign_back (l : List Nat) (k : Nat) (h : k < l.length) : (seqIndex? (-(k : Int) - 1) l.length).bind (l[·]?) = some (l.reverse.getD k 0) := by
  rw [seqIndex_neg (by omega) (by omega)]
  have e : (-(k : Int) - 1 + l.length).toNat = l.length - 1 - k := by omega
  rw [e]
  have hlt : l.length - 1 - k < l.length := by omega
  rw [Option.bind_some, List.getElem?_eq_getElem hlt, List.getD_eq_getElem?_getD, List.getElem?_reverse h, List.getElem?_eq_getElem hlt]
  rfl
end Mine

open PySem PySem.W PyProof.Rows
namespace Mine
set_option Elab.async false
set_option maxRecDepth 100000

theorem upL_eq (l : List Nat) : upL l = (l.map Unicode.upperOf).flatten := by
  unfold upL Txt.upper placed
  show ((l.toArray.mapIdx fun i c => (Unicode.upperOf c).toArray).flatten).toList = _
  rw [Array.toList_flatten, Array.toList_mapIdx]
  have : ∀ l : List Nat, (List.mapIdx (fun i c => (Unicode.upperOf c).toArray) l).map Array.toList = l.map Unicode.upperOf := by
    intro l
    apply List.ext_getElem?
    intro i
    rw [List.getElem?_map, List.getElem?_mapIdx, List.getElem?_map]
    cases l[i]? <;> rfl
  rw [show l.toArray.toList = l from rfl, this]

theorem up_letter : ∀ c, 97 ≤ c → c ≤ 122 → Unicode.upperOf c = [c - 32] := by
  have : ∀ k, k < 26 → Unicode.upperOf (97 + k) = [97 + k - 32] := by decide +kernel
  intro c h1 h2
  have := this (c - 97) (by omega)
  rw [show 97 + (c - 97) = c by omega] at this
  exact this

theorem up_az : ∀ l : List Nat, (∀ x ∈ l, 97 ≤ x ∧ x ≤ 122) → upL l = l.map fun x => x - 32 := by
  intro l h
  rw [upL_eq]
  induction l with
  | nil => rfl
  | cons x l ih =>
    rw [List.map_cons, List.flatten_cons, up_letter x (h x List.mem_cons_self).1 (h x List.mem_cons_self).2, ih fun y hy => h y (List.mem_cons_of_mem _ hy)]
    rfl

theorem low_small : ∀ c, 97 ≤ c → c ≤ 122 → lowL [c] = [c] := by
  have : ∀ k, k < 26 → lowL [97 + k] = [97 + k] := by decide +kernel
  intro c h1 h2
  have := this (c - 97) (by omega)
  rw [show 97 + (c - 97) = c by omega] at this
  exact this
theorem low_great : ∀ c, 65 ≤ c → c ≤ 90 → lowL [c] = [c + 32] := by
  have : ∀ k, k < 26 → lowL [65 + k] = [65 + k + 32] := by decide +kernel
  intro c h1 h2
  have := this (c - 65) (by omega)
  rw [show 65 + (c - 65) = c by omega] at this
  exact this
end Mine

open PySem PySem.W PyProof.Rows
namespace Mine
set_option Elab.async false
set_option linter.unusedVariables false

/- the table of distances by costs alone -/
noncomputable def nextR (κ : Nat → Int) (p : Nat → Int) (z : Int) : Nat → Int
  | 0 => z
  | j + 1 => pmin (pmin (nextR κ p z j) (p (j + 1)) + 2) (p j + κ j)
noncomputable def Dk (κ : Nat → Nat → Int) : Nat → Nat → Int
  | 0 => fun j => 2 * (j : Int)
  | i + 1 => nextR (κ i) (Dk κ i) (2 * ((i : Int) + 1))

theorem Dk_00 (κ : Nat → Nat → Int) (j : Nat) : Dk κ 0 j = 2 * (j : Int) := rfl
theorem Dk_0 (κ : Nat → Nat → Int) : ∀ i : Nat, Dk κ i 0 = 2 * (i : Int)
  | 0 => rfl
  | i + 1 => by show 2 * ((i : Int) + 1) = _; omega
theorem Dk_ss (κ : Nat → Nat → Int) (i j : Nat) : Dk κ (i + 1) (j + 1) = pmin (pmin (Dk κ (i + 1) j) (Dk κ i (j + 1)) + 2) (Dk κ i j + κ i j) := rfl

theorem pmin_le_left (m n : Int) : pmin m n ≤ m := by unfold pmin; split <;> omega
theorem pmin_le_right (m n : Int) : pmin m n ≤ n := by unfold pmin; split <;> omega
theorem le_pmin {k m n : Int} (h1 : k ≤ m) (h2 : k ≤ n) : k ≤ pmin m n := by unfold pmin; split <;> omega
theorem pmin_cases (m n : Int) : pmin m n = m ∨ pmin m n = n := by unfold pmin; split <;> simp

theorem Dk_right (κ : Nat → Nat → Int) (i j : Nat) : Dk κ i (j + 1) ≤ Dk κ i j + 2 := by
  cases i with
  | zero => rw [Dk_00, Dk_00]; omega
  | succ i =>
    rw [Dk_ss]
    have h1 := pmin_le_left (pmin (Dk κ (i + 1) j) (Dk κ i (j + 1)) + 2) (Dk κ i j + κ i j)
    have h2 := pmin_le_left (Dk κ (i + 1) j) (Dk κ i (j + 1))
    omega
theorem Dk_down (κ : Nat → Nat → Int) (i j : Nat) : Dk κ (i + 1) j ≤ Dk κ i j + 2 := by
  cases j with
  | zero => rw [Dk_0, Dk_0]; omega
  | succ j =>
    rw [Dk_ss]
    have h1 := pmin_le_left (pmin (Dk κ (i + 1) j) (Dk κ i (j + 1)) + 2) (Dk κ i j + κ i j)
    have h2 := pmin_le_right (Dk κ (i + 1) j) (Dk κ i (j + 1))
    omega
theorem Dk_diag (κ : Nat → Nat → Int) (i j : Nat) : Dk κ (i + 1) (j + 1) ≤ Dk κ i j + κ i j := by rw [Dk_ss]; exact pmin_le_right _ _
/- no path is cheaper than its shifts and its matches -/
theorem Dk_low (κ : Nat → Nat → Int) (e : Int) (he : e = 0 ∨ e = 1) (N n : Nat) (hκ : ∀ i j, i < N → j < n → e ≤ κ i j) : ∀ i j : Nat, i ≤ N → j ≤ n → (2 * ((i : Int) - j) + e * j ≤ Dk κ i j) ∧ (2 * ((j : Int) - i) + e * i ≤ Dk κ i j) := by
  intro i
  induction i with
  | zero =>
    intro j _ _
    rw [Dk_00]
    rcases he with rfl | rfl <;> omega
  | succ i ih =>
    intro j
    induction j with
    | zero =>
      intro _ _
      rw [Dk_0]
      rcases he with rfl | rfl <;> omega
    | succ j ihj =>
      intro hi hj
      have a1 := ihj hi (by omega)
      have a2 := ih (j + 1) (by omega) hj
      have a3 := ih j (by omega) (by omega)
      have a4 := hκ i j (by omega) (by omega)
      rw [Dk_ss]
      refine ⟨le_pmin ?_ ?_, le_pmin ?_ ?_⟩
      · have : 2 * (((i + 1 : Nat) : Int) - ((j + 1 : Nat) : Int)) + e * ((j + 1 : Nat) : Int) - 2 ≤ pmin (Dk κ (i + 1) j) (Dk κ i (j + 1)) := by
          refine le_pmin ?_ ?_ <;> (rcases he with rfl | rfl <;> omega)
        omega
      · rcases he with rfl | rfl <;> omega
      · have : 2 * (((j + 1 : Nat) : Int) - ((i + 1 : Nat) : Int)) + e * ((i + 1 : Nat) : Int) - 2 ≤ pmin (Dk κ (i + 1) j) (Dk κ i (j + 1)) := by
          refine le_pmin ?_ ?_ <;> (rcases he with rfl | rfl <;> omega)
        omega
      · rcases he with rfl | rfl <;> omega

/- how many of the first i places tell -/
noncomputable def cnt (p : Nat → Bool) : Nat → Nat
  | 0 => 0
  | i + 1 => cnt p i + if p i then 1 else 0

/- the cheapest path leaves no row out -/
theorem Dk_rows (κ : Nat → Nat → Int) (N n : Nat) (hn : 0 < n) (h0 : ∀ i j, i < N → j < n → 0 ≤ κ i j) (h2 : ∀ i, i < N → κ i 0 ≤ 2) (i : Nat) (hi : i < N) : ∀ i' j', i + 1 ≤ i' → i' ≤ N → j' ≤ n → ∃ k, k < n ∧ Dk κ (i + 1) (k + 1) ≤ Dk κ i' j' := by
  have first : Dk κ (i + 1) 1 ≤ 2 * ((i : Int) + 1) := by
    have := Dk_diag κ i 0
    rw [Dk_0] at this
    have := h2 i hi
    show Dk κ (i + 1) (0 + 1) ≤ _
    omega
  intro i'
  induction i' with
  | zero => intro j' h; omega
  | succ i' ih =>
    intro j'
    induction j' with
    | zero =>
      intro h1 h3 _
      refine ⟨0, hn, ?_⟩
      rw [Dk_0]
      have : Dk κ (i + 1) (0 + 1) ≤ 2 * ((i : Int) + 1) := first
      omega
    | succ j' ihj =>
      intro h1 h3 h4
      rcases Nat.lt_or_ge (i + 1) (i' + 1) with hlt | hge
      · obtain ⟨k1, q1, w1⟩ := ihj h1 h3 (by omega)
        obtain ⟨k2, q2, w2⟩ := ih (j' + 1) (by omega) (by omega) h4
        obtain ⟨k3, q3, w3⟩ := ih j' (by omega) (by omega) (by omega)
        have := h0 i' j' (by omega) (by omega)
        rw [Dk_ss κ i' j']
        rcases pmin_cases (pmin (Dk κ (i' + 1) j') (Dk κ i' (j' + 1)) + 2) (Dk κ i' j' + κ i' j') with h | h
        · rw [h]
          rcases pmin_cases (Dk κ (i' + 1) j') (Dk κ i' (j' + 1)) with h' | h'
          · rw [h']; exact ⟨k1, q1, by omega⟩
          · rw [h']; exact ⟨k2, q2, by omega⟩
        · rw [h]; exact ⟨k3, q3, by omega⟩
      · have : i' = i := by omega
        subst this
        exact ⟨j', by omega, Int.le_refl _⟩
end Mine

open PySem PySem.W PyProof.Rows
namespace Mine
set_option Elab.async false
set_option linter.unusedVariables false

theorem cost_0 (x y : Nat) : 0 ≤ cost x y := by
  unfold cost
  split
  · decide
  · split <;> decide
theorem cost_2 (x y : Nat) : cost x y ≤ 2 := by
  unfold cost
  split
  · decide
  · split <;> decide
theorem quirk (x q c : Int) (h : c ≤ 2) : pmin (pmin x q + 2) (x + c) = pmin (pmin (x + 2) q + 2) (x + c) := by
  have h1 := pmin_cases x q
  have h2 := pmin_cases (x + 2) q
  have h3 := pmin_le_left x q
  have h4 := pmin_le_right x q
  have h5 := pmin_le_left (x + 2) q
  have h6 := pmin_le_right (x + 2) q
  generalize pmin x q = p at *
  generalize pmin (x + 2) q = r at *
  unfold pmin
  split <;> split <;> omega
theorem cost_self (x : Nat) : cost x x = 0 := by unfold cost; rw [if_pos rfl]

noncomputable def kap (a b : List Nat) : Nat → Nat → Int := fun i j => cost (b.getD i 0) (a.getD j 0)

structure InSpec (κ : Nat → Nat → Int) (n i k : Nat) (S : SS) : Prop where
  d : S.d = Dk κ i k
  res : S.res = if k = 0 then 2 * (i : Int) else Dk κ (i + 1) k
  row : ∀ j, j < n → S.row.getD j 0 = if j < k then Dk κ (i + 1) (j + 1) else Dk κ i (j + 1)
  len : S.row.length = n
  mn1 : ∀ j, j < k → S.mn ≤ Dk κ (i + 1) (j + 1)
  mn2 : ∀ m, m < big → (∀ j, j < k → m < Dk κ (i + 1) (j + 1)) → m < S.mn

theorem set_getD (l : List Int) (j k : Nat) (v : Int) (h : j < l.length) : (l.set j v).getD k 0 = if k = j then v else l.getD k 0 := by
  rw [List.getD_eq_getElem?_getD, List.getD_eq_getElem?_getD, List.getElem?_set]
  by_cases e : j = k
  · subst e
    rw [if_pos rfl, if_pos rfl, if_pos h]; rfl
  · rw [if_neg e, if_neg (fun h => e h.symm)]

theorem inner_spec (a b : List Nat) (i : Nat) (row : List Int) (hl : row.length = a.length) (hr : ∀ j, j < a.length → row.getD j 0 = Dk (kap a b) i (j + 1)) : ∀ k, k ≤ a.length → InSpec (kap a b) a.length i k (inner (b.getD i 0) a (start i row) k) := by
  intro k
  induction k with
  | zero =>
    intro _
    refine ⟨?_, ?_, fun j hj => ?_, hl, fun j hj => absurd hj (Nat.not_lt_zero _), fun m hm _ => hm⟩
    · rw [Dk_0]; show (i : Int) * 2 = _; omega
    · show (i : Int) * 2 = _; rw [if_pos rfl]; omega
    · rw [if_neg (Nat.not_lt_zero _)]; exact hr j hj
  | succ k ih =>
    intro hk
    have I := ih (by omega)
    show InSpec _ _ _ _ (stepS (b.getD i 0) a (inner (b.getD i 0) a (start i row) k) k)
    generalize inner (b.getD i 0) a (start i row) k = S at I
    have hrow : S.row.getD k 0 = Dk (kap a b) i (k + 1) := by rw [I.row k (by omega), if_neg (Nat.lt_irrefl _)]
    have hc2 := cost_2 (b.getD i 0) (a.getD k 0)
    have hnew : pmin (pmin S.res (S.row.getD k 0) + 2) (S.d + cost (b.getD i 0) (a.getD k 0)) = Dk (kap a b) (i + 1) (k + 1) := by
      rw [Dk_ss, hrow, I.d, I.res]
      show _ = pmin (pmin (Dk (kap a b) (i + 1) k) (Dk (kap a b) i (k + 1)) + 2) (Dk (kap a b) i k + cost (b.getD i 0) (a.getD k 0))
      by_cases h0 : k = 0
      · subst h0
        rw [if_pos rfl, Dk_0, Dk_0]
        have := quirk (2 * (i : Int)) (Dk (kap a b) i (0 + 1)) (cost (b.getD i 0) (a.getD 0 0)) hc2
        rw [show 2 * (i : Int) + 2 = 2 * ((i + 1 : Nat) : Int) by omega] at this
        exact this
      · rw [if_neg h0]
    unfold stepS
    rw [hnew]
    refine ⟨hrow, by rw [if_neg (Nat.succ_ne_zero k)], fun j hj => ?_, by simp [I.len], fun j hj => ?_, fun m hm hall => ?_⟩
    · show (S.row.set k _).getD j 0 = _
      rw [set_getD _ _ _ _ (by rw [I.len]; omega)]
      by_cases e : j = k
      · subst e; rw [if_pos rfl, if_pos (Nat.lt_succ_self _)]
      · rw [if_neg e, I.row j hj]
        by_cases h : j < k
        · rw [if_pos h, if_pos (by omega)]
        · rw [if_neg h, if_neg (by omega)]
    · show (if _ < S.mn then _ else S.mn) ≤ _
      rcases Nat.lt_or_eq_of_le (Nat.le_of_lt_succ hj) with h | h
      · have := I.mn1 j h
        split <;> omega
      · subst h
        split <;> omega
    · show m < if _ < S.mn then _ else S.mn
      have h1 := hall k (Nat.lt_succ_self _)
      have h2 := I.mn2 m hm fun j hj => hall j (by omega)
      split <;> omega

theorem outer_spec (a b : List Nat) (ha : 0 < a.length) : ∀ i, (∀ j, j < a.length → (outer a b i).1.getD j 0 = Dk (kap a b) i (j + 1)) ∧ (0 < i → (outer a b i).2 = Dk (kap a b) i a.length)
  | 0 => by
    refine ⟨fun j hj => ?_, fun h => absurd h (Nat.lt_irrefl _)⟩
    show (row0 a.length).getD j 0 = _
    unfold row0
    rw [List.getD_eq_getElem?_getD, List.getElem?_map, List.getElem?_range hj, Dk_00]
    show 2 + (j : Int) * 2 = _
    omega
  | i + 1 => by
    have ih := outer_spec a b ha i
    have S := inner_spec a b i (outer a b i).1 (outer_row_length a b i) ih.1 a.length (Nat.le_refl _)
    refine ⟨fun j hj => ?_, fun _ => ?_⟩
    · show (inner _ a _ a.length).row.getD j 0 = _
      rw [S.row j hj, if_pos hj]
    · show (inner _ a _ a.length).res = _
      rw [S.res, if_neg (by omega)]

theorem mins_spec (a b : List Nat) (ha : 0 < a.length) (i : Nat) : (∀ j, j < a.length → mins a b i ≤ Dk (kap a b) (i + 1) (j + 1)) ∧ (∀ m, m < big → (∀ j, j < a.length → m < Dk (kap a b) (i + 1) (j + 1)) → m < mins a b i) := by
  have S := inner_spec a b i (outer a b i).1 (outer_row_length a b i) (outer_spec a b ha i).1 a.length (Nat.le_refl _)
  exact ⟨S.mn1, S.mn2⟩

/- the distance of two words -/
noncomputable def dist (a b : List Nat) : Int := Dk (kap a b) b.length a.length

theorem rows_or (a b : List Nat) (m : Int) (ha : 0 < a.length) (hb : 0 < b.length) : rows a b m = m + 1 ∨ rows a b m = dist a b := by
  unfold rows
  split
  · exact .inl rfl
  · split
    · exact .inl rfl
    · exact .inr ((outer_spec a b ha b.length).2 hb)

theorem rows_eq (a b : List Nat) (m : Int) (ha : 0 < a.length) (hb : 0 < b.length) (h : dist a b ≤ m) : rows a b m = dist a b := by
  unfold rows
  have h0 : ∀ i j, i < b.length → j < a.length → 0 ≤ kap a b i j := fun i j _ _ => cost_0 _ _
  have low := (Dk_low (kap a b) 0 (.inl rfl) b.length a.length h0 b.length a.length (Nat.le_refl _) (Nat.le_refl _)).1
  unfold dist at h
  rw [if_neg (by omega), if_neg]
  · exact (outer_spec a b ha b.length).2 hb
  · rw [List.any_eq_true]
    rintro ⟨i, hi, hm⟩
    have hi := List.mem_range.mp hi
    have hm := of_decide_eq_true hm
    obtain ⟨k, hk, hle⟩ := Dk_rows (kap a b) b.length a.length ha h0 (fun i _ => cost_2 _ _) i hi b.length a.length (by omega) (Nat.le_refl _) (Nat.le_refl _)
    have := (mins_spec a b ha i).1 k hk
    omega

end Mine

open PySem PySem.W PyProof.Rows
namespace Mine
set_option Elab.async false
set_option linter.unusedVariables false

noncomputable def Az (l : List Nat) : Prop := ∀ x ∈ l, 97 ≤ x ∧ x ≤ 122
theorem cost_az {x y : Nat} (hx : 97 ≤ x ∧ x ≤ 122) (hy : 97 ≤ y ∧ y ≤ 122) : cost x y = if x = y then 0 else 2 := by
  unfold cost
  by_cases h : x = y
  · rw [if_pos h, if_pos h]
  · rw [if_neg h, if_neg h, low_small x hx.1 hx.2, low_small y hy.1 hy.2, if_neg]
    intro e; exact h (by injection e)
theorem cost_up {x y : Nat} (hx : 97 ≤ x ∧ x ≤ 122) (hy : 97 ≤ y ∧ y ≤ 122) : cost (x - 32) y = (if x = y then 1 else 2) ∧ cost y (x - 32) = (if x = y then 1 else 2) := by
  have h1 := low_great (x - 32) (by omega) (by omega)
  rw [show x - 32 + 32 = x by omega] at h1
  have h2 := low_small y hy.1 hy.2
  have n1 : x - 32 ≠ y := by omega
  have n2 : y ≠ x - 32 := by omega
  unfold cost
  rw [if_neg n1, if_neg n2, h1, h2]
  by_cases h : x = y
  · subst h; rw [if_pos rfl, if_pos rfl]; exact ⟨rfl, rfl⟩
  · have m1 : ¬ [x] = [y] := fun e => h (List.cons.inj e).1
    have m2 : ¬ [y] = [x] := fun e => h (List.cons.inj e).1.symm
    rw [if_neg m1, if_neg m2, if_neg h]; exact ⟨rfl, rfl⟩

/- how many places differ -/
noncomputable def hamL : List Nat → List Nat → Nat
  | x :: a, y :: b => (if x = y then 0 else 1) + hamL a b
  | _, _ => 0
theorem hamL_self : ∀ a, hamL a a = 0
  | [] => rfl
  | x :: a => by unfold hamL; rw [if_pos rfl, hamL_self a]
theorem hamL_comm : ∀ a b, hamL a b = hamL b a
  | [], [] => rfl
  | [], _ :: _ => rfl
  | _ :: _, [] => rfl
  | x :: a, y :: b => by
    unfold hamL
    rw [hamL_comm a b]
    by_cases h : x = y
    · rw [if_pos h, if_pos h.symm]
    · rw [if_neg h, if_neg (fun e => h e.symm)]
theorem take_succ_getD (a : List Nat) (i : Nat) (h : i < a.length) : a.take (i + 1) = a.take i ++ [a.getD i 0] := by
  rw [List.take_succ, List.getElem?_eq_getElem h, List.getD_eq_getElem?_getD, List.getElem?_eq_getElem h]; rfl
/-! trimming -/
theorem pre_take : ∀ a b : List Nat, a.take (preLen a b) = b.take (preLen a b)
  | [], _ => by simp [preLen]
  | _ :: _, [] => by simp [preLen]
  | x :: a, y :: b => by
    unfold preLen
    split
    · rename_i h; rw [List.take_succ_cons, List.take_succ_cons, pre_take a b, h]
    · rfl
/- what stands behind the trimming of two words of one length -/
structure Core (X Y cx cy : List Nat) : Prop where
  parts : ∃ P S, X = P ++ cx ++ S ∧ Y = P ++ cy ++ S
  len : cx.length = cy.length
  pos : 0 < cx.length
  head : cy.getD 0 0 ≠ cx.getD 0 0
  lev : ∀ m, lev X Y m = rows cx cy m

end Mine

open PySem PySem.W PyProof.Rows
namespace Mine
set_option Elab.async false
set_option maxRecDepth 100000
set_option linter.unusedVariables false

/- the globals stand -/
noncomputable def GH (w : World) (mg mb : Str → Option Value) (N : Nat) : HP := ⟨fun s => G w mg mb N s.heap, fun _ _ n g => g.keeps n.up⟩

theorem made {w : World} {mg mb : Str → Option Value} {N : Nat} {d : DefItem} (hd : d ∈ theDefs) (hnd : d.params.defaults = []) {h : Heap} (g : G w mg mb N h) :
    ∃ a, mg d.name = some (.ref a) ∧ h.NoLimit ∧ ∃ o pm c' doc, h.get? a = some o ∧ o.data = .func (Calls.docDef d.name d.params d.body d.scope pm (.ref c') doc) ∧ h.CodeRec (.ref c') d.name := by
  obtain ⟨f, c', o, pm, doc, _, _, h3, h4, h5, h6⟩ := (g.made d hd).plain hnd
  exact ⟨f, h3, g.nolimit, o, pm, c', doc, h4, h5, h6⟩

theorem made_at {w : World} {mg mb : Str → Option Value} {N : Nat} {d : DefItem} (hd : d ∈ theDefs) (hnd : d.params.defaults = []) {a : Addr} (ha : mg d.name = some (.ref a)) (s : Shared) (g : G w mg mb N s.heap) :
    s.heap.NoLimit ∧ ∃ o pm c' doc, s.heap.get? a = some o ∧ o.data = .func (Calls.docDef d.name d.params d.body d.scope pm (.ref c') doc) ∧ s.heap.CodeRec (.ref c') d.name := by
  obtain ⟨f, h1, h2⟩ := made hd hnd g
  rw [ha] at h1
  cases h1
  exact h2

theorem FH.glob {w : World} {mg mb : Str → Option Value} {N : Nat} {s₀ : Shared} {env : Env} {vs : Vars} {os : Objs} (g : G w mg mb N s₀.heap) : ∀ s, (FH s₀ env vs os).P s → G w mg mb N s.heap := fun s (F : Fm s₀ env vs os s) => g.keeps F.nx.up

theorem sub_cost {w : World} {mg mb : Str → Option Value} {N : Nat} {A : Around} {a : Addr} (ha : mg "_substitution_cost" = some (.ref a)) (hroom : A.depth < recursionLimit) (x y : Nat) :
    Cr (model PW w) A (GH w mg mb N) (.ref a) [.s [x], .s [y]] (.i (cost x y)) := by
  have hmem : dSub ∈ theDefs := by unfold theDefs; simp
  refine Cr.plain (d := dSub) ["ch_a", "ch_b"] [] (made_at hmem dSub_ok.nd (by rw [dSub_name]; exact ha)) hroom rfl (by decide +kernel) ?_ (by decide +kernel) (by kernel_rfl) (by kernel_rfl) (by kernel_rfl) (by decide +kernel) ?_
  · intro vs hvs pm c doc
    obtain ⟨u, v, rfl⟩ := len_2 hvs
    kernel_rfl
  · intro s₀ env es hG hL K hsc
    obtain rfl := hL.plain (plain_of rfl)
    have g := FH.glob (env := env) (vs := entry ["ch_a", "ch_b"] [.s [x], .s [y]] []) (os := []) hG
    with_unfolding_all refine Sm.When (b := [x] == [y]) (Tr.cmp (Ev.var (i := 0) K rfl) (Ev.var (i := 1) K rfl) (Op.seq _ _)) (fun h => ?_) (fun h => ?_)
    · refine Sm.Ret (d := .i 0) Ev.int fun v s' g n => ⟨?_, n⟩
      have : x = y := by simpa using h
      unfold cost; rw [if_pos this]; exact g
    have hne : x ≠ y := by simpa using h
    refine Sm.When (b := lowL [x] == lowL [y]) (Tr.cmp (Ev.lower (Ev.var (i := 0) K rfl) (by simp)) (Ev.lower (Ev.var (i := 1) K rfl) (by simp)) (Op.seq _ _)) (fun h => ?_) (fun h => ?_)
    · refine Sm.Ret (d := .i 1) (Ev.gint K g (by unfold theConsts; simp) (kd hsc (by kernel_rfl))) fun v s' g n => ⟨?_, n⟩
      have : lowL [x] = lowL [y] := by simpa using h
      unfold cost; rw [if_neg hne, if_pos this]; exact g
    · refine Sm.Ret (d := .i 2) (Ev.gint K g (by unfold theConsts; simp) (kd hsc (by kernel_rfl))) fun v s' g n => ⟨?_, n⟩
      have : ¬ lowL [x] = lowL [y] := by simpa using h
      unfold cost; rw [if_neg hne, if_neg this]; exact g
end Mine

open PySem PySem.W PyProof.Rows
namespace Mine
set_option Elab.async false
set_option maxRecDepth 100000
set_option linter.unusedVariables false

noncomputable abbrev Has (vs : Vars) (i : Nat) (x : Str) (d : D) : Prop := vs[i]? = some (x, some d)
noncomputable abbrev HasO (os : Objs) (j : Nat) (l : Addr) (T : Obj → Prop) : Prop := os[j]? = some (l, T)
noncomputable def levPs : List Str := ["a", "b", "max_cost"]
noncomputable def levLs : List Str := ["pre", "post", "row", "result", "bindex", "bchar", "distance", "minimum", "index", "substitute", "insert_delete"]
/- the frame's names -/
noncomputable def levV (a b : D) (m pre post row res bi bc dist mn ix sub ins : Option D) : Vars :=
  [("a", some a), ("b", some b), ("max_cost", m), ("pre", pre), ("post", post), ("row", row), ("result", res), ("bindex", bi), ("bchar", bc), ("distance", dist), ("minimum", mn), ("index", ix), ("substitute", sub), ("insert_delete", ins)]

theorem get_map (l : List Int) (j : Nat) (h : j < l.length) : (l.map D.i)[j]? = some (.i (l.getD j 0)) := by
  rw [List.getElem?_map, List.getElem?_eq_getElem h, List.getD_eq_getElem?_getD, List.getElem?_eq_getElem h]; rfl
theorem small_range (n : Nat) (h : n ≤ 2000) : Builtin.Range.small 0 n 1 = true := small_one (by omega) (by omega) (by omega) (by omega)
theorem size_range (n : Nat) : Builtin.Range.rangeSize 0 n 1 = n := by
  rw [rangeSize_one]; split <;> omega

theorem small_two (n : Nat) (h : n ≤ 2000) (hsz : Builtin.Range.rangeSize 2 (2 * ((n : Int) + 1)) 2 = (n : Nat)) : Builtin.Range.small 2 (2 * ((n : Int) + 1)) 2 = true := by
  have ff : ∀ k : Int, 0 ≤ k → k ≤ 100000 → Builtin.Range.rangeFitsLong k = true := fun k h1 h2 => by
    unfold Builtin.Range.rangeFitsLong
    rw [Bool.and_eq_true]
    exact ⟨decide_eq_true (by omega), decide_eq_true (by omega)⟩
  unfold Builtin.Range.small
  rw [hsz, ff 2 (by omega) (by omega), ff (2 * ((n : Int) + 1)) (by omega) (by omega), ff n (by omega) (by omega), ff (2 * ((n : Int) + 1) + (2 - 1)) (by omega) (by omega)]
  simp

theorem lev_rows {w : World} {mg mb : Str → Option Value} {N : Nat} {A : Around} {f : Addr} (hf : mg "_substitution_cost" = some (.ref f)) (hroom : A.depth < recursionLimit) (hh : A.handled = none)
    {s₀ : Shared} {env : Env} (hG : G w mg mb N s₀.heap) (K : Ok env (levPs ++ levLs)) (hsc : env.scope = dLev.scope) (x y : List Nat) (hx : x ≠ []) (hxy : x.length ≤ y.length) (hy : y.length ≤ 40) (m : Int) (pre post : Option D) :
    Sm (model PW w) A env (Fm s₀ env (levV (.s x) (.s y) (some (.i m)) pre post none none none none none none none none none) []) (dLev.body.drop 12) (Post s₀ (.i (rows x y m))) := by
  have g : ∀ {vs os} s, (FH s₀ env vs os).P s → G w mg mb N s.heap := fun {vs os} => FH.glob hG
  have kMove : env.kindOf "_MOVE_COST" = some .globalImplicit := kd hsc (by kernel_rfl)
  have kLen : env.kindOf "len" = some .globalImplicit := kd hsc (by kernel_rfl)
  have kMin : env.kindOf "min" = some .globalImplicit := kd hsc (by kernel_rfl)
  have kRange : env.kindOf "range" = some .globalImplicit := kd hsc (by kernel_rfl)
  have kList : env.kindOf "list" = some .globalImplicit := kd hsc (by kernel_rfl)
  have kSub : env.kindOf "_substitution_cost" = some .globalImplicit := kd hsc (by kernel_rfl)
  have move : ∀ {vs os p}, Ev (model PW w) A env (FH s₀ env vs os) (.Name "_MOVE_COST" p) (.i 2) := fun {vs os p} => Ev.gint K g (by unfold theConsts; simp) kMove
  have bLen : ∀ {vs os p}, Fv (model PW w) A env (FH s₀ env vs os) (.Name "len" p) (.builtin "len") := fun {vs os p} => Fv.builtin K g (by decide +kernel) (hx := kLen)
  have bMin : ∀ {vs os p}, Fv (model PW w) A env (FH s₀ env vs os) (.Name "min" p) (.builtin "min") := fun {vs os p} => Fv.builtin K g (by decide +kernel) (hx := kMin)
  have bRange : ∀ {vs os p}, Fv (model PW w) A env (FH s₀ env vs os) (.Name "range" p) (.type "range") := fun {vs os p} => Fv.builtin K g (by decide +kernel) (hx := kRange)
  have bList : ∀ {vs os p}, Fv (model PW w) A env (FH s₀ env vs os) (.Name "list" p) (.type "list") := fun {vs os p} => Fv.builtin K g (by decide +kernel) (hx := kList)
  have eSub : ∀ {vs os p}, Fv (model PW w) A env (FH s₀ env vs os) (.Name "_substitution_cost" p) (.ref f) := fun {vs os p} => Fv.global K g hf kSub
  have hfn : ∀ {vs os} s, (FH s₀ env vs os).P s → ∃ o fd, s.heap.get? f = some o ∧ o.data = .func fd := fun {vs os} s hs => by
    obtain ⟨_, o, pm, c', doc, h1, h2, _⟩ := made_at (d := dSub) (by unfold theDefs; simp) dSub_ok.nd (by rw [dSub_name]; exact hf) s (g s hs)
    exact ⟨o, _, h1, h2⟩
  have cSub : ∀ {vs os} (c d : Nat), Cr (model PW w) A (FH s₀ env vs os) (.ref f) [.s [c], .s [d]] (.i (cost c d)) := fun {vs os} c d => fun s us Q E hs ga q => sub_cost hf hroom c d s us Q E (g s hs) ga q
  have hx2 : x.length ≤ 2000 := by omega
  have hy2 : y.length ≤ 2000 := by omega
  have la : ∀ {b m pre post row res bi bc dist mn ix sub ins os p1 p2 p3}, Ev (model PW w) A env (FH s₀ env (levV (.s x) b m pre post row res bi bc dist mn ix sub ins) os) (.Call (.Name "len" p1) [.Name "a" p2] [] p3) (.i x.length) := fun {b m pre post row res bi bc dist mn ix sub ins os p1 p2 p3} =>
    Ev.callB bLen (Avs.cons (Ev.var (i := 0) K rfl) Avs.nil) (Cb.len_str _ hx2).cr
  have lb : ∀ {b m pre post row res bi bc dist mn ix sub ins os p1 p2 p3}, Ev (model PW w) A env (FH s₀ env (levV b (.s y) m pre post row res bi bc dist mn ix sub ins) os) (.Call (.Name "len" p1) [.Name "b" p2] [] p3) (.i y.length) := fun {b m pre post row res bi bc dist mn ix sub ins os p1 p2 p3} =>
    Ev.callB bLen (Avs.cons (Ev.var (i := 1) K rfl) Avs.nil) (Cb.len_str _ hy2).cr
  have hlx : 0 < x.length := List.length_pos_iff.mpr hx
  with_unfolding_all refine Sm.When (b := decide (((y.length : Int) - x.length) * 2 > m)) (Tr.cmp (Ev.bin (Ev.bin lb la (Op.sub _ _)) move (Op.mul _ _ (.of_right (by decide +kernel)))) (Ev.var (i := 2) K rfl) (Op.gt _ _)) (fun h => ?_) (fun h => ?_)
  · refine Sm.Ret (Ev.bin (Ev.var (i := 2) K rfl) (Ev.int (n := 1)) (Op.add _ _)) fun v s' g n => ⟨?_, n⟩
    have : ((y.length : Int) - x.length) * 2 > m := of_decide_eq_true h
    unfold rows; rw [if_pos this]; exact g
  have hm : ¬ ((y.length : Int) - x.length) * 2 > m := of_decide_eq_false h
  unfold rows
  rw [if_neg hm]
  have hsz : Builtin.Range.rangeSize 2 (2 * ((x.length : Int) + 1)) 2 = (x.length : Nat) := by
    unfold Builtin.Range.rangeSize
    rw [if_pos (by decide), if_pos (by omega)]
    omega
  have hsm : Builtin.Range.small 2 (2 * ((x.length : Int) + 1)) 2 = true := small_two x.length hx2 hsz
  have hrow : (List.range x.length).map (fun (i : Nat) => D.i (2 + (i : Int) * 2)) = (row0 x.length).map D.i := by
    unfold row0; rw [List.map_map]; rfl
  refine Sm.new (i := 5) (T := Ls ((row0 x.length).map D.i)) K rfl (by decide +kernel) ?_ fun l => ?_
  · rw [← hrow]
    refine Ev.callT bList (Avs.cons ?_ Avs.nil) (Cb.listRange 2 (2 * ((x.length : Int) + 1)) 2 x.length hh hsm hsz (by omega)).cr
    refine Ev.callT bRange (Avs.cons move (Avs.cons ?_ (Avs.cons move Avs.nil))) (Cb.range3 2 (2 * ((x.length : Int) + 1)) 2 (by decide) (by decide +kernel)).cr
    exact Ev.bin move (Ev.bin la (Ev.int (n := 1)) (Op.add _ _)) (Op.mul _ _ (.of_left (by decide +kernel)))
  refine Sm.assign (i := 6) (d := .i 0) K rfl (by decide +kernel) Ev.int (fun _ h => nomatch h) (fun _ h => nomatch h) ?_
  refine Sm.forRange (i := 7) (a := 0) (b := y.length) (c := 1) y.length (fun i vs os => (∀ i' < i, ¬ mins x y i' > m) ∧ ∃ bi bc dist mn ix sub ins, vs = levV (.s x) (.s y) (some (.i m)) pre post (some (.r l)) (some (.i (outer x y i).2)) bi bc dist mn ix sub ins ∧ ∃ T, os = [(l, T)] ∧ ∀ o, T o → Lo ((outer x y i).1.map D.i) o)
    K hh (Ev.callT bRange (Avs.cons lb Avs.nil) (Cb.range1 _).cr) (small_range _ hy2) (size_range _) (by decide +kernel) ⟨fun i' h => (Nat.not_lt_zero _ h).elim, none, none, none, none, none, none, none, rfl, _, rfl, fun o h => h.lo⟩ (by rintro k vs os ⟨_, bi, bc, dist, mn, ix, sub, ins, rfl, _⟩; exact ⟨_, rfl⟩) ?_ ?_
  · rintro i vs os I T hi ⟨hmins, bi, bc, dist, mn, ix, sub, ins, rfl, T1, rfl, hT1⟩
    have ei : (0 + (i : Int) * 1) = i := by omega
    rw [ei]
    have hc : ∀ {vs : Vars} {os : Objs}, Has vs 1 "b" (.s y) → Has vs 7 "bindex" (.i i) → ∀ {p1 p2 p3}, Ev (model PW w) A env (FH s₀ env vs os) (.Subscript (.Name "b" p1) (.Name "bindex" p2) p3) (.s [y.getD i 0]) := fun {vs os} h1 h2 {p1 p2 p3} =>
      Ev.sign (Ev.var K h1) (Ev.var K h2) (by omega) (by omega) (sign_front y i hi)
    refine Sm.assign (i := 8) K rfl (by decide +kernel) (hc rfl rfl) (fun _ h => nomatch h) (fun _ h => nomatch h) ?_
    refine Sm.both (i := 9) (j := 6) (d := .i ((i : Int) * 2)) K rfl rfl (by decide +kernel) (by decide +kernel) (Ev.bin (Ev.var (i := 7) K rfl) move (Op.mul _ _ (.of_right (by decide +kernel)))) (fun _ h => nomatch h) (fun _ h => nomatch h) ?_
    refine Sm.assign (i := 10) (d := .i big) K rfl (by decide +kernel) Ev.int (fun _ h => nomatch h) (fun _ h => nomatch h) ?_
    generalize hcc : y.getD i 0 = c
    have hS0 : (outer x y i).1.length = x.length := outer_row_length x y i
    refine Sm.forRange (i := 11) (a := 0) (b := x.length) (c := 1) x.length (fun j vs os => ∃ ix sub ins, vs = levV (.s x) (.s y) (some (.i m)) pre post (some (.r l)) (some (.i (inner c x (start i (outer x y i).1) j).res)) (some (.i i)) (some (.s [c])) (some (.i (inner c x (start i (outer x y i).1) j).d)) (some (.i (inner c x (start i (outer x y i).1) j).mn)) ix sub ins ∧
        ∃ T', os = [(I, T), (l, T')] ∧ ∀ o, T' o → Lo ((inner c x (start i (outer x y i).1) j).row.map D.i) o)
      K hh (Ev.callT bRange (Avs.cons la Avs.nil) (Cb.range1 _).cr) (small_range _ hx2) (size_range _) (by decide +kernel) ⟨_, _, _, rfl, _, rfl, hT1⟩ (by rintro k vs os ⟨ix, sub, ins, rfl, _⟩; exact ⟨_, rfl⟩) ?_ ?_
    · rintro j vs os I2 T2 hj ⟨ix, sub, ins, rfl, T', rfl, hT'⟩
      have ej : (0 + (j : Int) * 1) = j := by omega
      rw [ej]
      generalize hS : inner c x (start i (outer x y i).1) j = S at hT' ⊢
      have hSl : S.row.length = x.length := by rw [← hS, inner_row_length]; exact hS0
      refine Sm.assign (i := 12) K rfl (by decide +kernel) (Ev.bin (Ev.var (i := 9) K rfl) (Ev.callD eSub hfn (Avs.cons (Ev.var (i := 8) K rfl) (Avs.cons (Ev.sign (Ev.var (i := 0) K rfl) (Ev.var (i := 11) K rfl) (by omega) (by omega) (sign_front x j hj)) Avs.nil)) (cSub c (x.getD j 0))) (Op.add _ _)) (fun _ h => nomatch h) (fun _ h => nomatch h) ?_
      have hrow : ∀ {vs : Vars} {os : Objs}, Has vs 5 "row" (.r l) → HasO os 2 l T' → ∀ {p}, Ev (model PW w) A env (FH s₀ env vs os) (.Name "row" p) (.k (Lo (S.row.map D.i))) := fun {vs os} h1 h2 {p} =>
        (Ev.obj K h1 h2).imp fun s s' v ⟨a, o, q1, q2, q3⟩ => ⟨a, o, q1, q2, hT' o q3⟩
      refine Sm.assign (i := 9) (d := .i (S.row.getD j 0)) K rfl (by decide +kernel) (Ev.item (hrow rfl rfl) (Ev.var (i := 11) K rfl) (by omega) (by omega) (get_map _ _ (by omega))) (fun _ h => nomatch h) (fun _ h => nomatch h) ?_
      refine Sm.assign (i := 13) (d := .i (pmin S.res (S.row.getD j 0) + 2)) K rfl (by decide +kernel) (Ev.bin (Ev.callB bMin (Avs.cons (Ev.var (i := 6) K rfl) (Avs.cons (Ev.var (i := 9) K rfl) Avs.nil)) (Cb.min2 _ _ hh).cr) move (Op.add _ _)) (fun _ h => nomatch h) (fun _ h => nomatch h) ?_
      refine Sm.assign (i := 6) (d := .i (pmin (pmin S.res (S.row.getD j 0) + 2) (S.d + cost c (x.getD j 0)))) K rfl (by decide +kernel) (Ev.callB bMin (Avs.cons (Ev.var (i := 13) K rfl) (Avs.cons (Ev.var (i := 12) K rfl) Avs.nil)) (Cb.min2 _ _ hh).cr) (fun _ h => nomatch h) (fun _ h => nomatch h) ?_
      refine Sm.setItem (j := 2) rfl hT' (Ev.var (i := 5) K rfl) (Ev.var (i := 11) K rfl) (Ev.var (i := 6) K rfl) (fun _ h => nomatch h) (fun _ h => nomatch h) (by omega) (by simp; omega) (by simp; omega) ?_
      have hlo : ∀ o, Lo ((S.row.map D.i).set (j : Int).toNat (.i (pmin (pmin S.res (S.row.getD j 0) + 2) (S.d + cost c (x.getD j 0))))) o → Lo ((inner c x (start i (outer x y i).1) (j + 1)).row.map D.i) o := by
        intro o h
        have e : (inner c x (start i (outer x y i).1) (j + 1)) = stepS c x S j := by rw [← hS]; rfl
        rw [e]
        show Lo ((S.row.set j _).map D.i) o
        rw [List.map_set]
        exact h
      refine Sm.When (b := decide (pmin (pmin S.res (S.row.getD j 0) + 2) (S.d + cost c (x.getD j 0)) < S.mn)) (Tr.cmp (Ev.var (i := 6) K rfl) (Ev.var (i := 10) K rfl) (Op.lt _ _)) (fun h => ?_) (fun h => ?_)
      · refine Sm.assign (i := 10) K rfl (by decide +kernel) (Ev.var (i := 6) K rfl) (fun _ h => nomatch h) (fun _ h => nomatch h) (Sm.end (Sm.nil fun s F => ?_))
        refine ⟨_, _, ⟨some (.i j), some (.i (S.d + cost c (x.getD j 0))), some (.i (pmin S.res (S.row.getD j 0) + 2)), ?_, _, rfl, hlo⟩, F⟩
        have e : (inner c x (start i (outer x y i).1) (j + 1)) = stepS c x S j := by rw [← hS]; rfl
        rw [e]
        unfold stepS
        dsimp only
        rw [if_pos (of_decide_eq_true h)]
        rfl
      · refine Sm.nil fun s F => ?_
        refine ⟨_, _, ⟨some (.i j), some (.i (S.d + cost c (x.getD j 0))), some (.i (pmin S.res (S.row.getD j 0) + 2)), ?_, _, rfl, hlo⟩, F⟩
        have e : (inner c x (start i (outer x y i).1) (j + 1)) = stepS c x S j := by rw [← hS]; rfl
        rw [e]
        unfold stepS
        dsimp only
        rw [if_neg (of_decide_eq_false h)]
        rfl
    · rintro vs os ⟨ix, sub, ins, rfl, T', rfl, hT'⟩
      refine Sm.When (b := decide (mins x y i > m)) (Tr.cmp (Ev.var (i := 10) K rfl) (Ev.var (i := 2) K rfl) ?_) (fun h => ?_) (fun h => ?_)
      · unfold mins; rw [hcc]; exact Op.gt _ _
      · refine Sm.Ret (Ev.bin (Ev.var (i := 2) K rfl) (Ev.int (n := 1)) (Op.add _ _)) fun v s' g n => ⟨?_, n⟩
        rw [if_pos (by
          rw [List.any_eq_true]
          exact ⟨i, List.mem_range.mpr hi, h⟩)]
        exact g
      · refine Sm.nil fun s F => ⟨_, _, ⟨?_, some (.i i), some (.s [c]), some (.i (inner c x (start i (outer x y i).1) x.length).d), some (.i (inner c x (start i (outer x y i).1) x.length).mn), ix, sub, ins, rfl, T', rfl, ?_⟩, ?_⟩
        · intro i' hi'
          rcases Nat.lt_or_ge i' i with h1 | h1
          · exact hmins i' h1
          · have : i' = i := by omega
            subst this
            exact of_decide_eq_false h
        · intro o ho
          show Lo ((inner (y.getD i 0) x (start i (outer x y i).1) x.length).row.map D.i) o
          rw [hcc]; exact hT' o ho
        · have e : (outer x y (i + 1)).2 = (inner c x (start i (outer x y i).1) x.length).res := by rw [← hcc]; rfl
          rw [e]
          exact F
  · rintro vs os ⟨hmins, bi, bc, dist, mn, ix, sub, ins, rfl, T1, rfl, hT1⟩
    refine Sm.Ret (Ev.var (i := 6) K rfl) fun v s' g n => ⟨?_, n⟩
    rw [if_neg (by
      rw [List.any_eq_true]
      rintro ⟨i, hi, h⟩
      exact hmins i (List.mem_range.mp hi) (of_decide_eq_true h))]
    exact g

theorem lev_walk {w : World} {mg mb : Str → Option Value} {N : Nat} {A : Around} {a f : Addr} (ha : mg "_levenshtein_distance" = some (.ref a)) (hf : mg "_substitution_cost" = some (.ref f)) (hroom : A.depth + 1 < recursionLimit) (hh : A.handled = none)
    (x y : List Nat) (hx : x.length ≤ 40) (hy : y.length ≤ 40) (m : Int) :
    Cr (model PW w) A (GH w mg mb N) (.ref a) [.s x, .s y, .i m] (.i (lev x y m)) := by
  have hmem : dLev ∈ theDefs := by unfold theDefs; simp
  refine Cr.plain (d := dLev) levPs levLs (made_at hmem dLev_ok.nd (by rw [dLev_name]; exact ha)) (by omega) rfl (by decide +kernel) ?_ (by decide +kernel) (by kernel_rfl) (by kernel_rfl) (by kernel_rfl) (by decide +kernel) ?_
  · intro vs hvs pm c doc
    obtain ⟨u, v, z, rfl⟩ := len_3 hvs
    kernel_rfl
  intro s₀ env es hG hL K hsc
  obtain rfl := hL.plain (plain_of rfl)
  have g : ∀ {vs os} s, (FH s₀ env vs os).P s → G w mg mb N s.heap := fun {vs os} => FH.glob hG
  have kMove : env.kindOf "_MOVE_COST" = some .globalImplicit := kd hsc (by kernel_rfl)
  have kMax : env.kindOf "_MAX_STRING_SIZE" = some .globalImplicit := kd hsc (by kernel_rfl)
  have kLen : env.kindOf "len" = some .globalImplicit := kd hsc (by kernel_rfl)
  have kMin : env.kindOf "min" = some .globalImplicit := kd hsc (by kernel_rfl)
  have kRange : env.kindOf "range" = some .globalImplicit := kd hsc (by kernel_rfl)
  have kList : env.kindOf "list" = some .globalImplicit := kd hsc (by kernel_rfl)
  have kSub : env.kindOf "_substitution_cost" = some .globalImplicit := kd hsc (by kernel_rfl)
  have move : ∀ {vs os p}, Ev (model PW w) (A.deeper env) env (FH s₀ env vs os) (.Name "_MOVE_COST" p) (.i 2) := fun {vs os p} => Ev.gint K g (by unfold theConsts; simp) kMove
  have maxS : ∀ {vs os p}, Ev (model PW w) (A.deeper env) env (FH s₀ env vs os) (.Name "_MAX_STRING_SIZE" p) (.i 40) := fun {vs os p} => Ev.gint K g (by unfold theConsts; simp) kMax
  have bLen : ∀ {vs os p}, Fv (model PW w) (A.deeper env) env (FH s₀ env vs os) (.Name "len" p) (.builtin "len") := fun {vs os p} => Fv.builtin K g (by decide +kernel) (hx := kLen)
  have bMin : ∀ {vs os p}, Fv (model PW w) (A.deeper env) env (FH s₀ env vs os) (.Name "min" p) (.builtin "min") := fun {vs os p} => Fv.builtin K g (by decide +kernel) (hx := kMin)
  have bRange : ∀ {vs os p}, Fv (model PW w) (A.deeper env) env (FH s₀ env vs os) (.Name "range" p) (.type "range") := fun {vs os p} => Fv.builtin K g (by decide +kernel) (hx := kRange)
  have bList : ∀ {vs os p}, Fv (model PW w) (A.deeper env) env (FH s₀ env vs os) (.Name "list" p) (.type "list") := fun {vs os p} => Fv.builtin K g (by decide +kernel) (hx := kList)
  have eSub : ∀ {vs os p}, Fv (model PW w) (A.deeper env) env (FH s₀ env vs os) (.Name "_substitution_cost" p) (.ref f) := fun {vs os p} => Fv.global K g hf kSub
  have hd0 : (A.deeper env).handled = none := hh
  show Sm _ _ _ (Fm s₀ env (levV (.s x) (.s y) (some (.i m)) none none none none none none none none none none none) []) _ _
  with_unfolding_all refine Sm.When (b := x == y) (Tr.cmp (Ev.var (i := 0) K rfl) (Ev.var (i := 1) K rfl) (Op.seq _ _)) (fun h => ?_) (fun h => ?_)
  · refine Sm.Ret (d := .i 0) Ev.int fun v s' g n => ⟨?_, n⟩
    have : x = y := by simpa using h
    unfold lev; rw [if_pos this]; exact g
  have hne : x ≠ y := by simpa using h
  unfold lev
  rw [if_neg hne]
  refine Sm.assign (i := 3) (d := .i 0) K rfl (by decide +kernel) Ev.int (fun _ h => nomatch h) (fun _ h => nomatch h) ?_
  show Sm _ _ _ (Fm s₀ env (levV (.s x) (.s y) (some (.i m)) (some (.i (0 : Nat))) none none none none none none none none none none) []) _ _
  refine Sm.while (fun n vs os => ∃ k : Nat, k ≤ preLen x y ∧ n = preLen x y - k ∧ vs = levV (.s x) (.s y) (some (.i m)) (some (.i k)) none none none none none none none none none none ∧ os = []) (preLen x y) ⟨0, Nat.zero_le _, rfl, rfl, rfl⟩ ?_
  rintro n vs os ⟨k, hk, rfl, rfl, rfl⟩
  have hx2 : x.length ≤ 2000 := by omega
  have hy2 : y.length ≤ 2000 := by omega
  refine ⟨decide (k < preLen x y), ?_, fun h => ?_, fun h => ?_⟩
  · rw [← preLen_test x y k hk]
    have e1 : ∀ {p1 p2 p3 p4}, Ev (model PW w) (A.deeper env) env (FH s₀ env (levV (.s x) (.s y) (some (.i m)) (some (.i k)) none none none none none none none none none none) []) (.Subscript (.Name "a" p1) (.Slice (some (.Name "pre" p2)) none none p3) p4) (.s (x.drop k)) := fun {p1 p2 p3 p4} => by
      rw [← cut_from]
      exact Ev.slice (Ev.var (i := 0) K rfl) (Evp.some (Ev.var (i := 3) K rfl)) Evp.none rfl rfl hx2
    have e2 : ∀ {p1 p2 p3 p4}, Ev (model PW w) (A.deeper env) env (FH s₀ env (levV (.s x) (.s y) (some (.i m)) (some (.i k)) none none none none none none none none none none) []) (.Subscript (.Name "b" p1) (.Slice (some (.Name "pre" p2)) none none p3) p4) (.s (y.drop k)) := fun {p1 p2 p3 p4} => by
      rw [← cut_from]
      exact Ev.slice (Ev.var (i := 1) K rfl) (Evp.some (Ev.var (i := 3) K rfl)) Evp.none rfl rfl hy2
    refine Tr.and3 (Tr.val e1 (Truth.str _ (by simp; omega))) (fun _ => Tr.val e2 (Truth.str _ (by simp; omega))) (fun h1 h2 => ?_)
    have l1 : k < x.length := by simp at h1; omega
    have l2 : k < y.length := by simp at h2; omega
    exact Tr.cmp (Ev.sign (Ev.var (i := 0) K rfl) (Ev.var (i := 3) K rfl) (by omega) (by omega) (sign_front x k l1)) (Ev.sign (Ev.var (i := 1) K rfl) (Ev.var (i := 3) K rfl) (by omega) (by omega) (sign_front y k l2)) (Op.seq _ _)
  · have hlt : k < preLen x y := of_decide_eq_true h
    refine Sm.aug (i := 3) K rfl (by decide +kernel) (Ev.int (n := 1)) (Op.iadd _ _) (fun _ h => nomatch h) (fun _ h => nomatch h) ?_
    exact Sm.nil fun s F => ⟨preLen x y - (k + 1), _, _, by omega, ⟨k + 1, hlt, rfl, rfl, rfl⟩, F⟩
  have hge : k = preLen x y := by have := of_decide_eq_false h; omega
  subst hge
  have e1 : ∀ {b post p1 p2 p3 p4}, Ev (model PW w) (A.deeper env) env (FH s₀ env (levV (.s x) b (some (.i m)) (some (.i (preLen x y : Nat))) post none none none none none none none none none) []) (.Subscript (.Name "a" p1) (.Slice (some (.Name "pre" p2)) none none p3) p4) (.s (x.drop (preLen x y))) := fun {b post p1 p2 p3 p4} => by
    rw [← cut_from]
    exact Ev.slice (Ev.var (i := 0) K rfl) (Evp.some (Ev.var (i := 3) K rfl)) Evp.none rfl rfl hx2
  have e2 : ∀ {a post p1 p2 p3 p4}, Ev (model PW w) (A.deeper env) env (FH s₀ env (levV a (.s y) (some (.i m)) (some (.i (preLen x y : Nat))) post none none none none none none none none none) []) (.Subscript (.Name "b" p1) (.Slice (some (.Name "pre" p2)) none none p3) p4) (.s (y.drop (preLen x y))) := fun {a post p1 p2 p3 p4} => by
    rw [← cut_from]
    exact Ev.slice (Ev.var (i := 1) K rfl) (Evp.some (Ev.var (i := 3) K rfl)) Evp.none rfl rfl hy2
  refine Sm.assign (i := 0) K rfl (by decide +kernel) e1 (fun _ h => nomatch h) (fun _ h => nomatch h) ?_
  refine Sm.assign (i := 1) K rfl (by decide +kernel) e2 (fun _ h => nomatch h) (fun _ h => nomatch h) ?_
  refine Sm.assign (i := 4) (d := .i 0) K rfl (by decide +kernel) Ev.int (fun _ h => nomatch h) (fun _ h => nomatch h) ?_
  generalize hpq : preLen x y = pq
  have hx3 : (x.drop pq).length ≤ 40 := by simp; omega
  have hy3 : (y.drop pq).length ≤ 40 := by simp; omega
  generalize x.drop pq = x1 at hx3 ⊢
  generalize y.drop pq = y1 at hy3 ⊢
  clear e1 e2
  unfold lev1
  refine Sm.while (fun n vs os => ∃ k : Nat, k ≤ sufLen x1 y1 ∧ n = sufLen x1 y1 - k ∧ vs = levV (.s x1) (.s y1) (some (.i m)) (some (.i pq)) (some (.i (-(k : Int)))) none none none none none none none none none ∧ os = []) (sufLen x1 y1) ⟨0, Nat.zero_le _, rfl, rfl, rfl⟩ ?_
  rintro n vs os ⟨k, hk, rfl, rfl, rfl⟩
  have hx4 : x1.length ≤ 2000 := by omega
  have hy4 : y1.length ≤ 2000 := by omega
  have ub : ∀ {a b p1 p2 p3 c}, Evp (model PW w) (A.deeper env) env (FH s₀ env (levV a b (some (.i m)) (some (.i pq)) (some (.i (-(k : Int)))) none none none none none none none none none) []) (some (.BoolOp .Or [.Name "post" p1, .Constant .none c p2] p3)) (if k = 0 then .n else .i (-(k : Int))) := fun {a b p1 p2 p3 c} => by
    refine Evp.some (Ev.or (Ev.var (i := 4) K rfl) (Truth.int _) (fun h s s' v gg => ?_) (fun h => ?_))
    · have : k ≠ 0 := by rintro rfl; simp at h
      rw [if_neg this]; exact gg
    · have : k = 0 := by simp at h; omega
      rw [if_pos this]; exact Ev.none
  have part : Part (if k = 0 then .n else .i (-(k : Int))) (if k = 0 then none else some (-(k : Int))) := by
    by_cases h : k = 0
    · rw [if_pos h, if_pos h]; exact rfl
    · rw [if_neg h, if_neg h]; exact rfl
  have e1 : ∀ {b p1 p2 p3 p4 p5 p6 c}, Ev (model PW w) (A.deeper env) env (FH s₀ env (levV (.s x1) b (some (.i m)) (some (.i pq)) (some (.i (-(k : Int)))) none none none none none none none none none) []) (.Subscript (.Name "a" p1) (.Slice none (some (.BoolOp .Or [.Name "post" p2, .Constant .none c p3] p4)) none p5) p6) (.s (x1.take (x1.length - k))) := fun {b p1 p2 p3 p4 p5 p6 c} => by
    rw [← cut_to]
    exact Ev.slice (Ev.var (i := 0) K rfl) Evp.none ub rfl part hx4
  have e2 : ∀ {a p1 p2 p3 p4 p5 p6 c}, Ev (model PW w) (A.deeper env) env (FH s₀ env (levV a (.s y1) (some (.i m)) (some (.i pq)) (some (.i (-(k : Int)))) none none none none none none none none none) []) (.Subscript (.Name "b" p1) (.Slice none (some (.BoolOp .Or [.Name "post" p2, .Constant .none c p3] p4)) none p5) p6) (.s (y1.take (y1.length - k))) := fun {a p1 p2 p3 p4 p5 p6 c} => by
    rw [← cut_to]
    exact Ev.slice (Ev.var (i := 1) K rfl) Evp.none ub rfl part hy4
  refine ⟨decide (k < sufLen x1 y1), ?_, fun h => ?_, fun h => ?_⟩
  · rw [← sufLen_test x1 y1 k hk]
    refine Tr.and3 (Tr.val e1 (Truth.str _ (by simp; omega))) (fun _ => Tr.val e2 (Truth.str _ (by simp; omega))) (fun h1 h2 => ?_)
    have l1 : k < x1.length := by simp at h1; omega
    have l2 : k < y1.length := by simp at h2; omega
    exact Tr.cmp (Ev.sign (Ev.var (i := 0) K rfl) (Ev.bin (Ev.var (i := 4) K rfl) (Ev.int (n := 1)) (Op.sub _ _)) (by omega) (by omega) (sign_back x1 k l1))
      (Ev.sign (Ev.var (i := 1) K rfl) (Ev.bin (Ev.var (i := 4) K rfl) (Ev.int (n := 1)) (Op.sub _ _)) (by omega) (by omega) (sign_back y1 k l2)) (Op.seq _ _)
  · have hlt : k < sufLen x1 y1 := of_decide_eq_true h
    refine Sm.aug (i := 4) K rfl (by decide +kernel) (Ev.int (n := 1)) (Op.isub _ _) (fun _ h => nomatch h) (fun _ h => nomatch h) ?_
    refine Sm.nil fun s F => ⟨sufLen x1 y1 - (k + 1), _, _, by omega, ⟨k + 1, hlt, rfl, ?_, rfl⟩, F⟩
    have : (-(k : Int) - 1) = -((k + 1 : Nat) : Int) := by omega
    rw [← this]; rfl
  have hge : k = sufLen x1 y1 := by have := of_decide_eq_false h; omega
  subst hge
  refine Sm.assign (i := 0) K rfl (by decide +kernel) e1 (fun _ h => nomatch h) (fun _ h => nomatch h) ?_
  refine Sm.assign (i := 1) K rfl (by decide +kernel) e2 (fun _ h => nomatch h) (fun _ h => nomatch h) ?_
  clear e1 e2 ub part
  have hx5 : (x1.take (x1.length - sufLen x1 y1)).length ≤ 40 := by simp; omega
  have hy5 : (y1.take (y1.length - sufLen x1 y1)).length ≤ 40 := by simp; omega
  generalize sufLen x1 y1 = kk at hx5 hy5 ⊢
  generalize x1.take (x1.length - kk) = x2 at hx5 ⊢
  generalize y1.take (y1.length - kk) = y2 at hy5 ⊢
  have hx6 : x2.length ≤ 2000 := by omega
  have hy6 : y2.length ≤ 2000 := by omega
  show Sm _ _ _ (Fm s₀ env (levV (.s x2) (.s y2) (some (.i m)) (some (.i pq)) (some (.i (-(kk : Int)))) none none none none none none none none none) []) _ _
  have la : ∀ {a b m pre post row res bi bc dist mn ix sub ins os p1 p2 l}, l.length ≤ 2000 → Ev (model PW w) (A.deeper env) env (FH s₀ env (levV (.s l) b m pre post row res bi bc dist mn ix sub ins) os) (.Call (.Name "len" p1) [.Name "a" p2] [] a) (.i l.length) := fun {a b m pre post row res bi bc dist mn ix sub ins os p1 p2 l} hl =>
    Ev.callB bLen (Avs.cons (Ev.var (i := 0) K rfl) Avs.nil) (Cb.len_str _ hl).cr
  have lb : ∀ {a b m pre post row res bi bc dist mn ix sub ins os p1 p2 l}, l.length ≤ 2000 → Ev (model PW w) (A.deeper env) env (FH s₀ env (levV b (.s l) m pre post row res bi bc dist mn ix sub ins) os) (.Call (.Name "len" p1) [.Name "b" p2] [] a) (.i l.length) := fun {a b m pre post row res bi bc dist mn ix sub ins os p1 p2 l} hl =>
    Ev.callB bLen (Avs.cons (Ev.var (i := 1) K rfl) Avs.nil) (Cb.len_str _ hl).cr
  refine Sm.When (Tr.or (Tr.not (Tr.val (Ev.var (i := 0) K rfl) (Truth.str _ hx6))) (fun _ => Tr.not (Tr.val (Ev.var (i := 1) K rfl) (Truth.str _ hy6)))) (fun h => ?_) (fun h => ?_)
  · refine Sm.Ret (Ev.bin move (Ev.bin (la hx6) (lb hy6) (Op.add _ _)) (Op.mul _ _ ?_)) fun v s' g n => ⟨?_, n⟩
    · exact .of_left (by decide +kernel)
    · have : x2 = [] ∨ y2 = [] := by simpa using h
      unfold lev2; rw [if_pos this]; exact g
  have hnn : ¬ (x2 = [] ∨ y2 = []) := by simpa using h
  unfold lev2
  rw [if_neg hnn]
  refine Sm.When (b := false) (Tr.cast (Tr.or (Tr.cmp (la hx6) maxS (Op.gt _ _)) (fun _ => Tr.cmp (lb hy6) maxS (Op.gt _ _))) ?_) (fun h => nomatch h) (fun _ => ?_)
  · rw [decide_eq_false (by omega), decide_eq_false (by omega)]; rfl
  have hxn : x2 ≠ [] := fun e => hnn (.inl e)
  have hyn : y2 ≠ [] := fun e => hnn (.inr e)
  refine Sm.When (b := decide ((y2.length : Int) < x2.length)) (Tr.cmp (lb hy6) (la hx6) (Op.lt _ _)) (fun h => ?_) (fun h => ?_)
  · have hlt : y2.length < x2.length := by have := of_decide_eq_true h; omega
    rw [if_pos hlt]
    refine Sm.swap2 (i := 0) (j := 1) (d1 := .s y2) (d2 := .s x2) K hd0 rfl rfl (by decide +kernel) (by decide +kernel) (Ev.tuple (Avs.cons (Ev.var (i := 1) K rfl) (Avs.cons (Ev.var (i := 0) K rfl) Avs.nil)) ⟨(fun _ h => nomatch h), (fun _ h => nomatch h), (fun _ h => nomatch h), (fun _ h => nomatch h), trivial⟩ (by simp)) ?_ (Sm.end ?_)
    · rw [env_eta hsc]; kernel_rfl
    · with_unfolding_all exact lev_rows hf hroom hd0 hG K hsc y2 x2 hyn (by omega) hx5 m (some (.i pq)) (some (.i (-(kk : Int))))
  · have hge : ¬ y2.length < x2.length := by have := of_decide_eq_false h; omega
    rw [if_neg hge]
    with_unfolding_all exact lev_rows hf hroom hd0 hG K hsc x2 y2 hxn (by omega) hy5 m (some (.i pq)) (some (.i (-(kk : Int))))
end Mine

open PySem PySem.W PyProof.Rows
namespace Mine
set_option Elab.async false
set_option maxRecDepth 100000
set_option linter.unusedVariables false

theorem coll_walk {w : World} {mg mb : Str → Option Value} {N : Nat} {A : Around} {a : Addr} (ha : mg "_strcoll" = some (.ref a)) (hroom : A.depth < recursionLimit) (x y : List Nat) :
    Cr (model PW w) A (GH w mg mb N) (.ref a) [.s x, .s y] (.i (b2i (decide (y < x)) - b2i (decide (x < y)))) := by
  have hmem : dColl ∈ theDefs := by unfold theDefs; simp
  refine Cr.plain (d := dColl) ["a", "b"] [] (made_at hmem dColl_ok.nd (by rw [dColl_name]; exact ha)) hroom rfl (by decide +kernel) ?_ (by decide +kernel) (by kernel_rfl) (by kernel_rfl) (by kernel_rfl) (by decide +kernel) ?_
  · intro vs hvs pm c doc
    obtain ⟨u, v, rfl⟩ := len_2 hvs
    kernel_rfl
  intro s₀ env es hG hL K hsc
  obtain rfl := hL.plain (plain_of rfl)
  with_unfolding_all refine Sm.Ret (Ev.bin (Ev.cmp (Ev.var (i := 0) K rfl) (Ev.var (i := 1) K rfl) (Op.sgt _ _)) (Ev.cmp (Ev.var (i := 0) K rfl) (Ev.var (i := 1) K rfl) (Op.slt _ _)) (Op.bsub _ _)) fun v s' g n => ⟨g, n⟩

theorem in_walk {w : World} {mg mb : Str → Option Value} {N : Nat} {A : Around} {a : Addr} (ha : mg "in_table_b1" = some (.ref a)) (hroom : A.depth < recursionLimit) (c : Nat) :
    Cr (model PW w) A (GH w mg mb N) (.ref a) [.s [c]] (.b (b1.any (· == (c : Int)))) := by
  have hmem : dIn ∈ theDefs := by unfold theDefs; simp
  refine Cr.plain (d := dIn) ["code"] [] (made_at hmem dIn_ok.nd (by rw [dIn_name]; exact ha)) hroom rfl (by decide +kernel) ?_ (by decide +kernel) (by kernel_rfl) (by kernel_rfl) (by kernel_rfl) (by decide +kernel) ?_
  · intro vs hvs pm c doc
    obtain ⟨u, rfl⟩ := len_1 hvs
    kernel_rfl
  intro s₀ env es hG hL K hsc
  obtain rfl := hL.plain (plain_of rfl)
  have g : ∀ {vs os} s, (FH s₀ env vs os).P s → G w mg mb N s.heap := fun {vs os} => FH.glob hG
  have kOrd : env.kindOf "ord" = some .globalImplicit := kd hsc (by kernel_rfl)
  have kSet : env.kindOf "b1_set" = some .globalImplicit := kd hsc (by kernel_rfl)
  have bOrd : ∀ {vs os p}, Fv (model PW w) (A.deeper env) env (FH s₀ env vs os) (.Name "ord" p) (.builtin "ord") := fun {vs os p} => Fv.builtin K g (by decide +kernel) (hx := kOrd)
  have op : Op2 (model PW w) (A.deeper env) (compareOp .In) (.i c) (.k SetObj) (.b (b1.any (· == (c : Int)))) := by
    rintro s _ _ Q E ⟨t, rfl⟩ ⟨b, o, rfl, ho, S, n, hS, hn, hm⟩ q
    refine wpAny_inSet_of (k := (c : Int)) (intKind_is _ _ _ _) rfl ((hS.kind PW w).setOf ho hn) ?_
    rw [hm]
    exact q _ _ rfl (Nx.tok s _)
  with_unfolding_all refine Sm.Ret (Ev.cmp (Ev.callB bOrd (Avs.cons (Ev.var (i := 0) K rfl) Avs.nil) (Cb.ord c).cr) (Ev.gobj K g (by unfold theObjs; simp) kSet) op) fun v s' g n => ⟨g, n⟩

/- table B.3's word for a sign, if it has one -/
noncomputable def b3at (c : Int) : Option Str := (b3.find? fun p => p.1 == c).map (·.2)
/- a sign folded -/
noncomputable def fold3 (c : Nat) : List Nat := match b3at c with
  | some v => v.cps.toList
  | none => lowL [c]

noncomputable def b3D : List (PyData × PyData) := b3.map fun p => (.int p.1, .str p.2)
theorem are_flat {kvs : List (Int × Value)} {ps : List (Int × Str)} (h : Are kvs ps) : PyProof.V.FlatPairs PyData.int kvs (ps.map fun p => (.int p.1, .str p.2)) := by
  induction h with
  | nil => exact .nil
  | cons _ ih => exact .cons (PyProof.V.Flat.str _ _) ih
theorem lookup_map (c : Int) : ∀ ps : List (Int × Str), PySem.Spec.lookup (.int c) (ps.map fun p => (PyData.int p.1, PyData.str p.2)) = ((ps.find? fun p => p.1 == c).map (·.2)).map PyData.str
  | [] => rfl
  | (k, v) :: ps => by
    rw [List.map_cons]
    show (if PySem.Spec.same (PyData.int k) (.int c) then some (PyData.str v) else PySem.Spec.lookup _ _) = _
    rw [lookup_map c ps, List.find?_cons]
    have : PySem.Spec.same (PyData.int k) (.int c) = (k == c) := by
      rfl
    rw [this]
    cases k == c <;> rfl

theorem map_walk {w : World} {mg mb : Str → Option Value} {N : Nat} {A : Around} {a : Addr} (ha : mg "map_table_b3" = some (.ref a)) (hroom : A.depth < recursionLimit) (c : Nat) :
    Cr (model PW w) A (GH w mg mb N) (.ref a) [.s [c]] (.s (fold3 c)) := by
  have hmem : dMap ∈ theDefs := by unfold theDefs; simp
  refine Cr.plain (d := dMap) ["code"] ["r"] (made_at hmem dMap_ok.nd (by rw [dMap_name]; exact ha)) hroom rfl (by decide +kernel) ?_ (by decide +kernel) (by kernel_rfl) (by kernel_rfl) (by kernel_rfl) (by decide +kernel) ?_
  · intro vs hvs pm c doc
    obtain ⟨u, rfl⟩ := len_1 hvs
    kernel_rfl
  intro s₀ env es hG hL K hsc
  obtain rfl := hL.plain (plain_of rfl)
  have g : ∀ {vs os} s, (FH s₀ env vs os).P s → G w mg mb N s.heap := fun {vs os} => FH.glob hG
  have kOrd : env.kindOf "ord" = some .globalImplicit := kd hsc (by kernel_rfl)
  have kTab : env.kindOf "b3_exceptions" = some .globalImplicit := kd hsc (by kernel_rfl)
  have bOrd : ∀ {vs os p}, Fv (model PW w) (A.deeper env) env (FH s₀ env vs os) (.Name "ord" p) (.builtin "ord") := fun {vs os p} => Fv.builtin K g (by decide +kernel) (hx := kOrd)
  obtain ⟨b, o, hN, hb, ho, hq⟩ := hG.held ("b3_exceptions", DictObj w) (by unfold theObjs; simp)
  have hlow : (b == sysModules) = false := beq_eq_false_iff_ne.mpr fun e => by subst e; exact absurd hN (by decide)
  have tab : ∀ {s}, s₀.heap.get? b = some o → Nx s₀ s → IntTab PW w s.heap b b3D := fun {s} _ n => by
    obtain ⟨es, ep, kvs, h1, h2, h3, h4, h5, h6⟩ := hq
    exact ⟨hlow, kvs, ⟨o, es, ep, n.up _ _ ho, h1, h2, h3, h4, h5⟩, are_flat h6⟩
  have eTab : ∀ {vs os p}, Ev (model PW w) (A.deeper env) env (FH s₀ env vs os) (.Name "b3_exceptions" p) (.r b) := fun {vs os p} => (Fv.global (x := "b3_exceptions") K g hb kTab).ev rfl
  have cGet : ∀ {vs os}, Cr (model PW w) (A.deeper env) (FH s₀ env vs os) (.builtin "dict.get") [.r b, .i c] (match b3at c with | some v => .s v.cps.toList | none => .n) := fun {vs os} => by
    rintro s us Q E (F : Fm s₀ env vs os s) ga q
    obtain ⟨v, u, rfl, rfl, ⟨t, rfl⟩⟩ := ga.two
    refine call_get1_intTab (tab ho F.nx) fun v hv => ?_
    refine q _ _ ?_ (Nx.tok s _)
    rw [show PySem.Spec.lookup (.int (c : Int)) b3D = (b3at c).map PyData.str from lookup_map c b3] at hv
    cases hb3 : b3at c with
    | none => rw [hb3] at hv; exact hv.none_inv
    | some y => rw [hb3] at hv; obtain ⟨t, rfl⟩ := hv.str_inv; exact ⟨t, rfl⟩
  have eGet : ∀ {vs os p1 p2 p3 p4 p5 p6}, Has vs 0 "code" (.s [c]) → ((p2 : Pos).endLine == (p6 : Pos).line) = true → Ev (model PW w) (A.deeper env) env (FH s₀ env vs os) (.Call (.Attribute (.Name "b3_exceptions" p1) "get" p2) [.Call (.Name "ord" p3) [.Name "code" p4] [] p5] [] p6) (match b3at c with | some v => .s v.cps.toList | none => .n) := fun {vs os p1 p2 p3 p4 p5 p6} h0 hline =>
    Ev.meth1 (T := "dict") PySem.F.plainAttrs_dict PySem.F.slot_dict_get PySem.F.type_dict_get eTab (fun s v (F : Fm s₀ env vs os s) hv => by
      cases (show v = .ref b from hv)
      obtain ⟨_, kvs, hd, _⟩ := tab ho F.nx
      exact ⟨hd.typeIs, hd.mapOf.noDict⟩) (Ev.callB bOrd (Avs.cons (Ev.var (i := 0) K h0) Avs.nil) (Cb.ord c).cr) cGet (hline := hline)
  cases hb3 : b3at c with
  | none =>
    have hf : fold3 c = lowL [c] := by unfold fold3; rw [hb3]
    rw [hf]
    with_unfolding_all refine Sm.assign (i := 1) (d := .n) K rfl (by decide +kernel) ((eGet rfl rfl).cast (by rw [hb3])) (fun _ h => nomatch h) (fun _ h => nomatch h) ?_
    refine Sm.When (b := false) (Tr.cmp (Ev.var (i := 1) K rfl) Ev.none (Op.isNotNone _ _ (fun s v h => by cases (show v = .none from h); rfl))) (fun h => nomatch h) (fun _ => ?_)
    exact Sm.Ret (Ev.lower (Ev.var (i := 0) K rfl) (by simp)) fun v s' g n => ⟨g, n⟩
  | some y =>
    have hf : fold3 c = y.cps.toList := by unfold fold3; rw [hb3]
    rw [hf]
    with_unfolding_all refine Sm.assign (i := 1) (d := .s y.cps.toList) K rfl (by decide +kernel) ((eGet rfl rfl).cast (by rw [hb3])) (fun _ h => nomatch h) (fun _ h => nomatch h) ?_
    refine Sm.When (b := true) (Tr.cmp (Ev.var (i := 1) K rfl) Ev.none (Op.isNotNone _ _ (fun s v h => by obtain ⟨t, rfl⟩ := (show ∃ t, v = .str _ t from h); rfl))) (fun _ => ?_) (fun h => nomatch h)
    exact Sm.Ret (Ev.var (i := 1) K rfl) fun v s' g n => ⟨g, n⟩
end Mine

open PySem PySem.W PyProof.Rows
namespace Mine
set_option Elab.async false
set_option maxRecDepth 100000
set_option linter.unusedVariables false

theorem relabel_other {env : Env} {k : NameKind} (hk : k ≠ .free) : ∀ {names : List (Str × NameKind)} {x : Str}, names.lookup x = some k →
    (names.map fun (n, k) => if (k == NameKind.free && env.scope.kind == .function && env.kindOf n == some .cell) then (n, NameKind.cell) else (n, k)).lookup x = some k
  | [], _, h => by simp at h
  | (n, k') :: r, x, h => by
    have ih := @relabel_other env k hk r x
    show List.lookup x ((if (k' == NameKind.free && env.scope.kind == .function && env.kindOf n == some .cell) = true then (n, NameKind.cell) else (n, k')) :: _) = _
    cases hx : x == n with
    | true =>
      simp only [List.lookup_cons, hx] at h
      cases h
      have : (k == NameKind.free) = false := by simpa using hk
      simp [List.lookup_cons, hx, this]
    | false =>
      simp only [List.lookup_cons, hx] at h
      by_cases hc : (k' == NameKind.free && env.scope.kind == .function && env.kindOf n == some .cell) = true
      · rw [if_pos hc]; simp only [List.lookup_cons, hx]; exact ih h
      · rw [if_neg hc]; simp only [List.lookup_cons, hx]; exact ih h

theorem comp_global {scope : Scope} {cl : List (Str × Addr)} {C : Addr} {env : Env} {x : Str} (h : scope.names.lookup x = some .globalImplicit) : (compEnvC scope cl C env).kindOf x = some .globalImplicit := relabel_other (by decide) h

theorem comp_ok {scope : Scope} {cl : List (Str × Addr)} {C : Addr} {env : Env} {xs : List Str} (K : Ok env xs) (hk : scope.kind = .function) : Ok (compEnvC scope cl C env) [] := ⟨hk, K.gl, K.bl, fun x hx => nomatch hx⟩

theorem get_range (l : List Nat) : (List.range l.length).map (fun i => l.getD i 0) = l := by
  apply List.ext_getElem?
  intro i
  rw [List.getElem?_map]
  rcases Nat.lt_or_ge i l.length with h | h
  · rw [List.getElem?_range h]; simp [List.getD_eq_getElem?_getD, List.getElem?_eq_getElem h]
  · rw [List.getElem?_eq_none (by simpa using h), List.getElem?_eq_none h]; rfl

theorem picked_str (l : List Nat) (p : Nat → Bool) (f : Nat → List Nat) : picked l.length (fun i => p (l.getD i 0)) (fun i => .s (f (l.getD i 0))) = ((l.filter p).map f).map D.s := by
  unfold picked
  conv => rhs; rw [← get_range l]
  rw [List.filter_map, List.map_map, List.map_map]
  rfl

/- what table B.1 holds -/
noncomputable def inB1 (c : Nat) : Bool := b1.any (· == (c : Int))
/- a typed word read -/
noncomputable def readL (l : List Nat) : List Nat := ((l.filter fun c => !inB1 c).map fold3).flatten

theorem Op.isFalse {prog : Program} {w : World} {A : Around} (b : Bool) : Op2 (model prog w) A (compareOp .Is) (.b b) (.b false) (.b (!b)) := by
  rintro s _ _ Q E rfl rfl q
  refine wpAny_is_plain (by cases b <;> rfl) ?_
  have := q _ _ rfl (Nx.refl s)
  cases b <;> exact this

theorem read_walk {w : World} {mg mb : Str → Option Value} {N : Nat} {A : Around} {a f1 f2 : Addr} (ha : mg "_law_read" = some (.ref a)) (h1 : mg "in_table_b1" = some (.ref f1)) (h2 : mg "map_table_b3" = some (.ref f2)) (hroom : A.depth + 1 < recursionLimit) (hh : A.handled = none)
    (l : List Nat) (hz : l.length ≤ 2000) (hr : (readL l).length ≤ 2000) :
    Cr (model PW w) A (GH w mg mb N) (.ref a) [.s l] (.s (readL l)) := by
  have hmem : dRead ∈ theDefs := by unfold theDefs; simp
  refine Cr.plain (d := dRead) ["typed"] [] (made_at hmem dRead_ok.nd (by rw [dRead_name]; exact ha)) (by omega) rfl (by decide +kernel) ?_ (by decide +kernel) (by kernel_rfl) (by kernel_rfl) (by kernel_rfl) (by decide +kernel) ?_
  · intro vs hvs pm c doc
    obtain ⟨u, rfl⟩ := len_1 hvs
    kernel_rfl
  intro s₀ env es hG hL K hsc
  obtain rfl := hL.plain (plain_of rfl)
  with_unfolding_all refine Sm.Ret (Ev.join rfl (Gv.lo (Gv.k ?_)) hr) fun v s' g n => ⟨g, n⟩
  have hpk : ((l.filter fun c => !inB1 c).map fold3).map D.s = picked (l.map fun c => D.s [c]).length (fun i => !inB1 (l.getD i 0)) (fun i => .s (fold3 (l.getD i 0))) := by
    rw [List.length_map]; exact (picked_str l (fun c => !inB1 c) fold3).symm
  rw [hpk]
  have hitem : ∀ (i : Nat) d, (l.map fun c => D.s [c])[i]? = some d → d = .s [l.getD i 0] := by
    intro i d h
    rw [List.getElem?_map] at h
    cases hc : l[i]? with
    | none => rw [hc] at h; cases h
    | some c => rw [hc] at h; cases h; rw [List.getD_eq_getElem?_getD, hc]; rfl
  have hG2 : ∀ {C d} s, (CompH (FH s₀ env (entry ["typed"] [.s l] []) []) C "sign" d).P s → G w mg mb N s.heap := fun s hs => FH.glob hG s hs.1
  have fn : ∀ {df : DefItem} {f : Addr} {C d}, df ∈ theDefs → df.params.defaults = [] → mg df.name = some (.ref f) → ∀ s, (CompH (FH s₀ env (entry ["typed"] [.s l] []) []) C "sign" d).P s → ∃ o fd, s.heap.get? f = some o ∧ o.data = .func fd := fun h1 h2 h3 s hs => by
    obtain ⟨_, o, pm, c', doc, q1, q2, _⟩ := made_at h1 h2 h3 s (hG2 s hs)
    exact ⟨o, _, q1, q2⟩
  refine Ev.comp (cl := []) (d0 := .s l) _ _ (closureFor_none (by decide +kernel)) (by decide +kernel) (by kernel_rfl) (by decide +kernel) (by kernel_rfl) (Ev.var (i := 0) K rfl) (Src.str hh) (by simpa using hz) ?_ ?_ (fun i => ⟨(fun _ h => nomatch h), (fun _ h => nomatch h)⟩)
  · intro C i d hd
    obtain rfl := hitem i d hd
    refine Tv.one (Tr.cmp (Ev.callD (f := f1) (Fv.global (comp_ok K (by kernel_rfl)) hG2 h1 (comp_global (by kernel_rfl))) (fn (df := dIn) (by unfold theDefs; simp) dIn_ok.nd (by rw [dIn_name]; exact h1)) (Avs.cons (Ev.own (by kernel_rfl) (by kernel_rfl)) Avs.nil) ?_) Ev.bool (Op.isFalse _))
    exact fun s us Q E hs ga q => in_walk h1 (show A.depth + 1 < recursionLimit from hroom) (l.getD i 0) s us Q E (hG2 s hs) ga q
  · intro C i d hd _
    obtain rfl := hitem i d hd
    refine Ev.callD (f := f2) (Fv.global (comp_ok K (by kernel_rfl)) hG2 h2 (comp_global (by kernel_rfl))) (fn (df := dMap) (by unfold theDefs; simp) dMap_ok.nd (by rw [dMap_name]; exact h2)) (Avs.cons (Ev.own (by kernel_rfl) (by kernel_rfl)) Avs.nil) ?_
    exact fun s us Q E hs ga q => map_walk h2 (show A.depth + 1 < recursionLimit from hroom) (l.getD i 0) s us Q E (hG2 s hs) ga q
end Mine

open PySem PySem.W PyProof.Rows
namespace Mine
set_option Elab.async false
set_option maxRecDepth 100000
set_option linter.unusedVariables false
set_option maxHeartbeats 4000000

theorem Sm.open {M : Model} {A : Around} {env : Env} {F : Shared → Prop} {st : Stmt} {rest : List Stmt} {Q : Flow → Shared → Prop} (h : Sm M A env F (st :: rest) Q) : Sm M A env F (st :: rest) Q := h

/- what an if leaves when both ways join -/
noncomputable def Mid (s₀ : Shared) (env : Env) (vs : Vars) (os : Objs) (Q : Flow → Shared → Prop) : Flow → Shared → Prop := fun f s' => match f with
  | .next => Fm s₀ env vs os s'
  | f => Q f s'
theorem Sm.IfJ {M : Model} {A : Around} {env : Env} {s₀ : Shared} {vs : Vars} {os : Objs} {t : PySem.Expr} {x y : List Stmt} {p : Pos} {rest : List Stmt} {b : Bool} {Q : Flow → Shared → Prop} (vs1 : Vars) (os1 : Objs) (ht : Tr M A env (FH s₀ env vs os) t b)
    (hx : b = true → Sm M A env (Fm s₀ env vs os) x (Mid s₀ env vs1 os1 Q)) (hy : b = false → Sm M A env (Fm s₀ env vs os) y (Mid s₀ env vs1 os1 Q)) (h : Sm M A env (Fm s₀ env vs1 os1) rest Q) : Sm M A env (Fm s₀ env vs os) (.If t x y p :: rest) Q :=
  Sm.If ht (fun e => ⟨fun s hs E => wpAny_mono ((hx e).run s hs E) (fun f s' h' => by cases f <;> first | exact fun E => h.run s' h' E | exact h') fun _ _ e => e⟩)
    (fun e => ⟨fun s hs E => wpAny_mono ((hy e).run s hs E) (fun f s' h' => by cases f <;> first | exact fun E => h.run s' h' E | exact h') fun _ _ e => e⟩)

/- int literals -/
noncomputable def litInts : List PySem.Expr → Option (List Int)
  | [] => some []
  | e :: es => (intLit e).bind fun i => (litInts es).map (i.1 :: ·)
theorem Avs.lits {M : Model} {A : Around} {env : Env} {H : HP} {p : Pos} : ∀ {es : List PySem.Expr} {ns : List Int}, litInts es = some ns → Avs M A H (spliced (backTo p (starEach es env))) (ns.map D.i)
  | [], ns, h => by cases h; exact Avs.nil
  | e :: es, ns, h => by
    have h : (intLit e).bind (fun i => (litInts es).map (i.1 :: ·)) = some ns := h
    obtain ⟨i, hi, h⟩ := Option.bind_eq_some_iff.mp h
    obtain ⟨ms, h1, rfl⟩ := Option.map_eq_some_iff.mp h
    have e1 := intLit_eq hi
    subst e1
    exact Avs.cons Ev.int (Avs.lits h1)

theorem plain_ints : ∀ ns : List Int, Plain (ns.map D.i)
  | [] => trivial
  | _ :: ns => ⟨(fun _ h => nomatch h), (fun _ h => nomatch h), plain_ints ns⟩
theorem plain_strs : ∀ ns : List (List Nat), Plain (ns.map D.s)
  | [] => trivial
  | _ :: ns => ⟨(fun _ h => nomatch h), (fun _ h => nomatch h), plain_strs ns⟩

noncomputable def great : List Int := [65, 119808, 119860, 119912, 120016, 120172, 120224, 120276, 120328, 120380, 120432]
noncomputable def joinT : List (Str × Int) := [("fi", 64257), ("fl", 64258), ("hp", 13259), ("km", 13262), ("mv", 13241), ("nv", 13237), ("nw", 13243), ("ov", 13173), ("pr", 13274), ("pv", 13236), ("pw", 13242), ("sv", 13276)]
noncomputable def likeT : List (Str × Int) := [("b", 8492), ("c", 8450), ("d", 8517), ("e", 8496), ("f", 8497), ("h", 8459), ("i", 8464), ("k", 8490), ("l", 8466), ("m", 8499), ("n", 8469), ("p", 8473), ("q", 8474), ("r", 8475), ("s", 383), ("z", 8484)]
structure TS where
  pl : Nat
  seed : Int
  typed : List Nat
noncomputable def tform (S : TS) : Int := S.seed.fmod 16
noncomputable def thid (S : TS) : Int := (S.seed.fdiv 16).fmod 28
noncomputable def tseed (S : TS) : Int := (S.seed.fdiv 16).fdiv 28
noncomputable def tpre (S : TS) : List Nat := if 0 < thid S then S.typed ++ [(b1.getD (thid S - 1).toNat 0).toNat] else S.typed
noncomputable def tpair (word : List Nat) (S : TS) : List Nat := cut (some (S.pl : Int)) (some ((S.pl : Int) + 2)) word
noncomputable def tlig (word : List Nat) (S : TS) : Bool := (decide (11 < tform S) && decide (tform S < 15)) && (atS joinT ⟨(tpair word S).toArray⟩).isSome
noncomputable def tplain (S : TS) : Bool := decide (0 < tform S) && decide (tform S < 12)
noncomputable def tlike (word : List Nat) (S : TS) : Bool := (tform S == 15) && (atS likeT ⟨[word.getD S.pl 0].toArray⟩).isSome
noncomputable def tlet (word : List Nat) (S : TS) : Nat := if tplain S = true then (great.getD (tform S - 1).toNat 0 + (word.getD S.pl 0 : Nat) - 97).toNat
  else if tlike word S = true then ((atS likeT ⟨[word.getD S.pl 0].toArray⟩).getD 0).toNat else word.getD S.pl 0
noncomputable def tnext (word : List Nat) (S : TS) : TS :=
  if tlig word S = true then ⟨S.pl + 2, tseed S, tpre S ++ [((atS joinT ⟨(tpair word S).toArray⟩).getD 0).toNat]⟩ else ⟨S.pl + 1, tseed S, tpre S ++ [tlet word S]⟩
noncomputable def titer (word : List Nat) (S : TS) : Nat → TS
  | 0 => S
  | k + 1 => if (titer word S k).pl < word.length then tnext word (titer word S k) else titer word S k
/- the typed word -/
noncomputable def typedL (word : List Nat) (seed : Int) : List Nat := (titer word ⟨0, seed, []⟩ word.length).typed

theorem tpre_len (S : TS) : (tpre S).length ≤ S.typed.length + 1 := by unfold tpre; split <;> simp
theorem tnext_len (word : List Nat) (S : TS) : (tnext word S).typed.length ≤ S.typed.length + 2 ∧ S.pl < (tnext word S).pl := by
  have := tpre_len S
  unfold tnext
  split
  · simp; omega
  · simp; omega
theorem titer_facts (word : List Nat) (seed : Int) : ∀ k, (titer word ⟨0, seed, []⟩ k).typed.length ≤ 2 * k ∧ (k ≤ (titer word ⟨0, seed, []⟩ k).pl ∨ word.length ≤ (titer word ⟨0, seed, []⟩ k).pl)
  | 0 => by simp [titer]
  | k + 1 => by
    have ih := titer_facts word seed k
    unfold titer
    split
    · have := tnext_len word (titer word ⟨0, seed, []⟩ k)
      refine ⟨by omega, .inl ?_⟩
      omega
    · exact ⟨by omega, .inr (by omega)⟩
theorem titer_stay (word : List Nat) (S : TS) (k : Nat) (h : word.length ≤ (titer word S k).pl) : ∀ j, titer word S (k + j) = titer word S k
  | 0 => rfl
  | j + 1 => by
    have ih := titer_stay word S k h j
    show (if (titer word S (k + j)).pl < word.length then _ else titer word S (k + j)) = _
    rw [ih, if_neg (by omega)]

noncomputable def typPs : List Str := ["word", "seed"]
noncomputable def typLs : List Str := ["unseen", "great", "joined", "alike", "typed", "at", "form", "hidden", "pair"]
noncomputable def typV (word : List Nat) (seed : Int) (u g jo al ty at' fo hi pa : Option D) : Vars :=
  [("word", some (.s word)), ("seed", some (.i seed)), ("unseen", u), ("great", g), ("joined", jo), ("alike", al), ("typed", ty), ("at", at'), ("form", fo), ("hidden", hi), ("pair", pa)]

theorem great_pos : ∀ k : Nat, k < 11 → 65 ≤ great.getD k 0 ∧ great.getD k 0 ≤ 130000 := by decide +kernel
theorem b1_pos : ∀ k : Nat, k < 27 → 0 ≤ b1.getD k 0 ∧ b1.getD k 0 ≤ 130000 := by decide +kernel
theorem atS_pos (ps : List (Str × Int)) (hp : ∀ p ∈ ps, 0 ≤ p.2 ∧ p.2 ≤ 130000) {k : Str} {v : Int} (h : atS ps k = some v) : 0 ≤ v ∧ v ≤ 130000 := by
  unfold atS at h
  obtain ⟨p, h1, rfl⟩ := Option.map_eq_some_iff.mp h
  exact hp _ (List.mem_of_find?_eq_some h1)
theorem join_pos : ∀ p ∈ joinT, 0 ≤ p.2 ∧ p.2 ≤ 130000 := by decide +kernel
theorem like_pos : ∀ p ∈ likeT, 0 ≤ p.2 ∧ p.2 ≤ 130000 := by decide +kernel

theorem Ev.listInts {prog : Program} {w : World} {A : Around} {env : Env} {H : HP} {es : List PySem.Expr} {pos : Pos} {ns : List Int} (h : litInts es = some ns) (hz : ns.length ≤ 2000) : Ev (model prog w) A env H (.List es pos) (.o (Ls (ns.map D.i))) :=
  Ev.list (Avs.lits h) (plain_ints _) (by rw [List.length_map]; exact hz)

theorem typed_walk {w : World} {mg mb : Str → Option Value} {N : Nat} {A : Around} {a : Addr} (ha : mg "_law_typed" = some (.ref a)) (hroom : A.depth < recursionLimit) (hh : A.handled = none)
    (word : List Nat) (hz : word.length ≤ 100) (hw : ∀ c ∈ word, 97 ≤ c ∧ c ≤ 122) (seed : Int) :
    Cr (model PW w) A (GH w mg mb N) (.ref a) [.s word, .i seed] (.s (typedL word seed)) := by
  have hmem : dTyped ∈ theDefs := by unfold theDefs; simp
  refine Cr.plain (d := dTyped) typPs typLs (made_at hmem dTyped_ok.nd (by rw [dTyped_name]; exact ha)) hroom rfl (by decide +kernel) ?_ (by decide +kernel) (by kernel_rfl) (by kernel_rfl) (by kernel_rfl) (by decide +kernel) ?_
  · intro vs hvs pm c doc
    obtain ⟨u, v, rfl⟩ := len_2 hvs
    kernel_rfl
  intro s₀ env es hG hL K hsc
  obtain rfl := hL.plain (plain_of rfl)
  have g : ∀ {vs os} s, (FH s₀ env vs os).P s → G w mg mb N s.heap := fun {vs os} => FH.glob hG
  have fnB : ∀ {vs os p x v}, env.kindOf x = some .globalImplicit → bootBuiltins x = some v → x ∉ theNames → x ∉ bootMainNames → x ≠ "__name__" → (x == ("__debug__" : Str)) = false → Fv (model PW w) (A.deeper env) env (FH s₀ env vs os) (.Name x p) v := fun {vs os p x v} h1 h2 h3 h4 h5 h6 => Fv.builtin K g h2 h3 h4 h5 h1 h6
  have bLen : ∀ {vs os p}, Fv (model PW w) (A.deeper env) env (FH s₀ env vs os) (.Name "len" p) (.builtin "len") := fun {vs os p} => fnB (kd hsc (by kernel_rfl)) (by decide +kernel) (by decide +kernel) (by decide +kernel) (by decide +kernel) (by decide +kernel)
  have bChr : ∀ {vs os p}, Fv (model PW w) (A.deeper env) env (FH s₀ env vs os) (.Name "chr" p) (.builtin "chr") := fun {vs os p} => fnB (kd hsc (by kernel_rfl)) (by decide +kernel) (by decide +kernel) (by decide +kernel) (by decide +kernel) (by decide +kernel)
  have bOrd : ∀ {vs os p}, Fv (model PW w) (A.deeper env) env (FH s₀ env vs os) (.Name "ord" p) (.builtin "ord") := fun {vs os p} => fnB (kd hsc (by kernel_rfl)) (by decide +kernel) (by decide +kernel) (by decide +kernel) (by decide +kernel) (by decide +kernel)
  have bDiv : ∀ {vs os p}, Fv (model PW w) (A.deeper env) env (FH s₀ env vs os) (.Name "divmod" p) (.builtin "divmod") := fun {vs os p} => fnB (kd hsc (by kernel_rfl)) (by decide +kernel) (by decide +kernel) (by decide +kernel) (by decide +kernel) (by decide +kernel)
  have bList : ∀ {vs os p}, Fv (model PW w) (A.deeper env) env (FH s₀ env vs os) (.Name "list" p) (.type "list") := fun {vs os p} => fnB (kd hsc (by kernel_rfl)) (by decide +kernel) (by decide +kernel) (by decide +kernel) (by decide +kernel) (by decide +kernel)
  have bRange : ∀ {vs os p}, Fv (model PW w) (A.deeper env) env (FH s₀ env vs os) (.Name "range" p) (.type "range") := fun {vs os p} => fnB (kd hsc (by kernel_rfl)) (by decide +kernel) (by decide +kernel) (by decide +kernel) (by decide +kernel) (by decide +kernel)
  have hd0 : (A.deeper env).handled = none := hh
  have hz2 : word.length ≤ 2000 := by omega
  show Sm _ _ _ (Fm s₀ env (typV word seed none none none none none none none none none) []) _ _
  with_unfolding_all refine Sm.open ?_
  refine Sm.new (i := 2) (T := Ls (b1.map D.i)) (hs := by kernel_rfl!) K rfl (by decide +kernel) ?_ fun lu => ?_
  · have e : b1.map D.i = [173, 847, 6150, 6155, 6156, 6157, 8203, 8204, 8205, 8288, 65279].map D.i ++ (List.range 16).map fun (i : Nat) => D.i (65024 + (i : Int) * 1) := by
      have : b1 = [173, 847, 6150, 6155, 6156, 6157, 8203, 8204, 8205, 8288, 65279] ++ (List.range 16).map fun (i : Nat) => (65024 + (i : Int) * 1) := by decide +kernel
      rw [this, List.map_append, List.map_map]; rfl
    rw [e]
    exact Ev.bin (Gv.k (Ev.listInts (by kernel_rfl) (by decide))) (Gv.k (Ev.callT bList (Avs.cons (Ev.callT bRange (Avs.cons Ev.int (Avs.cons Ev.int Avs.nil)) (Cb.range2 _ _).cr) Avs.nil) (Cb.listRange 65024 65040 1 16 hd0 (by decide +kernel) (by decide +kernel) (by decide)).cr)) (Op.ladd _ _ (by decide))
  refine Sm.new (i := 3) (T := Ls (great.map D.i)) (hs := by kernel_rfl!) K rfl (by decide +kernel) ?_ fun lg => ?_
  · exact Ev.listInts (by kernel_rfl) (by decide)
  refine Sm.newDict (i := 4) (ps := joinT) K ⟨_, hG.g⟩ rfl (by decide +kernel) (by kernel_rfl) (by decide +kernel) (by decide) (by decide) (fun lj hlj => ?_) (by kernel_rfl!)
  refine Sm.newDict (i := 5) (ps := likeT) K ⟨_, hG.g⟩ rfl (by decide +kernel) (by kernel_rfl) (by decide +kernel) (by decide) (by decide) (fun ll hll => ?_) (by kernel_rfl!)
  generalize hos : [(ll, Td PW w likeT), (lj, Td PW w joinT), (lg, Ls (great.map D.i)), (lu, Ls (b1.map D.i))] = O
  have hO0 : O[0]? = some (ll, Td PW w likeT) := by rw [← hos]; rfl
  have hO1 : O[1]? = some (lj, Td PW w joinT) := by rw [← hos]; rfl
  have hO2 : O[2]? = some (lg, Ls (great.map D.i)) := by rw [← hos]; rfl
  have hO3 : O[3]? = some (lu, Ls (b1.map D.i)) := by rw [← hos]; rfl
  clear hos
  refine Sm.assign (i := 6) (d := .s []) K rfl (by decide +kernel) (Ev.str rfl) (fun _ h => nomatch h) (fun _ h => nomatch h) ?_
  refine Sm.assign (i := 7) (d := .i 0) K rfl (by decide +kernel) Ev.int (fun _ h => nomatch h) (fun _ h => nomatch h) ?_
  refine Sm.while (fun n vs os => ∃ (k : Nat) (fo hi pa : Option D), n = word.length - (titer word ⟨0, seed, []⟩ k).pl ∧
      vs = typV word (titer word ⟨0, seed, []⟩ k).seed (some (.r lu)) (some (.r lg)) (some (.r lj)) (some (.r ll)) (some (.s (titer word ⟨0, seed, []⟩ k).typed)) (some (.i (titer word ⟨0, seed, []⟩ k).pl)) fo hi pa ∧
      os = O) word.length ⟨0, none, none, none, rfl, rfl, rfl⟩ ?_
  rintro n vs P ⟨k, fo, hi, pa, rfl, rfl, rfl⟩
  generalize hS : titer word ⟨0, seed, []⟩ k = S
  have facts := titer_facts word seed k
  rw [hS] at facts
  refine ⟨decide ((S.pl : Int) < word.length), Tr.cmp (Ev.var (i := 7) K rfl) (Ev.callB bLen (Avs.cons (Ev.var (i := 0) K rfl) Avs.nil) (Cb.len_str _ hz2).cr) (Op.lt _ _), fun h => ?_, fun h => ?_⟩
  · have hpl : S.pl < word.length := by have := of_decide_eq_true h; omega
    have hty : S.typed.length ≤ 200 := by omega
    have hpre : (tpre S).length ≤ 201 := by have := tpre_len S; omega
    have f0 : 0 ≤ tform S := Int.fmod_nonneg_of_pos _ (by decide)
    have f1 : tform S < 16 := Int.fmod_lt_of_pos _ (by decide)
    have h0 : 0 ≤ thid S := Int.fmod_nonneg_of_pos _ (by decide)
    have h1 : thid S < 28 := Int.fmod_lt_of_pos _ (by decide)
    refine Sm.unpack2 (i := 1) (j := 8) (d1 := .i (S.seed.fdiv 16)) (d2 := .i (tform S)) K hd0 rfl rfl (by decide +kernel) (by decide +kernel) (Ev.callB bDiv (Avs.cons (Ev.var (i := 1) K rfl) (Avs.cons Ev.int Avs.nil)) (Cb.divmod _ _ (by decide) (by decide +kernel)).cr) ?_
    refine Sm.unpack2 (i := 1) (j := 9) (d1 := .i (tseed S)) (d2 := .i (thid S)) K hd0 rfl rfl (by decide +kernel) (by decide +kernel) (Ev.callB bDiv (Avs.cons (Ev.var (i := 1) K rfl) (Avs.cons Ev.int Avs.nil)) (Cb.divmod _ _ (by decide) (by decide +kernel)).cr) ?_
    refine Sm.IfJ (typV word (tseed S) (some (.r lu)) (some (.r lg)) (some (.r lj)) (some (.r ll)) (some (.s (tpre S))) (some (.i S.pl)) (some (.i (tform S))) (some (.i (thid S))) pa) P (b := decide (0 < thid S)) (Tr.cmp (Ev.var (i := 9) K rfl) (Ev.int (n := 0)) (Op.gt _ _)) (fun h => ?_) (fun h => ?_) ?_
    · have hlt : 0 < thid S := of_decide_eq_true h
      have hb := b1_pos (thid S - 1).toNat (by omega)
      refine Sm.assign (i := 6) (d := .s (tpre S)) K rfl (by decide +kernel) ?_ (fun _ h => nomatch h) (fun _ h => nomatch h) (Sm.nil fun s F => F)
      unfold tpre
      rw [if_pos hlt]
      refine Ev.bin (Ev.var (i := 6) K rfl) (Ev.callB bChr (Avs.cons (Ev.item (d := .i (b1.getD (thid S - 1).toNat 0)) (Gv.lo (Ev.obj (i := 2) (j := 3) K rfl hO3)) (Ev.bin (Ev.var (i := 9) K rfl) Ev.int (Op.sub _ _)) (by omega) (by omega) (get_map _ _ ?_)) Avs.nil) (Cb.chr _ hb.1 (by omega)).cr) (Op.sadd _ _ (by simp; omega))
      show _ < 27
      omega
    · have hge : ¬ 0 < thid S := of_decide_eq_false h
      refine Sm.nil fun s F => ?_
      unfold tpre
      rw [if_neg hge]
      exact F
    refine Sm.assign (i := 10) (d := .s (tpair word S)) K rfl (by decide +kernel) (Ev.slice (Ev.var (i := 0) K rfl) (Evp.some (Ev.var (i := 7) K rfl)) (Evp.some (Ev.bin (Ev.var (i := 7) K rfl) (Ev.int (n := 2)) (Op.add _ _))) rfl rfl hz2) (fun _ h => nomatch h) (fun _ h => nomatch h) ?_
    have hlast : ∀ S', S' = tnext word S → ∀ (fo hi pa : Option D) s, Fm s₀ env (typV word S'.seed (some (.r lu)) (some (.r lg)) (some (.r lj)) (some (.r ll)) (some (.s S'.typed)) (some (.i S'.pl)) fo hi pa) P s →
        ∃ (m : Nat) (vs' : Vars) (os' : Objs), m < word.length - S.pl ∧ (∃ (k : Nat) (fo hi pa : Option D), m = word.length - (titer word ⟨0, seed, []⟩ k).pl ∧
      vs' = typV word (titer word ⟨0, seed, []⟩ k).seed (some (.r lu)) (some (.r lg)) (some (.r lj)) (some (.r ll)) (some (.s (titer word ⟨0, seed, []⟩ k).typed)) (some (.i (titer word ⟨0, seed, []⟩ k).pl)) fo hi pa ∧
      os' = P) ∧ Fm s₀ env vs' os' s := by
      rintro S' hS' fo hi pa s F
      have e : titer word ⟨0, seed, []⟩ (k + 1) = S' := by
        show (if (titer word ⟨0, seed, []⟩ k).pl < word.length then tnext word (titer word ⟨0, seed, []⟩ k) else titer word ⟨0, seed, []⟩ k) = S'
        rw [hS, if_pos hpl, hS']
      have := (tnext_len word S).2
      refine ⟨word.length - S'.pl, _, _, by rw [hS']; omega, ⟨k + 1, fo, hi, pa, by rw [e], rfl, rfl⟩, ?_⟩
      rw [e]; exact F
    have eTab : ∀ {vs : Vars}, Has vs 4 "joined" (.r lj) → ∀ {p}, Ev (model PW w) (A.deeper env) env (FH s₀ env vs P) (.Name "joined" p) (.r lj) := fun {vs} q {p} => Ev.var K q
    refine Sm.If (b := tlig word S) (Tr.and (Tr.chain (Ev.int (n := 11)) (Ev.var (i := 8) K rfl) (fun _ => Ev.int (n := 15)) (Op.lt _ _) (fun _ => Op.lt _ _)) (fun _ => Tr.inTab (Ev.var (i := 10) K rfl) (Ev.var (i := 4) K rfl) (FH.tab hO1 hlj))) (fun h => ?_) (fun h => ?_)
    · have hp : (atS joinT ⟨(tpair word S).toArray⟩).isSome = true := by unfold tlig at h; rw [Bool.and_eq_true] at h; exact h.2
      obtain ⟨j, hj⟩ := Option.isSome_iff_exists.mp hp
      have hjp := atS_pos _ join_pos hj
      refine Sm.assign (i := 6) (d := .s (tpre S ++ [j.toNat])) K rfl (by decide +kernel) ?_ (fun _ h => nomatch h) (fun _ h => nomatch h) ?_
      · exact Ev.bin (Ev.var (i := 6) K rfl) (Ev.callB bChr (Avs.cons (Ev.itemTab (Ev.var (i := 4) K rfl) (Ev.var (i := 10) K rfl) (FH.tab hO1 hlj) hj) Avs.nil) (Cb.chr _ hjp.1 (by omega)).cr) (Op.sadd _ _ (by simp; omega))
      refine Sm.assign (i := 7) (d := .i (S.pl + 2)) K rfl (by decide +kernel) (Ev.bin (Ev.var (i := 7) K rfl) (Ev.int (n := 2)) (Op.add _ _)) (fun _ h => nomatch h) (fun _ h => nomatch h) (Sm.end (Sm.nil fun s F => ?_))
      refine hlast ⟨S.pl + 2, tseed S, tpre S ++ [j.toNat]⟩ ?_ (some (.i (tform S))) (some (.i (thid S))) (some (.s (tpair word S))) s F
      unfold tnext
      rw [if_pos h, hj]; rfl
    · have hc : 97 ≤ word.getD S.pl 0 ∧ word.getD S.pl 0 ≤ 122 := by
        rw [List.getD_eq_getElem?_getD, List.getElem?_eq_getElem hpl]
        exact hw _ (List.getElem_mem hpl)
      have eW : ∀ {u g jo al ty fo hi pa os p1 p2 p3 sd}, Ev (model PW w) (A.deeper env) env (FH s₀ env (typV word sd u g jo al ty (some (.i S.pl)) fo hi pa) os) (.Subscript (.Name "word" p1) (.Name "at" p2) p3) (.s [word.getD S.pl 0]) := fun {u g jo al ty fo hi pa os p1 p2 p3 sd} =>
        Ev.sign (Ev.var (i := 0) K rfl) (Ev.var (i := 7) K rfl) (by omega) (by omega) (sign_front word S.pl hpl)
      refine Sm.IfJ (typV word (tseed S) (some (.r lu)) (some (.r lg)) (some (.r lj)) (some (.r ll)) (some (.s (tpre S ++ [tlet word S]))) (some (.i S.pl)) (some (.i (tform S))) (some (.i (thid S))) (some (.s (tpair word S)))) P (b := tplain S) (Tr.chain (Ev.int (n := 0)) (Ev.var (i := 8) K rfl) (fun _ => Ev.int (n := 12)) (Op.lt _ _) (fun _ => Op.lt _ _)) (fun h => ?_) (fun h => ?_) ?_
      · have hf : 0 < tform S ∧ tform S < 12 := by unfold tplain at h; rw [Bool.and_eq_true, decide_eq_true_eq, decide_eq_true_eq] at h; exact h
        have hg := great_pos (tform S - 1).toNat (by omega)
        refine Sm.assign (i := 6) (d := .s (tpre S ++ [tlet word S])) K rfl (by decide +kernel) (Ev.bin (Ev.var (i := 6) K rfl) ?_ (Op.sadd _ _ (by simp; omega))) (fun _ h => nomatch h) (fun _ h => nomatch h) (Sm.nil fun s F => F)
        refine Gv.cast (Ev.callB bChr (Avs.cons (Ev.bin (Ev.bin (Ev.item (d := .i (great.getD (tform S - 1).toNat 0)) (Gv.lo (Ev.obj (i := 3) (j := 2) K rfl hO2)) (Ev.bin (Ev.var (i := 8) K rfl) Ev.int (Op.sub _ _)) (by omega) (by omega) (get_map _ _ ?_)) (Ev.callB bOrd (Avs.cons eW Avs.nil) (Cb.ord _).cr) (Op.add _ _)) (Ev.int (n := 97)) (Op.sub _ _)) Avs.nil) (Cb.chr _ (by omega) (by omega)).cr) ?_
        · show _ < 11
          omega
        · unfold tlet; rw [if_pos h]
      · refine Sm.assign (i := 6) (d := .s (tpre S ++ [tlet word S])) K rfl (by decide +kernel) (Ev.bin (Ev.var (i := 6) K rfl) ?_ (Op.sadd _ _ (by simp; omega))) (fun _ h => nomatch h) (fun _ h => nomatch h) (Sm.nil fun s F => F)
        refine Ev.ite (b := tlike word S) (Tr.and (Tr.cmp (Ev.var (i := 8) K rfl) (Ev.int (n := 15)) (Op.eq _ _)) (fun _ => Tr.inTab eW (Ev.var (i := 5) K rfl) (FH.tab hO0 hll))) (fun h2 => ?_) (fun h2 => ?_)
        · have hp : (atS likeT ⟨[word.getD S.pl 0].toArray⟩).isSome = true := by unfold tlike at h2; rw [Bool.and_eq_true] at h2; exact h2.2
          obtain ⟨j, hj⟩ := Option.isSome_iff_exists.mp hp
          have hjp := atS_pos _ like_pos hj
          refine Gv.cast (Ev.callB bChr (Avs.cons (Ev.itemTab (Ev.var (i := 5) K rfl) eW (FH.tab hO0 hll) hj) Avs.nil) (Cb.chr _ hjp.1 (by omega)).cr) ?_
          unfold tlet; rw [if_neg (by rw [h]; decide), if_pos h2, hj]; rfl
        · refine eW.cast ?_
          unfold tlet; rw [if_neg (by rw [h]; decide), if_neg (by rw [h2]; decide)]
      refine Sm.assign (i := 7) (d := .i (S.pl + 1)) K rfl (by decide +kernel) (Ev.bin (Ev.var (i := 7) K rfl) (Ev.int (n := 1)) (Op.add _ _)) (fun _ h => nomatch h) (fun _ h => nomatch h) (Sm.end (Sm.nil fun s F => ?_))
      refine hlast ⟨S.pl + 1, tseed S, tpre S ++ [tlet word S]⟩ ?_ (some (.i (tform S))) (some (.i (thid S))) (some (.s (tpair word S))) s F
      unfold tnext
      rw [if_neg (by rw [h]; decide)]
  · have hge : word.length ≤ S.pl := by have := of_decide_eq_false h; omega
    refine Sm.Ret (Ev.var (i := 6) K rfl) fun v s' g n => ⟨?_, n⟩
    have e : (titer word ⟨0, seed, []⟩ word.length) = S := by
      have a1 := titer_stay word ⟨0, seed, []⟩ k (by rw [hS]; exact hge) word.length
      have a2 := titer_stay word ⟨0, seed, []⟩ word.length (by exact (titer_facts word seed word.length).2.elim id id) k
      rw [Nat.add_comm] at a2
      rw [← a2, a1, hS]
    unfold typedL
    rw [e]
    exact g
end Mine

open PySem PySem.W PyProof.Rows
namespace Mine
set_option Elab.async false
set_option maxRecDepth 100000
set_option linter.unusedVariables false

section
variable {M : Model} {A : Around} {R : GenEnd} {Y : Protocol} {n : Nat} {s₀ : Shared} {c : Code} {fs : List Frame} {s : Shared} {env : Env}
  {K : Flow → Sem Fin} {H : Value → Sem Fin} {gd : Bool → Bool} {lv : List Value → List Value}

/- a statement that does not yield -/
theorem seg_stmt {st : Stmt} {rest : List Stmt}
    (h : wpAny M (A.over c fs) (exec st env) (fun f s' => match f with
        | .next => Seg M A R Y n s₀ c ((execs rest env).wrap K H gd lv) fs s'
        | f => Seg M A R Y n s₀ c (K f) fs s') (fun x s' => Seg M A R Y n s₀ c (H x) fs s') s) :
    Seg M A R Y n s₀ c ((execs (st :: rest) env).wrap K H gd lv) fs s :=
  seg_execs_cons (seg_wrap (wpAny_mono h (fun f s' h' => by cases f <;> exact h') fun _ _ h' => h'))

theorem seg_If {test : PySem.Expr} {body orelse : List Stmt} {pos : Pos}
    (h : wpAny M (A.over c fs) (isTrue test env (eval test env)) (fun b s' => if b = true then Seg M A R Y n s₀ c ((execs body env).wrap K H gd lv) fs s' else Seg M A R Y n s₀ c ((execs orelse env).wrap K H gd lv) fs s')
      (fun x s' => Seg M A R Y n s₀ c (H x) fs s') s) :
    Seg M A R Y n s₀ c ((exec (.If test body orelse pos) env).wrap K H gd lv) fs s := by
  rw [exec_If]
  show Seg M A R Y n s₀ c (.at pos fun _ => ((isTrue test env (eval test env) >>= fun b => if b = true then execs body env else execs orelse env)).wrap K H gd lv) fs s
  refine seg_at ?_
  rw [Sem.bind_eq_wrap', Sem.wrap_wrap]
  refine seg_wrap (wpAny_mono h (fun b s' h' => ?_) fun _ _ h' => h')
  cases b with
  | true => exact h'
  | false => exact h'

theorem seg_For {target iter : PySem.Expr} {body orelse : List Stmt} {pos : Pos}
    (h : wpAny M (A.over c fs) (eval iter env) (fun x s₁ => wpAny M (A.over c fs) (pyIter x) (fun it s₂ =>
      ∀ p, Seg M A R Y n s₀ (.forLoop target it body orelse env) (M.den (.forLoop target it body orelse env))
      (.ret (fun r => ((match r with | .ok f => (.pure f : Sem Flow) | .error e => .raise e).onRaise fun (x : Value) => do
        if (← field x 1) == Value.none then unsupported "frame.own-activation:exception-without-traceback"
        setFlight x env.frame).wrap K H gd lv) none (gd false) (lv []) c p [] :: fs) s₂) (fun x s' => Seg M A R Y n s₀ c (H x) fs s') s₁) (fun x s' => Seg M A R Y n s₀ c (H x) fs s') s)
    (hs : ∀ x, foldedSetIterable iter env x = pure x := by intro _; rfl) :
    Seg M A R Y n s₀ c ((exec (.For target iter body orelse pos) env).wrap K H gd lv) fs s := by
  rw [exec_For]
  show Seg M A R Y n s₀ c (.at pos fun _ => ((eval iter env >>= fun v => (foldedSetIterable iter env v >>= fun x => (standAt iter.pos >>= fun _ => (holding [x] (pyIter x) >>= fun it => runOwn (.forLoop target it body orelse env) env))))).wrap K H gd lv) fs s
  refine seg_at ?_
  rw [Sem.bind_eq_wrap', Sem.wrap_wrap]
  refine seg_wrap (wpAny_mono h (fun v s₁ h₁ => ?_) fun _ _ h' => h')
  rw [hs v]
  show Seg M A R Y n s₀ c (.at iter.pos fun _ => ((holding [v] (pyIter v) >>= fun it => runOwn (.forLoop target it body orelse env) env)).wrap K H gd lv) fs s₁
  refine seg_at ?_
  rw [Sem.bind_eq_wrap', Sem.wrap_wrap]
  refine seg_wrap (wpAny_holding (wpAny_mono h₁ (fun it s₂ h₂ => ?_) fun _ _ h' => h'))
  exact seg_call h₂

theorem seg_ret_none {pos : Pos} {rest : List Stmt} (h : Seg M A R Y n s₀ c (K (.ret .none)) fs s) : Seg M A R Y n s₀ c ((execs (.Return Option.none pos :: rest) env).wrap K H gd lv) fs s :=
  seg_stmt (wpAny_Return_none h)
end

/- what a loop's turn does at its body's end -/
noncomputable def forEnd (c : Code) : Flow → Sem Fin
  | .next | .cont => .pure (.again c)
  | .brk => .pure (.done .next)
  | .ret v => .pure (.done (.ret v))
noncomputable def noteH (env : Env) : Value → Sem Fin := fun e => (do noteFrame e env; theTreesLotGoes e : Sem Unit).wrap (fun _ => .raise e) .raise id id

section
variable {prog : Program} {w : World} {A : Around} {R : GenEnd} {Y : Protocol} {n : Nat} {s₀ : Shared} {fs : List Frame} {s : Shared} {env : Env}

theorem seg_forLoop {target : PySem.Expr} {it : Value} {body orelse : List Stmt}
    (h : wpAny (model prog w) (A.over (.forLoop target it body orelse env) fs) (pyNext it) (fun r s' => match r with
      | Option.none => Seg (model prog w) A R Y n s₀ (.block orelse env) ((model prog w).den (.block orelse env)) fs s'
      | some v => wpAny (model prog w) (A.over (.forLoop target it body orelse env) fs) (letOwnedTupleGo target it v) (fun _ s₁ =>
          wpAny (model prog w) (A.over (.forLoop target it body orelse env) fs) (PySem.assign target env v) (fun _ s₂ =>
            Seg (model prog w) A R Y n s₀ (.forLoop target it body orelse env) ((execs body env).wrap (forEnd (.forLoop target it body orelse env)) (noteH env) id id) fs s₂)
            (fun x s' => Seg (model prog w) A R Y n s₀ (.forLoop target it body orelse env) (noteH env x) fs s') s₁)
          (fun x s' => Seg (model prog w) A R Y n s₀ (.forLoop target it body orelse env) (noteH env x) fs s') s')
      (fun x s' => Seg (model prog w) A R Y n s₀ (.forLoop target it body orelse env) (noteH env x) fs s') s) :
    Seg (model prog w) A R Y n s₀ (.forLoop target it body orelse env) ((model prog w).den (.forLoop target it body orelse env)) fs s := by
  show Seg _ A R Y n s₀ _ ((forTurn target it body orelse env).onRaise (fun x => do noteFrame x env; theTreesLotGoes x)) fs s
  have hH : ∀ e, ((do noteFrame e env; theTreesLotGoes e : Sem Unit).bind fun _ => (Sem.raise e : Sem Fin)) = noteH env e := fun e => Sem.bind_eq_wrap _ _
  unfold forTurn
  rw [Sem.onRaise_eq_wrap]
  show Seg _ A R Y n s₀ _ (.at target.pos fun _ => (((pyNext it).onRaise (fun _ => standAt { target.pos with line := 0 }) >>= fun r => (match r with
      | Option.none => again (.block orelse env)
      | some v => (letOwnedTupleGo target it v >>= fun _ => PySem.assign target env v >>= fun _ => execs body env >>= fun f => (match f with
          | .next | .cont => again (.forLoop target it body orelse env)
          | .brk => (pure (.done .next) : Sem Fin)
          | .ret v => pure (.done (.ret v)))))).wrap .pure _ id id)) fs s
  refine seg_at ?_
  rw [Sem.bind_eq_wrap', Sem.wrap_wrap]
  refine seg_wrap (wpAny_onRaise (wpAny_mono h (fun r s' h' => ?_) fun x s' h' => wpAny_standAt (by
    show Seg _ A R Y n s₀ _ (((do noteFrame x env; theTreesLotGoes x : Sem Unit).bind fun _ => (Sem.raise x : Sem Fin))) fs s'
    rw [hH]; exact h')))
  cases r with
  | none => exact seg_again (by rfl) h'
  | some v =>
    show Seg _ A R Y n s₀ _ (Sem.wrap _ _ _ _ (letOwnedTupleGo target it v >>= fun _ => _)) fs s'
    rw [Sem.bind_eq_wrap', Sem.wrap_wrap]
    refine seg_wrap (wpAny_mono h' (fun _ s₁ h₁ => ?_) fun x s' h' => by
      show Seg _ A R Y n s₀ _ (((do noteFrame x env; theTreesLotGoes x : Sem Unit).bind fun _ => (Sem.raise x : Sem Fin))) fs s'
      rw [hH]; exact h')
    rw [Sem.bind_eq_wrap', Sem.wrap_wrap]
    refine seg_wrap (wpAny_mono h₁ (fun _ s₂ h₂ => ?_) fun x s' h' => by
      show Seg _ A R Y n s₀ _ (((do noteFrame x env; theTreesLotGoes x : Sem Unit).bind fun _ => (Sem.raise x : Sem Fin))) fs s'
      rw [hH]; exact h')
    rw [Sem.bind_eq_wrap', Sem.wrap_wrap]
    refine Eq.mpr (congrArg (fun t => Seg (model prog w) A R Y n s₀ (.forLoop target it body orelse env) t fs s₂) (Sem.wrap_congr (execs body env) _ _ (fun f => ?_) (fun e => ?_))) h₂
    · cases f <;> rfl
    · exact hH e

theorem seg_block_nil (h : Seg (model prog w) A R Y n s₀ (.block [] env) (leafOf (.ok .next)) fs s) : Seg (model prog w) A R Y n s₀ (.block [] env) ((model prog w).den (.block [] env)) fs s := h
end
end Mine

open PySem PySem.W PyProof.Rows
namespace Mine
set_option Elab.async false
set_option maxRecDepth 100000
set_option linter.unusedVariables false

/- a heap without an address -/
noncomputable def wo (h : Heap) (a : Addr) : Heap := h.update a fun o => { o with data := .freed }
theorem wo_other (h : Heap) {a b : Addr} (hb : b ≠ a) : (wo h a).get? b = h.get? b := Heap.get?_update_other h _ (Ne.symm hb)
theorem wo_self (h : Heap) (a : Addr) : (wo h a).get? a = none := by
  unfold wo
  cases h with | mk objs life =>
  simp only [Heap.update, Heap.get?, Array.getElem?_modify]
  cases objs[a]? with
  | none => rfl
  | some o => rfl
noncomputable def woAll (h : Heap) : List Addr → Heap
  | [] => h
  | a :: as => wo (woAll h as) a
theorem woAll_other (h : Heap) {b : Addr} : ∀ {as : List Addr}, b ∉ as → (woAll h as).get? b = h.get? b
  | [], _ => rfl
  | a :: as, hb => (wo_other _ (fun e => hb (by simp [e]))).trans (woAll_other h fun e => hb (by simp [e]))
theorem woAll_self (h : Heap) {b : Addr} : ∀ {as : List Addr}, b ∈ as → (woAll h as).get? b = none
  | a :: as, hb => by
    by_cases e : b = a
    · subst e; exact wo_self _ _
    · exact (wo_other _ e).trans (woAll_self h ((List.mem_cons.mp hb).resolve_left e))
theorem woAll_some {h : Heap} {b : Addr} {o : Obj} {as : List Addr} (e : (woAll h as).get? b = some o) : b ∉ as ∧ h.get? b = some o := by
  by_cases hb : b ∈ as
  · rw [woAll_self h hb] at e; cases e
  · exact ⟨hb, (woAll_other h hb).symm.trans e⟩

/- a frame's own part -/
structure Own (env : Env) (vs : Vars) (os : Objs) (s : Shared) : Prop where
  ns : ∃ m, s.heap.Ns env.locals m
  var : ∀ (i : Nat) (x : Str) (d : D), vs[i]? = some (x, some d) → Var env s x d
  own : ∀ p ∈ os, p.1 ≠ env.locals ∧ ∃ o, s.heap.get? p.1 = some o ∧ p.2 o
  nodup : (os.map (·.1)).Nodup
  names : (vs.map (·.1)).Nodup

theorem Fm.mine {s₀ s : Shared} {env : Env} {vs : Vars} {os : Objs} (F : Fm s₀ env vs os s) : Own env vs os s :=
  ⟨F.ns, F.var, fun p hp => let ⟨h1, _, _, h4⟩ := F.own p hp; ⟨h1, h4⟩, F.nodup, F.names⟩

/- the base of a frame that starts anew -/
noncomputable def base (env : Env) (os : Objs) (s : Shared) : Shared := { s with heap := woAll s.heap (env.locals :: os.map (·.1)) }

theorem Own.fm {s : Shared} {env : Env} {vs : Vars} {os : Objs} (O : Own env vs os s) (hc : env.cells = []) : Fm (base env os s) env vs os s where
  nx := ⟨fun b o e => (woAll_some e).2, rfl, fun _ _ e => e, fun e => e⟩
  fresh := woAll_self _ List.mem_cons_self
  ns := O.ns
  var := O.var
  cells := fun x c h => by rw [hc] at h; cases h
  apart := fun x y c h => by rw [hc] at h; cases h
  own := fun p hp => let ⟨h1, h4⟩ := O.own p hp; ⟨h1, (fun x c h => by rw [hc] at h; cases h), woAll_self _ (List.mem_cons_of_mem _ (List.mem_map_of_mem (f := (·.1)) hp)), h4⟩
  nodup := O.nodup
  names := O.names

theorem Own.keep {s s' : Shared} {env : Env} {vs : Vars} {os : Objs} (O : Own env vs os s) (hc : env.cells = []) (k : ∀ b, b ∈ env.locals :: os.map (·.1) → ∀ o, s.heap.get? b = some o → s'.heap.get? b = some o) : Own env vs os s' where
  ns := let ⟨m, o, es, ep, x, r⟩ := O.ns; ⟨m, o, es, ep, k _ List.mem_cons_self o x, r⟩
  var := fun i x d h => by
    rcases O.var i x d h with ⟨hk, m, v, ⟨o, es, ep, x, r⟩, h2, h3⟩ | ⟨hk, c, v, h1, h2, h3⟩
    · exact .inl ⟨hk, m, v, ⟨o, es, ep, k _ List.mem_cons_self o x, r⟩, h2, h3⟩
    · rw [hc] at h1; cases h1
  own := fun p hp => let ⟨h1, o, h4, h5⟩ := O.own p hp; ⟨h1, o, k _ (List.mem_cons_of_mem _ (List.mem_map_of_mem (f := (·.1)) hp)) o h4, h5⟩
  nodup := O.nodup
  names := O.names

/- a turn: all but two addresses stands -/
structure Tn (as : List Addr) (s s' : Shared) : Prop where
  up : ∀ b o, b ∉ as → s.heap.get? b = some o → s'.heap.get? b = some o
  os : s'.os = s.os
  gens : ∀ (i : Nat) g, s.gens[i]? = some g → s'.gens[i]? = some g
  bare : AllBare s.gens → AllBare s'.gens
theorem Tn.refl (as : List Addr) (s : Shared) : Tn as s s := ⟨fun _ _ _ e => e, rfl, fun _ _ e => e, fun e => e⟩
theorem Tn.trans {as : List Addr} {a b c : Shared} (x : Tn as a b) (y : Tn as b c) : Tn as a c := ⟨fun _ _ h e => y.up _ _ h (x.up _ _ h e), y.os.trans x.os, fun _ _ e => y.gens _ _ (x.gens _ _ e), fun e => y.bare (x.bare e)⟩
theorem Fm.tn {s s' : Shared} {env : Env} {vs : Vars} {os os' : Objs} (F : Fm (base env os s) env vs os' s') : Tn (env.locals :: os.map (·.1)) s s' :=
  ⟨fun b o hb e => F.nx.up b o ((woAll_other _ hb).trans e), F.nx.os, F.nx.gens, F.nx.bare⟩
/- how many items stand ahead of the first nought or 127 -/
noncomputable def lead (row : List Int) : Nat := (row.takeWhile fun x => x != 0 && x != 127).length
/- what the generator tells -/
noncomputable def told (row : List Int) (j : Nat) : Option Int := if j < lead row then row[j]? else if row[lead row]? = some 0 then row[lead row - 1]? else none

theorem lead_le (row : List Int) : lead row ≤ row.length := by unfold lead; exact (List.takeWhile_sublist _).length_le
theorem lead_before {row : List Int} {j : Nat} (h : j < lead row) : ∃ x, row[j]? = some x ∧ x ≠ 0 ∧ x ≠ 127 := by
  unfold lead at h
  have h2 := List.getElem_mem h
  have hsub : (row.takeWhile fun x => x != 0 && x != 127)[j]? = row[j]? := by
    rw [← List.takeWhile_append_dropWhile (p := fun x => x != 0 && x != 127) (l := row)]
    conv => rhs; rw [List.getElem?_append_left h]
    simp
  refine ⟨_, hsub.symm.trans (List.getElem?_eq_getElem h), ?_⟩
  have := List.all_eq_true.mp (List.all_takeWhile (p := fun x : Int => x != 0 && x != 127) (l := row)) _ h2
  simpa using this
theorem lead_at {row : List Int} {x : Int} (h : row[lead row]? = some x) : x = 0 ∨ x = 127 := by
  unfold lead at h
  have e : row[(row.takeWhile fun x => x != 0 && x != 127).length]? = (row.dropWhile fun x => x != 0 && x != 127)[0]? := by
    conv => lhs; rw [← List.takeWhile_append_dropWhile (p := fun x => x != 0 && x != 127) (l := row)]
    rw [List.takeWhile_append_dropWhile]
    conv => lhs; arg 1; rw [← List.takeWhile_append_dropWhile (p := fun x => x != 0 && x != 127) (l := row)]
    rw [List.getElem?_append_right (Nat.le_refl _), Nat.sub_self]
  rw [e] at h
  have h3 := List.head?_dropWhile_not (fun x : Int => x != 0 && x != 127) row
  rw [List.head?_eq_getElem?, h] at h3
  simpa [Classical.or_iff_not_imp_left] using h3
end Mine

open PySem PySem.W PyProof.Rows
namespace Mine
set_option Elab.async false
set_option maxRecDepth 100000
set_option linter.unusedVariables false
set_option maxHeartbeats 1000000

theorem grp_body : ∃ (p0 p1 p2 p3 p4 p5 p6 p7 p8 p9 p10 p11 p12 p13 p14 p15 p16 p17 p18 p19 p20 p21 p22 p23 p24 p25 p26 p27 p28 p29 p30 p31 p32 p33 : Pos) (c0 c1 c2 c3 c4 : Nat), dGrp.body =
  [.Assign [.Name "last_interval" p0] (.Constant .none c0 p1) p2,
   .For (.Name "interval" p3) (.Name "grouping" p4)
    [.If (.Compare (.Name "interval" p5) [.Eq] [.Name "CHAR_MAX" p6] p7) [.Return Option.none p8] [] p9,
     .If (.Compare (.Name "interval" p10) [.Eq] [.Constant (.int 0) c1 p11] p12)
       [.If (.Compare (.Name "last_interval" p13) [.Is] [.Constant .none c2 p14] p15)
          [.Raise (some (.Call (.Name "ValueError" p16) [.Constant (.str "invalid grouping") c3 p17] [] p18)) Option.none p19] [] p20,
        .While (.Constant (.bool true) c4 p21) [.Expr (.Yield (some (.Name "last_interval" p22)) p23) p24] [] p25] [] p26,
     .Expr (.Yield (some (.Name "interval" p27)) p28) p29,
     .Assign [.Name "last_interval" p30] (.Name "interval" p31) p32] [] p33] := by
  with_unfolding_all exact ⟨_, _, _, _, _, _, _, _, _, _, _, _, _, _, _, _, _, _, _, _, _, _, _, _, _, _, _, _, _, _, _, _, _, _, _, _, _, _, _, rfl⟩

noncomputable def FB (p : Nat → Pos) (c : Nat → Nat) : List Stmt :=
    [.If (.Compare (.Name "interval" (p 5)) [.Eq] [.Name "CHAR_MAX" (p 6)] (p 7)) [.Return Option.none (p 8)] [] (p 9),
     .If (.Compare (.Name "interval" (p 10)) [.Eq] [.Constant (.int 0) (c 1) (p 11)] (p 12))
       [.If (.Compare (.Name "last_interval" (p 13)) [.Is] [.Constant .none (c 2) (p 14)] (p 15))
          [.Raise (some (.Call (.Name "ValueError" (p 16)) [.Constant (.str "invalid grouping") (c 3) (p 17)] [] (p 18))) Option.none (p 19)] [] (p 20),
        .While (.Constant (.bool true) (c 4) (p 21)) [.Expr (.Yield (some (.Name "last_interval" (p 22))) (p 23)) (p 24)] [] (p 25)] [] (p 26),
     .Expr (.Yield (some (.Name "interval" (p 27))) (p 28)) (p 29),
     .Assign [.Name "last_interval" (p 30)] (.Name "interval" (p 31)) (p 32)]
theorem grp_is : ∃ (p : Nat → Pos) (c : Nat → Nat), dGrp.body = [.Assign [.Name "last_interval" (p 0)] (.Constant .none (c 0) (p 1)) (p 2), .For (.Name "interval" (p 3)) (.Name "grouping" (p 4)) (FB p c) [] (p 33)] := by
  obtain ⟨p0, p1, p2, p3, p4, p5, p6, p7, p8, p9, p10, p11, p12, p13, p14, p15, p16, p17, p18, p19, p20, p21, p22, p23, p24, p25, p26, p27, p28, p29, p30, p31, p32, p33, c0, c1, c2, c3, c4, h⟩ := grp_body
  exact ⟨fun i => [p0, p1, p2, p3, p4, p5, p6, p7, p8, p9, p10, p11, p12, p13, p14, p15, p16, p17, p18, p19, p20, p21, p22, p23, p24, p25, p26, p27, p28, p29, p30, p31, p32, p33].getD i default, fun i => [c0, c1, c2, c3, c4].getD i 0, h⟩

noncomputable def grpXs : List Str := ["grouping", "last_interval", "interval"]
noncomputable def gv (l : Addr) (la iv : Option D) : Vars := [("grouping", some (.r l)), ("last_interval", la), ("interval", iv)]
noncomputable def itT (l : Addr) (i : Nat) : Obj → Prop := fun o => o.cls = .type "list_iterator" ∧ o.data = .fields #[.ref l, .int i 0]
noncomputable def lastD (row : List Int) (i : Nat) : D := if i = 0 then .n else .i (row.getD (i - 1) 0)

/- the generator's frame -/
structure GE (env : Env) : Prop where
  sc : env.scope = dGrp.scope
  ok : Ok env grpXs
  cells : env.cells = []
/- what stands all along -/
structure GS (w : World) (mg mb : Str → Option Value) (N : Nat) (S0 : Shared) (env : Env) (l I : Addr) (row : List Int) : Prop where
  gl : G w mg mb N S0.heap
  hl : ∃ o, S0.heap.get? l = some o ∧ Lo (row.map D.i) o
  hL : S0.heap.get? env.locals = none
  hI : S0.heap.get? I = none

noncomputable abbrev Up (S0 s : Shared) : Prop := ∀ b o, S0.heap.get? b = some o → s.heap.get? b = some o

noncomputable def gR (env : Env) (I : Addr) (row : List Int) (N0 : Nat) : GenEnd := fun k s₀ r s₁ => r = .ok (.ret .none) ∧ told row (N0 - k) = none ∧ Tn [env.locals, I] s₀ s₁
noncomputable def gY (S0 : Shared) (env : Env) (I : Addr) (row : List Int) (N0 : Nat) : Protocol := fun k s₀ v s₁ kap => ∃ x t, v = .int x t ∧ told row (N0 - 1 - k) = some x ∧ Tn [env.locals, I] s₀ s₁ ∧
  ∃ oL oI, s₁.heap.get? env.locals = some oL ∧ s₁.heap.get? I = some oI ∧ (0 < k → ∀ s'', s''.heap.get? env.locals = some oL → s''.heap.get? I = some oI → Up S0 s'' → kap (.send .none) s'')

noncomputable def K0 : Flow → Sem Fin := fun f => .pure (.done (.ret (match f with | .ret v => v | _ => .none)))
noncomputable def H0 (env : Env) : Value → Sem Fin := fun e => (leaving env e).wrap (fun _ => .raise e) .raise id id
noncomputable def K1 (env : Env) : Flow → Sem Fin := fun f => match f with | .next => (execs [] env).wrap K0 (H0 env) id id | f => K0 f
noncomputable def back (env : Env) : Value → Sem Unit := fun x => do
  if (← field x 1) == Value.none then unsupported "frame.own-activation:exception-without-traceback"
  setFlight x env.frame
noncomputable def retF (env : Env) (K : Flow → Sem Fin) (H : Value → Sem Fin) (c : Code) (p : Pos) : Frame :=
  .ret (fun r => ((match r with | .ok f => (.pure f : Sem Flow) | .error e => .raise e).onRaise (back env)).wrap K H id id) Option.none false [] c p []

section
variable {w : World} {mg mb : Str → Option Value} {N : Nat} {A : Around} {S0 : Shared} {env : Env} {l I : Addr} {row : List Int} {N0 : Nat}

theorem GS.up {s : Shared} {os : Objs} (Z : GS w mg mb N S0 env l I row) (u : Up S0 s) (ho : os.map (·.1) = [I]) : Up S0 (base env os s) := fun b o e => by
  refine (woAll_other _ ?_).trans (u b o e)
  rw [ho]
  intro h
  rcases List.mem_cons.mp h with rfl | h
  · rw [Z.hL] at e; cases e
  · rcases List.mem_cons.mp h with rfl | h
    · rw [Z.hI] at e; cases e
    · cases h

/- the pause within the endless loop, and every later turn -/
theorem while_turn (hZ : GS w mg mb N S0 env l I row) (hE : GE env) {c4 : Nat} {p21 p22 p23 p24 : Pos} {fs : List Frame} (hfs : splitAtGen fs = none) (hfg : fs.any Frame.guarded = false)
    (h0 : row[lead row]? = some 0) (hp : lead row ≠ 0) : ∀ (n j : Nat) (s₀ s : Shared) (iv : Option D) (T : Obj → Prop), N0 = n + 1 + j → lead row ≤ j → Up S0 s → Own env (gv l (some (.i (row.getD (lead row - 1) 0))) iv) [(I, T)] s → Tn [env.locals, I] s₀ s →
    Seg (model PW w) A (gR env I row N0) (gY S0 env I row N0) (n + 1) s₀ (.whileLoop (.Constant (.bool true) c4 p21) [.Expr (.Yield (some (.Name "last_interval" p22)) p23) p24] [] env)
      ((model PW w).den (.whileLoop (.Constant (.bool true) c4 p21) [.Expr (.Yield (some (.Name "last_interval" p22)) p23) p24] [] env)) fs s := by
  intro n
  induction n with
  | zero =>
    intro j s₀ s iv T hN hj hu O ht
    have F := O.fm hE.cells
    refine seg_whileLoop ((Tr.val (H := FH (base env [(I, T)] s) env _ _) (b := true) Ev.bool (Truth.bool _)).run s F _ _ fun s1 n1 F1 => ?_)
    rw [if_pos rfl]
    refine seg_execs_cons (seg_Expr_Yield hfs rfl hfg ((Ev.var (i := 1) hE.ok rfl).run s1 F1 _ _ fun v s2 g n2 F2 kap hkap => ?_) (by rw [hE.sc]; kernel_rfl) (by unfold interactive; rw [hE.ok.fn]; rfl))
    obtain ⟨t, rfl⟩ := g
    have F2' : Fm (base env [(I, T)] s) env _ _ s2 := F2
    have tn := ht.trans F2'.tn
    obtain ⟨m, oL, es, ep, hoL, r⟩ := F2'.ns
    obtain ⟨_, _, _, oI, hoI, hT⟩ := F2'.own _ List.mem_cons_self
    refine ⟨_, t, rfl, ?_, tn, oL, oI, hoL, hoI, fun h => absurd h (Nat.lt_irrefl _)⟩
    unfold told
    rw [if_neg (by omega), if_pos h0]
    have : lead row - 1 < row.length := by have := lead_le row; omega
    rw [List.getElem?_eq_getElem this, List.getD_eq_getElem?_getD, List.getElem?_eq_getElem this]; rfl
  | succ n ih =>
    intro j s₀ s iv T hN hj hu O ht
    have F := O.fm hE.cells
    refine seg_whileLoop ((Tr.val (H := FH (base env [(I, T)] s) env _ _) (b := true) Ev.bool (Truth.bool _)).run s F _ _ fun s1 n1 F1 => ?_)
    rw [if_pos rfl]
    refine seg_execs_cons (seg_Expr_Yield hfs rfl hfg ((Ev.var (i := 1) hE.ok rfl).run s1 F1 _ _ fun v s2 g n2 F2 kap hkap => ?_) (by rw [hE.sc]; kernel_rfl) (by unfold interactive; rw [hE.ok.fn]; rfl))
    obtain ⟨t, rfl⟩ := g
    have F2' : Fm (base env [(I, T)] s) env _ _ s2 := F2
    have tn := ht.trans F2'.tn
    obtain ⟨m, oL, es, ep, hoL, r⟩ := F2'.ns
    obtain ⟨_, _, _, oI, hoI, hT⟩ := F2'.own _ List.mem_cons_self
    refine ⟨_, t, rfl, ?_, tn, oL, oI, hoL, hoI, fun _ s'' hL hI hu'' => hkap _ _ ?_⟩
    · unfold told
      rw [if_neg (by omega), if_pos h0]
      have : lead row - 1 < row.length := by have := lead_le row; omega
      rw [List.getElem?_eq_getElem this, List.getD_eq_getElem?_getD, List.getElem?_eq_getElem this]; rfl
    · show Seg _ A _ _ (n + 1) s'' _ ((execs [] env).wrap _ _ _ _) fs s''
      refine seg_execs_nil (seg_again (by rfl) ?_)
      refine ih (j + 1) s'' s'' iv T (by omega) (by omega) hu'' ?_ (Tn.refl _ _)
      refine F2'.mine.keep hE.cells fun b hb o e => ?_
      rcases List.mem_cons.mp hb with rfl | hb
      · rw [hoL] at e; cases e; exact hL
      · rcases List.mem_cons.mp hb with rfl | hb
        · rw [hoI] at e; cases e; exact hI
        · cases hb
end
end Mine

open PySem PySem.W PyProof.Rows
namespace Mine
set_option Elab.async false
set_option maxRecDepth 100000
set_option linter.unusedVariables false
set_option maxHeartbeats 1000000

section
variable {w : World} {mg mb : Str → Option Value} {N : Nat} {A : Around} {S0 : Shared} {env : Env} {l I : Addr} {row : List Int} {N0 : Nat}

theorem get_row {row : List Int} {i : Nat} (h : i < row.length) : row[i]? = some (row.getD i 0) := by rw [List.getElem?_eq_getElem h, List.getD_eq_getElem?_getD, List.getElem?_eq_getElem h]; rfl

/- a turn of the loop over the row -/
theorem for_turn (hZ : GS w mg mb N S0 env l I row) (hE : GE env) (hh : A.handled = none) (hrow : row[0]? ≠ some 0) (P : Nat → Pos) (C : Nat → Nat) (pF : Pos) :
    ∀ (n i : Nat) (s₀ s : Shared) (iv : Option D), N0 = n + 1 + i → i ≤ lead row → Up S0 s → Own env (gv l (some (lastD row i)) iv) [(I, itT l i)] s → Tn [env.locals, I] s₀ s →
    Seg (model PW w) A (gR env I row N0) (gY S0 env I row N0) (n + 1) s₀ (.forLoop (.Name "interval" (P 3)) (.ref I) (FB P C) [] env)
      ((model PW w).den (.forLoop (.Name "interval" (P 3)) (.ref I) (FB P C) [] env)) [retF env (K1 env) (H0 env) (.func dGrp.body env) pF] s := by
  intro n
  induction n using Nat.strongRecOn with | _ n ih0 =>
  have ih := fun m (h : n = m + 1) => ih0 m (by omega)
  clear ih0
  intro i s₀ s iv hN hi hu O ht
  generalize hfs : [retF env (K1 env) (H0 env) (.func dGrp.body env) pF] = fs
  have hfs1 : splitAtGen fs = none := by rw [← hfs]; rfl
  have hfs2 : fs.any Frame.guarded = false := by rw [← hfs]; rfl
  have hh1 : ∀ c, (A.over c fs).handled = none := fun c => by rw [← hfs]; exact hh
  have hleaf : ∀ (r : Result) (f : Flow) s', r = .ok f → f ≠ .brk → f ≠ .cont → told row (N0 - (n + 1)) = none → Tn [env.locals, I] s₀ s' → (match f with | .ret v => v | _ => .none) = .none →
      ∀ c', Seg (model PW w) A (gR env I row N0) (gY S0 env I row N0) (n + 1) s₀ c' (leafOf r) fs s' := by
    rintro _ f s' rfl h1 h2 htold htn hv c'
    rw [← hfs]
    refine seg_leaf (.ok f) ?_
    show Seg _ A _ _ _ s₀ _ (K1 env f) [] s'
    have : K1 env f = leafOf (.ok (.ret .none)) := by
      cases f with
      | next => rfl
      | ret v => cases (show v = .none from hv); rfl
      | brk => exact absurd rfl h1
      | cont => exact absurd rfl h2
    rw [this]
    exact seg_end _ ⟨rfl, htold, htn⟩
  have F := O.fm hE.cells
  have hlen := lead_le row
  obtain ⟨ol, hol, hLo⟩ := hZ.hl
  obtain ⟨items, hl, hI, hsz⟩ := hLo.is hol
  rw [List.length_map] at hsz
  have hlI : l ≠ I := by rintro rfl; rw [hZ.hI] at hol; cases hol
  have W := Walks.list (prog := PW) (w := w) (hh1 (.forLoop (.Name "interval" (P 3)) (.ref I) (FB P C) [] env)) I l hlI items
  have hst : s.heap.IsListIter I l i ∧ s.heap.IsList l items := by
    obtain ⟨_, _, _, oI, hoI, hc, hd⟩ := F.own _ List.mem_cons_self
    exact ⟨⟨oI, hoI, hc, hd⟩, hl.at fun o e => hu _ _ e⟩
  refine seg_forLoop ?_
  rcases Nat.lt_or_ge i row.length with hlt | hge
  · refine W.item i _ _ _ (by omega) hst fun v h₂ tk₂ hPv hst₂ hk₂ => ?_
    have hv : ∃ t, v = .int (row.getD i 0) t := by
      obtain ⟨u, hu1, t, rfl⟩ := hI.get i (d := .i (row.getD i 0)) (by rw [List.getElem?_map, get_row hlt]; rfl)
      have h2 : items.toList[i]? = some v := by rw [Array.getElem?_toList]; exact hPv
      rw [hu1] at h2
      exact ⟨t, Option.some.inj h2.symm⟩
    obtain ⟨tv, rfl⟩ := hv
    obtain ⟨⟨oI2, hoI2, hcI2, hdI2⟩, _⟩ := hst₂
    have F1 := F.changed (j := 0) (tk := tk₂) (T' := itT l (i + 1)) rfl hoI2 ⟨hcI2, hdI2⟩ (fun b o hb e => hk₂ b o (by simpa using hb) e)
    refine wpAny_pure ?_
    refine wpAny_assign_Name (F1.store (i := 2) (d := .i (row.getD i 0)) rfl ⟨tv, rfl⟩ hE.ok.fn (hE.ok.st _ (by decide)) fun s3 F3 => ?_)
    have G3 : ∀ {vs os} s, (FH (base env [(I, itT l i)] s) env vs os).P s → True := fun _ _ => trivial
    have hG : G w mg mb N (base env [(I, itT l i)] s).heap := hZ.gl.keeps (hZ.up hu rfl)
    have g : ∀ {vs os} s', (FH (base env [(I, itT l i)] s) env vs os).P s' → G w mg mb N s'.heap := fun {vs os} => FH.glob hG
    have kMax : env.kindOf "CHAR_MAX" = some .globalImplicit := kd hE.sc (by kernel_rfl)
    have F3' : Fm (base env [(I, itT l i)] s) env (gv l (some (lastD row i)) (some (.i (row.getD i 0)))) [(I, itT l (i + 1))] s3 := F3
    -- the item is 127
    refine seg_execs_cons (seg_If ((Tr.cmp (H := FH (base env [(I, itT l i)] s) env (gv l (some (lastD row i)) (some (.i (row.getD i 0)))) [(I, itT l (i + 1))]) (Ev.var (i := 2) hE.ok rfl) (Ev.gint hE.ok g (by unfold theConsts; simp) kMax) (Op.eq (row.getD i 0) 127)).run s3 F3' _ _ fun s4 n4 F4 => ?_))
    have F4' : Fm (base env [(I, itT l i)] s) env (gv l (some (lastD row i)) (some (.i (row.getD i 0)))) [(I, itT l (i + 1))] s4 := F4
    split
    · rename_i h127
      have h127 : row.getD i 0 = 127 := by simpa using h127
      refine seg_ret_none ?_
      have hil : i = lead row := by
        rcases Nat.lt_or_eq_of_le hi with h | h
        · obtain ⟨x, hx, _, h3⟩ := lead_before h
          rw [get_row hlt] at hx; cases hx; exact absurd h127 h3
        · exact h
      refine hleaf (.ok (.ret .none)) _ s4 rfl (by simp) (by simp) ?_ (ht.trans F4'.tn) rfl _
      unfold told
      rw [if_neg (by omega), if_neg]
      rw [← hil, get_row hlt, h127]; decide
    rename_i hn127
    refine seg_execs_nil ?_
    have hn127 : row.getD i 0 ≠ 127 := by simpa using hn127
    refine seg_execs_cons (seg_If ((Tr.cmp (H := FH (base env [(I, itT l i)] s) env (gv l (some (lastD row i)) (some (.i (row.getD i 0)))) [(I, itT l (i + 1))]) (Ev.var (i := 2) hE.ok rfl) (Ev.int (n := 0)) (Op.eq (row.getD i 0) 0)).run s4 F4' _ _ fun s5 n5 F5 => ?_))
    have F5' : Fm (base env [(I, itT l i)] s) env (gv l (some (lastD row i)) (some (.i (row.getD i 0)))) [(I, itT l (i + 1))] s5 := F5
    split
    · rename_i hz
      have hz : row.getD i 0 = 0 := by simpa using hz
      have hi0 : i ≠ 0 := by
        rintro rfl
        rw [get_row hlt, hz] at hrow; exact hrow rfl
      have hil : i = lead row := by
        rcases Nat.lt_or_eq_of_le hi with h | h
        · obtain ⟨x, hx, h3, _⟩ := lead_before h
          rw [get_row hlt] at hx; cases hx; exact absurd hz h3
        · exact h
      have hla : lastD row i = .i (row.getD (lead row - 1) 0) := by unfold lastD; rw [if_neg hi0, hil]
      rw [hla] at F5'
      refine seg_execs_cons (seg_If ((Tr.cmp (H := FH (base env [(I, itT l i)] s) env (gv l (some (.i (row.getD (lead row - 1) 0))) (some (.i (row.getD i 0)))) [(I, itT l (i + 1))]) (b := false) (Ev.var (i := 1) hE.ok rfl) Ev.none (Op.isNone _ _ (fun s v h => by obtain ⟨t, rfl⟩ := (show ∃ t, v = .int _ t from h); rfl))).run s5 F5' _ _ fun s6 n6 F6 => ?_))
      rw [if_neg Bool.false_ne_true]
      refine seg_execs_nil ?_
      refine seg_execs_cons (seg_While fun pw => ?_)
      have F6' : Fm (base env [(I, itT l i)] s) env (gv l (some (.i (row.getD (lead row - 1) 0))) (some (.i (row.getD i 0)))) [(I, itT l (i + 1))] s6 := F6
      refine while_turn hZ hE (by rw [← hfs]; rfl) (by rw [← hfs]; rfl) (by rw [← hil, get_row hlt, hz]) (by omega) n i s₀ s6 _ _ (by omega) (by omega) ?_ F6'.mine (ht.trans F6'.tn)
      exact fun b o e => F6'.nx.up b o (hZ.up hu rfl b o e)
    rename_i hnz
    have hnz : row.getD i 0 ≠ 0 := by simpa using hnz
    refine seg_execs_nil ?_
    have hil : i < lead row := by
      rcases Nat.lt_or_eq_of_le hi with h | h
      · exact h
      · rcases lead_at (row := row) (x := row.getD i 0) (by rw [← h]; exact get_row hlt) with h2 | h2
        · exact absurd h2 hnz
        · exact absurd h2 hn127
    refine seg_execs_cons (seg_Expr_Yield hfs1 rfl hfs2 ((Ev.var (i := 2) hE.ok rfl).run s5 F5' _ _ fun v s6 g6 n6 F6 kap hkap => ?_) (by rw [hE.sc]; kernel_rfl) (by unfold interactive; rw [hE.ok.fn]; rfl))
    obtain ⟨t6, rfl⟩ := g6
    have F6' : Fm (base env [(I, itT l i)] s) env (gv l (some (lastD row i)) (some (.i (row.getD i 0)))) [(I, itT l (i + 1))] s6 := F6
    obtain ⟨m, oL, es, ep, hoL, r⟩ := F6'.ns
    obtain ⟨_, _, _, oI, hoI, hT⟩ := F6'.own _ List.mem_cons_self
    refine ⟨_, t6, rfl, ?_, ht.trans F6'.tn, oL, oI, hoL, hoI, fun hn s'' hL' hI' hu'' => hkap _ _ ?_⟩
    · unfold told
      have e : N0 - 1 - n = i := by omega
      rw [e, if_pos hil, get_row hlt]
    · obtain ⟨m, rfl⟩ : ∃ m, n = m + 1 := ⟨n - 1, by omega⟩
      have ih := ih m rfl
      show Seg _ A _ _ (m + 1) s'' _ ((execs _ env).wrap _ _ _ _) fs s''
      have O2 : Own env (gv l (some (lastD row i)) (some (.i (row.getD i 0)))) [(I, itT l (i + 1))] s'' := F6'.mine.keep hE.cells fun b hb o e => by
        rcases List.mem_cons.mp hb with rfl | hb
        · rw [hoL] at e; cases e; exact hL'
        · rcases List.mem_cons.mp hb with rfl | hb
          · rw [hoI] at e; cases e; exact hI'
          · cases hb
      have F7 := O2.fm hE.cells
      refine seg_stmt (wpAny_Assign_Name ((Ev.var (i := 2) hE.ok rfl).run s'' F7 _ _ fun v s8 g8 n8 F8 => ?_) rfl)
      refine (show Fm _ _ _ _ s8 from F8).store (i := 1) (d := .i (row.getD i 0)) rfl (g8.is0 (fun _ h => nomatch h) (fun _ h => nomatch h)) hE.ok.fn (hE.ok.st _ (by decide)) fun s9 F9 => ?_
      refine seg_execs_nil (seg_again (by rfl) ?_)
      rw [← hfs]
      refine ih (i + 1) s'' s9 (some (.i (row.getD i 0))) (by omega) (by omega) ?_ ?_ F9.tn
      · exact fun b o e => F9.nx.up b o (hZ.up hu'' rfl b o e)
      · have e : lastD row (i + 1) = .i (row.getD i 0) := by unfold lastD; rw [if_neg (Nat.succ_ne_zero i)]; rfl
        rw [e]
        exact F9.mine
  · have hin : i = row.length := by omega
    refine W.done _ _ _ (by rw [hsz, ← hin]; exact hst) fun h₂ tk₂ hk₂ => ?_
    refine seg_block_nil (hleaf (.ok .next) .next { s with heap := h₂, toks := tk₂ } rfl (by simp) (by simp) ?_ (ht.trans ⟨fun b o hb e => hk₂ b o (by simp at hb; simpa using hb.2) e, rfl, fun _ _ e => e, fun e => e⟩) rfl _)
    unfold told
    have hl2 : lead row = row.length := by omega
    rw [if_neg (by omega), if_neg]
    rw [hl2, List.getElem?_eq_none (Nat.le_refl _)]; simp
end
end Mine

open PySem PySem.W PyProof.Rows
namespace Mine
set_option Elab.async false
set_option maxRecDepth 100000
set_option linter.unusedVariables false
set_option maxHeartbeats 1000000

section
variable {w : World} {mg mb : Str → Option Value} {N : Nat} {A : Around} {S0 : Shared} {env : Env} {l I : Addr} {row : List Int} {N0 : Nat}

theorem env_kind {env : Env} (hE : GE env) {x : Str} (hx : x ∈ grpXs) : env.kindOf x = some .local ∧ (env.scope.kind == .class || (env.scope.kind == .module && env.locals != env.globals)) = false := by
  refine ⟨?_, by rw [hE.ok.fn]; rfl⟩
  unfold Env.kindOf
  rw [hE.sc]
  unfold grpXs at hx
  simp only [List.mem_cons, List.not_mem_nil, or_false] at hx
  rcases hx with rfl | rfl | rfl <;> kernel_rfl

/- the first turn -/
theorem gen_start (hZ : GS w mg mb N S0 env l I row) (hE : GE env) (hh : A.handled = none) (hrow : row[0]? ≠ some 0) (n : Nat) (s : Shared) (hN : N0 = n + 1) (hu : Up S0 s) (O : Own env (gv l none none) [] s) (hI : I = s.heap.objs.size) (hLI : env.locals ≠ I) :
    Seg (model PW w) A (gR env I row N0) (gY S0 env I row N0) (n + 1) s (.func dGrp.body env) ((model PW w).den (.func dGrp.body env)) [] s := by
  obtain ⟨P, C, hb⟩ := grp_is
  refine seg_func ?_
  show Seg _ A _ _ (n + 1) s _ ((execs dGrp.body env).wrap K0 (H0 env) id id) [] s
  rw [show execs dGrp.body env = execs [.Assign [.Name "last_interval" (P 0)] (.Constant .none (C 0) (P 1)) (P 2), .For (.Name "interval" (P 3)) (.Name "grouping" (P 4)) (FB P C) [] (P 33)] env from by rw [hb]]
  have F := O.fm hE.cells
  obtain ⟨m, hm⟩ := F.ns
  have k1 := env_kind hE (x := "last_interval") (by decide)
  have k2 := env_kind hE (x := "grouping") (by decide)
  refine seg_stmt (wpAny_Assign_Name (wpAny_Constant_none (wpAny_storeName_local k1.1 hm (fun h₁ hn hs => ?_) k1.2)) rfl)
  have F1 := F.stored (i := 1) (d := .n) (tk := s.toks + 1) rfl (show Is0 .none .n from rfl) k1.1 hm hn hs
  have hsz : h₁.objs.size = s.heap.objs.size := hs.1
  refine seg_execs_cons (seg_For ?_)
  rcases F1.var 0 "grouping" (.r l) rfl with ⟨_, m', v, h1, h2, rfl⟩ | ⟨_, c, v, h1, _⟩
  · refine wpAny_Name (wpAny_loadName_local hE.ok.fn k2.1 h1 h2 ?_) (by decide)
    obtain ⟨ol, hol, hLo⟩ := hZ.hl
    obtain ⟨items, hl, hIt, hsz2⟩ := hLo.is hol
    have up1 : Up S0 { s with heap := h₁, toks := s.toks + 1 } := fun b o e => F1.nx.up b o (by
      refine (woAll_other _ ?_).trans (hu b o e)
      intro h
      rcases List.mem_cons.mp h with rfl | h
      · rw [hZ.hL] at e; cases e
      · cases h)
    refine wpAny_pyIter_list (hl.at fun o e => up1 _ _ e) fun p => ?_
    have F2 := F1.made (T := itT l 0) (Nx.push _ { cls := .type "list_iterator", data := .fields #[.ref l, .int 0 0] }) (fresh_size _ _ (Nat.le_refl _)) (Heap.get?_push_size _ rfl) ⟨rfl, rfl⟩
    have e1 : h₁.objs.size = I := by rw [hsz, hI]
    have F3 : Fm (base env [] s) env (gv l (some .n) none) [(I, itT l 0)] { s with heap := h₁.push { cls := .type "list_iterator", data := .fields #[.ref l, .int 0 0] }, toks := s.toks + 1 } := by rw [← e1]; exact F2
    have tn : Tn [env.locals, I] s { s with heap := h₁.push { cls := .type "list_iterator", data := .fields #[.ref l, .int 0 0] }, toks := s.toks + 1 } := by
      have t := F3.tn
      exact ⟨fun b o hb e => t.up b o (fun h => hb (by simp at h; simp [h])) e, t.os, t.gens, t.bare⟩
    have := for_turn (A := A) (N0 := N0) hZ hE hh hrow P C p n 0 s { s with heap := h₁.push { cls := .type "list_iterator", data := .fields #[.ref l, .int 0 0] }, toks := s.toks + 1 } Option.none (by omega) (Nat.zero_le _)
      (fun b o e => Heap.get?_push_of_some _ (up1 b o e)) F3.mine tn
    simp only [e1]
    exact this
  · rw [hE.cells] at h1; cases h1
end
end Mine

open PySem PySem.W PyProof.Rows
namespace Mine
set_option Elab.async false
set_option maxRecDepth 100000
set_option linter.unusedVariables false
set_option maxHeartbeats 1000000

/- next of a generator of a def -/
theorem pyNext_gen {prog : Program} {w : World} {A : Around} {E : Value → Shared → Prop} {s : Shared} {a : Addr} {g n : Nat} {gs : GenState} {R : GenEnd} {Y : Protocol} {Q : Option Value → Shared → Prop} (hh : A.handled = none)
    (hl : s.heap.NoLimit) (hroom : A.depth < recursionLimit)
    (hg : s.heap.IsGen a g) (hgs : s.gens[g]? = some gs)
    (hgo : gs.Goes (model prog w) A.in1 R Y n (.send .none) (s.setGen g .running))
    (hY : ∀ v s₁ gs', gs'.bare = true → Y (n - 1) (s.setGen g .running) v s₁ (fun r' s'' => match n with
        | 0 => False
        | m + 1 => gs'.Goes (model prog w) A.in1 R Y m r' s'') → Q (some v) (s₁.setGen g gs'))
    (hP : ∀ r s₁, R n (s.setGen g .running) r s₁ → (r = .ok (.ret .none) ∧ ∀ h', (∀ b o, s₁.heap.get? b = some o → h'.get? b = some o) → Q none { s₁.setGen g .finished with heap := h' }) ∨
      (∃ e X, r = .error (.ref e) ∧ s₁.heap.IsGen a g ∧ (∃ o, s₁.heap.get? e = some o ∧ o.cls = .type X) ∧ isSubtype (.type X) (.type "StopIteration") = pure false ∧ E (.ref e) (s₁.setGen g .finished))) :
    wpAny (model prog w) A (pyNext (.ref a)) Q E s := by
  unfold pyNext
  refine wpAny_bind (wpAny_attempt (wpAny_callSpecial?_slot (name := Str.ofString "__next__") hg.typeIs slot_gen_next
    (wpAny_call_entry slot_gen_next hg.typeIs entry_gen_next ?_ (args_gen_next _))))
  show wpAny _ A.in1 (Builtin.Generator.genWake (.ref a) (.send .none)) _ _ s
  unfold Builtin.Generator.genWake
  refine wpAny_bind (wpAny_holding (wpAny_genNumber hg (wpAny_bind (wpAny_genState hgs ?_))))
  cases gs with
  | running => exact hgo.elim
  | finished => exact hgo.elim
  | _ =>
    refine wpAny_bind (wpAny_roomToWake hl hroom ?_)
    show wpAny _ A.in1 (.resume g (.send .none) [] _) _ _ s
    refine wpAny_resumeQ hgs hgo (fun x s₁ hx => ?_) (fun v s₁ gs' hb hv => ?_)
    · rcases hP x s₁ hx with ⟨rfl, hp⟩ | ⟨e, X, rfl, hga, ⟨o, ho, hc⟩, hsub, hE⟩
      · show wpAny _ A.in1 (newExc (.type "StopIteration") [] >>= _) _ _ _
        refine wpAny_bind ?_
        simp only [newExc, newTuple]
        refine wpAny_bind (wpAny_newObj_type ?_ (by size_fits))
        refine wpAny_bind (m := firstArgMember _ _) (wpAny_of_eq (a := Value.none) (by first | rfl | (simp only [firstArgMember]; rfl)) ?_)
        refine wpAny_newObj_type ?_ (by size_fits)
        simp only [raiseNew]
        refine wpAny_bind (wpAny_bind (wpAny_handled ?_))
        first | rw [show A.in1.handled = none from hh] | rw [hh]
        refine wpAny_throw ?_
        refine wpAny_bind (wpAny_isInstance (T := "StopIteration") (b := true) ⟨_, Heap.get?_push_size _ rfl, rfl⟩ isSubtype_stop ?_)
        exact wpAny_pure (hp _ fun b o hb => Heap.get?_push_of_some _ (Heap.get?_push_of_some _ hb))
      · show wpAny _ A.in1 (Builtin.Generator.genLeft (.ref a) (.ref e)) _ _ _
        unfold Builtin.Generator.genLeft Builtin.Generator.madeByALambda
        obtain ⟨oa, nm, qn, hoa, hca, hda, hsl⟩ := hga
        refine wpAny_bind (wpAny_bind (wpAny_load hoa (wpAny_pure ?_)))
        rw [hda]
        simp only [show ((#[Value.int (g : Int) 0, nm, qn] : Array Value)[3]? == some (Value.bool true)) = false from rfl, Bool.and_false]
        have ht : (s₁.setGen g .finished).TypeIs (.ref e) X := ⟨o, ho, hc⟩
        refine wpAny_bind (wpAny_isInstance ht hsub ?_)
        show wpAny _ A.in1 (Builtin.Generator.genEscaped (.ref e)) _ _ _
        unfold Builtin.Generator.genEscaped
        refine wpAny_bind (wpAny_isInstance ht hsub ?_)
        refine wpAny_throw ?_
        refine wpAny_bind (wpAny_isInstance ht hsub ?_)
        exact wpAny_throw hE
    · exact wpAny_pure ⟨v, rfl, wpAny_pure (hY v s₁ gs' hb hv)⟩
end Mine

open PySem PySem.W PyProof.Rows
namespace Mine
set_option Elab.async false
set_option maxRecDepth 100000
set_option linter.unusedVariables false
set_option maxHeartbeats 1000000

theorem gens_size {s₀ s : Shared} (n : Nx s₀ s) : s₀.gens.size ≤ s.gens.size := by
  rcases Nat.lt_or_ge s.gens.size s₀.gens.size with h | h
  · have := n.gens s.gens.size _ (Array.getElem?_eq_getElem h)
    rw [Array.getElem?_eq_none (Nat.le_refl _)] at this; cases this
  · exact h

/- a frame over a turn of something else -/
theorem Fm.turn {s₀ s s' : Shared} {env : Env} {vs : Vars} {os os' : Objs} {as : List Addr} (F : Fm s₀ env vs os s) (n : Nx s₀ s') (T : ∀ b o, b ∉ as → s.heap.get? b = some o → s'.heap.get? b = some o)
    (has : ∀ b ∈ as, s₀.heap.get? b = none ∧ b ≠ env.locals ∧ ∀ (x : Str) (c : Addr), env.cells.lookup x = some c → b ≠ c)
    (hos : ∀ p ∈ os', (p ∈ os ∧ p.1 ∉ as) ∨ (p.1 ∈ as ∧ ∃ o, s'.heap.get? p.1 = some o ∧ p.2 o)) (hnd : (os'.map (·.1)).Nodup) : Fm s₀ env vs os' s' where
  nx := n
  fresh := F.fresh
  ns := let ⟨m, o, es, ep, x, r⟩ := F.ns; ⟨m, o, es, ep, T _ o (fun h => (has _ h).2.1 rfl) x, r⟩
  var := fun i x d h => by
    rcases F.var i x d h with ⟨hk, m, v, ⟨o, es, ep, x, r⟩, h2, h3⟩ | ⟨hk, c, v, h1, ⟨o, h2, h4⟩, h3⟩
    · exact .inl ⟨hk, m, v, ⟨o, es, ep, T _ o (fun h => (has _ h).2.1 rfl) x, r⟩, h2, h3⟩
    · exact .inr ⟨hk, c, v, h1, ⟨o, T _ o (fun h => (has _ h).2.2 x c h1 rfl) h2, h4⟩, h3⟩
  cells := fun x c h => let ⟨h1, h2, v, o, h3, h4⟩ := F.cells x c h; ⟨h1, h2, v, o, T _ o (fun hb => (has _ hb).2.2 x c h rfl) h3, h4⟩
  apart := F.apart
  own := fun p hp => by
    rcases hos p hp with ⟨h1, h2⟩ | ⟨h1, o, h2, h3⟩
    · obtain ⟨q1, q2, q3, o, q4, q5⟩ := F.own p h1
      exact ⟨q1, q2, q3, o, T _ o h2 q4, q5⟩
    · obtain ⟨q1, q2, q3⟩ := has _ h1
      exact ⟨q2, q3, q1, o, h2, h3⟩
  nodup := hnd
  names := F.names

/- a frame under a base with other generators -/
theorem Fm.gens {s₀ s : Shared} {env : Env} {vs : Vars} {os : Objs} (F : Fm s₀ env vs os s) : Fm { s₀ with gens := s.gens } env vs os s :=
  ⟨⟨F.nx.up, F.nx.os, fun _ _ e => e, fun e => e⟩, F.fresh, F.ns, F.var, F.cells, F.apart, F.own, F.nodup, F.names⟩
theorem Fm.ungens {s₀ s' : Shared} {env : Env} {vs : Vars} {os : Objs} {gs : Array GenState} (F : Fm { s₀ with gens := gs } env vs os s') (hg : ∀ (i : Nat) g, s₀.gens[i]? = some g → gs[i]? = some g) (hb : AllBare s₀.gens → AllBare gs) : Fm s₀ env vs os s' :=
  ⟨⟨F.nx.up, F.nx.os, fun i g e => F.nx.gens i g (hg i g e), fun e => F.nx.bare (hb e)⟩, F.fresh, F.ns, F.var, F.cells, F.apart, F.own, F.nodup, F.names⟩

noncomputable def isGenT (g : Nat) : Obj → Prop := fun o => ∃ nm qn, o.cls = .type "generator" ∧ o.data = .fields #[.int g 0, nm, qn] ∧ o.slots = #[]

section
variable {w : World} {mg mb : Str → Option Value} {N : Nat} {A : Around} {s₀ : Shared} {env : Env} {vs : Vars} {os : Objs} {xs : List Str} {l : Addr}

/- the generator that a call makes -/
theorem gen_call {f : Addr} (hf : mg "_grouping_intervals" = some (.ref f)) (hroom : A.depth < recursionLimit) (hG : G w mg mb N s₀.heap) {s : Shared} {v : Value} {Q : Value → Shared → Prop} {E : Value → Shared → Prop}
    (F : Fm s₀ env vs os s) (hv : v = .ref l)
    (q : ∀ (s' : Shared) (a g : Nat) (oL : Obj) (envg : Env), GE envg → envg.frame = some envg.locals → Fm s₀ env vs ((a, isGenT g) :: (envg.locals, (· = oL)) :: os) s' → s'.gens[g]? = some (.fresh (.func dGrp.body envg)) → s₀.gens.size ≤ g → Own envg (gv l none none) [] s' → Q (.ref a) s') :
    wpAny (model PW w) A (PySem.call (.ref f) [v]) Q E s := by
  have hmem : dGrp ∈ theDefs := by unfold theDefs; simp
  obtain ⟨hlim, o, pm, c', doc, ho, hd, hcd⟩ := made_at hmem dGrp_ok.nd (by rw [dGrp_name]; exact hf) s (FH.glob hG s F)
  subst hv
  refine wpAny_call (codeAny_call_generator (body := dGrp.body) hroom ho hd (by kernel_rfl) (by kernel_rfl) rfl hcd ?_)
  have hbind : bindArgs (Calls.docDef dGrp.name dGrp.params dGrp.body dGrp.scope pm (.ref c') doc) ⟨[.ref l], []⟩ = pure [(("grouping" : Str), Value.ref l)] := by kernel_rfl
  rw [hbind]
  have hcell : ∀ x ∈ dGrp.scope.names, x.2 ≠ .cell := by decide +kernel
  have hlook : dGrp.scope.names.lookup ("grouping" : Str) = some NameKind.local := by kernel_rfl
  refine wpAny_pure (wpAny_newFunctionEnv hcell (fun x hx => by rw [List.mem_singleton.mp hx]; exact hlook) (fun h₁ hns hsb => ⟨hlim.fresh _ hsb, ?_⟩) (by kernel_rfl))
  generalize hL : s.heap.objs.size = L at hns hsb ⊢
  have fL : s.heap.get? L = none := by rw [← hL]; exact fresh_size _ _ (Nat.le_refl _)
  have keep1 : ∀ b o, s.heap.get? b = some o → h₁.get? b = some o := fun b o e => hsb.extBut b o (by rintro rfl; rw [fL] at e; cases e) (Heap.get?_push_of_some _ e)
  have hE : GE (newEnv dGrp.scope L mainGlobals [] (dGrp.name ++ ".<locals>.") (some f) (.ref c') Option.none builtinsNs) :=
    ⟨rfl, ⟨by show dGrp.scope.kind = .function; kernel_rfl, rfl, rfl, fun x hx => .inl (by
      have : dGrp.scope.names.lookup x = some .local := by
        unfold grpXs at hx
        simp only [List.mem_cons, List.not_mem_nil, or_false] at hx
        rcases hx with rfl | rfl | rfl <;> kernel_rfl
      exact this)⟩, rfl⟩
  have hns' := hns
  obtain ⟨oL, es, ep, hoL, r⟩ := hns
  have F1 : Fm s₀ env vs os { s with heap := h₁, toks := s.toks + 1 } := F.nxt (Nx.of keep1)
  have F2 : Fm s₀ env vs ((L, (· = oL)) :: os) { s with heap := h₁, toks := s.toks + 1 } := F.made (Nx.of keep1) fL hoL rfl
  have hsz : s.gens.size ≤ s.gens.size := Nat.le_refl _
  have nx3 : ∀ (ob : Obj) tk, Nx { s with heap := h₁, toks := s.toks + 1 } { s with heap := h₁.push ob, toks := tk, gens := s.gens.push (.fresh (.func dGrp.body (newEnv dGrp.scope L mainGlobals [] (dGrp.name ++ ".<locals>.") (some f) (.ref c') Option.none builtinsNs))) } := fun ob tk =>
    ⟨fun b o e => Heap.get?_push_of_some _ e, rfl, fun i g e => by
      show (s.gens.push _)[i]? = some g
      have hi : i < s.gens.size := (Array.getElem?_eq_some_iff.mp e).1
      rw [Array.getElem?_push_lt hi]
      have e' : s.gens[i]? = some g := e
      rw [Array.getElem?_eq_getElem hi] at e'; exact e', fun e => e.push rfl⟩
  have F3 := F2.made (T := isGenT s.gens.size) (nx3 { cls := .type "generator", data := .fields #[.int s.gens.size 0, .str dGrp.name (s.toks + 1), .str dGrp.name (s.toks + 1 + 1)] } (s.toks + 1 + 1 + 1)) (fresh_size _ _ (Nat.le_refl _)) (Heap.get?_push_size _ rfl) ⟨_, _, rfl, rfl, rfl⟩
  refine q _ _ s.gens.size oL _ hE rfl F3 ?_ (gens_size F.nx) ⟨⟨_, hns'.keeps fun b o e => Heap.get?_push_of_some _ e⟩, ?_, (fun p hp => nomatch hp), List.nodup_nil, (show grpXs.Nodup by decide)⟩
  · show (s.gens.push _)[s.gens.size]? = _
    rw [Array.getElem?_push_size]
    rfl
  · intro i x d h
    match i, h with
    | 0, h =>
      injection h with h; injection h with h1 h2; injection h2 with h2
      subst h1; subst h2
      refine .inl ⟨by show dGrp.scope.names.lookup ("grouping" : Str) = _; exact hlook, _, .ref l, hns'.keeps fun b o e => Heap.get?_push_of_some _ e, by simp, rfl⟩
    | 1, h => simp [gv] at h
    | 2, h => simp [gv] at h
    | k + 3, h => simp [gv] at h
end
end Mine

open PySem PySem.W PyProof.Rows
namespace Mine
set_option Elab.async false
set_option maxRecDepth 100000
set_option linter.unusedVariables false
set_option maxHeartbeats 1000000

theorem setGen_other {s : Shared} {g i : Nat} {x : GenState} (h : i ≠ g) : (s.setGen g x).gens[i]? = s.gens[i]? := by
  show (s.gens.setIfInBounds g x)[i]? = _
  rw [Array.getElem?_setIfInBounds_ne (Ne.symm h)]
theorem AllBare.setGen {s : Shared} {g : Nat} {x : GenState} (h : AllBare s.gens) (hx : x.bare = true) : AllBare (s.setGen g x).gens := fun y hy => by
  rcases Array.mem_or_eq_of_mem_setIfInBounds (show y ∈ s.gens.setIfInBounds g x from hy) with h2 | rfl
  · exact h y h2
  · exact hx

section
variable {w : World} {mg mb : Str → Option Value} {N : Nat} {A : Around} {s₀ : Shared} {env envg : Env} {vs : Vars} {os : Objs} {xs : List Str} {l a : Addr} {g N0 : Nat} {row : List Int}

/- the generator waits, k values told -/
inductive Wt (w : World) (A : Around) (s₀ : Shared) (envg : Env) (l a : Addr) (g N0 : Nat) (row : List Int) : Nat → Objs → Shared → Prop
  | fresh {s : Shared} (oL : Obj) (hg : s.gens[g]? = some (.fresh (.func dGrp.body envg))) (hL : s.heap.get? envg.locals = some oL) (O : Own envg (gv l none none) [] s) : Wt w A s₀ envg l a g N0 row 0 [(a, isGenT g), (envg.locals, (· = oL))] s
  | later {s : Shared} (k : Nat) (I : Addr) (oL oI : Obj) (gs : GenState) (hg : s.gens[g]? = some gs) (hI : s₀.heap.get? I = none)
      (go : k + 1 < N0 → ∀ s'', s''.heap.get? envg.locals = some oL → s''.heap.get? I = some oI → Up s₀ s'' → gs.Goes (model PW w) A.in1 (gR envg I row N0) (gY s₀ envg I row N0) (N0 - (k + 1)) (.send .none) s'') :
      Wt w A s₀ envg l a g N0 row (k + 1) [(I, (· = oI)), (envg.locals, (· = oL)), (a, isGenT g)] s

theorem Wt.keep {k : Nat} {Hs : Objs} {s s' : Shared} {env : Env} {vs vs' : Vars} {os os' : Objs} (W : Wt w A s₀ envg l a g N0 row k Hs s) (hE : GE envg) {sB : Shared} (F' : Fm sB env vs' (os' ++ Hs) s') (F : Fm s₀ env vs (os ++ Hs) s) (hg : sB.gens = s.gens) : Wt w A s₀ envg l a g N0 row k Hs s' := by
  have hgs : ∀ i x, s.gens[i]? = some x → s'.gens[i]? = some x := fun i x e => F'.nx.gens i x (by rw [hg]; exact e)
  cases W with
  | fresh oL hg hL O =>
    obtain ⟨_, _, _, o, ho, he⟩ := F'.own (envg.locals, (· = oL)) (by simp)
    have he : o = oL := he
    subst he
    refine .fresh o (hgs _ _ hg) ho (O.keep hE.cells fun b hb o' e => ?_)
    rcases List.mem_cons.mp hb with rfl | hb
    · rw [hL] at e; cases e; exact ho
    · cases hb
  | later k I oL oI gs hg hI go => exact .later k I oL oI gs (hgs _ _ hg) hI go

theorem next_step (hE : GE envg) (hG : G w mg mb N s₀.heap) (hl : ∃ o, s₀.heap.get? l = some o ∧ Lo (row.map D.i) o) (hrow : row[0]? ≠ some 0) (hh : A.handled = none) (hroom : A.depth < recursionLimit) (hgz : s₀.gens.size ≤ g)
    {k : Nat} {Hs : Objs} {s : Shared} (hk : k < N0) (F : Fm s₀ env vs (os ++ Hs) s) (W : Wt w A s₀ envg l a g N0 row k Hs s) {Q : Option Value → Shared → Prop} {E : Value → Shared → Prop}
    (hsome : ∀ x t s' Hs', told row k = some x → Fm s₀ env vs (os ++ Hs') s' → Wt w A s₀ envg l a g N0 row (k + 1) Hs' s' → Q (some (.int x t)) s')
    (hnone : ∀ s', told row k = none → Fm s₀ env vs os s' → Q none s') : wpAny (model PW w) A (pyNext (.ref a)) Q E s := by
  have hlim : s.heap.NoLimit := (FH.glob hG s F).nolimit
  have hLm : (envg.locals ∈ (os ++ Hs).map (·.1)) ∧ (∃ nm, (a, isGenT g) ∈ os ++ Hs ∧ nm = a) := by cases W <;> simp
  have hga : s.heap.IsGen a g := by
    obtain ⟨_, h1, _⟩ := hLm.2
    obtain ⟨_, _, _, o, ho, nm, qn, h2, h3, h4⟩ := F.own _ h1
    exact ⟨o, nm, qn, ho, h2, h3, h4⟩
  have hL0 : s₀.heap.get? envg.locals = none ∧ envg.locals ≠ env.locals ∧ ∀ (x : Str) (c : Addr), env.cells.lookup x = some c → envg.locals ≠ c := by
    obtain ⟨p, hp, e⟩ := List.mem_map.mp hLm.1
    obtain ⟨h1, h2, h3, _⟩ := F.own p hp
    rw [e] at h1 h2 h3
    exact ⟨h3, h1, h2⟩
  have up : Up s₀ s := F.nx.up
  -- the state of the generator and where its iterator lies
  have key : ∃ I gs, s.gens[g]? = some gs ∧ gs.bare = gs.bare ∧ s₀.heap.get? I = none ∧ I ≠ env.locals ∧ (∀ (x : Str) (c : Addr), env.cells.lookup x = some c → I ≠ c) ∧ I ≠ envg.locals ∧ I ≠ a ∧ (∀ p ∈ os, p.1 ≠ I) ∧
      gs.Goes (model PW w) A.in1 (gR envg I row N0) (gY s₀ envg I row N0) (N0 - k) (.send .none) (s.setGen g .running) := by
    have sep : ∀ I, s.heap.get? I = none → I ≠ env.locals ∧ (∀ (x : Str) (c : Addr), env.cells.lookup x = some c → I ≠ c) ∧ ∀ p ∈ os ++ Hs, p.1 ≠ I := fun I hI => by
      refine ⟨?_, ?_, ?_⟩
      · rintro rfl
        obtain ⟨m, o, _, _, e, _⟩ := F.ns
        rw [hI] at e; cases e
      · rintro x c hc rfl
        obtain ⟨_, _, v, o, e, _⟩ := F.cells x _ hc
        rw [hI] at e; cases e
      · rintro p hp rfl
        obtain ⟨_, _, _, o, e, _⟩ := F.own p hp
        rw [hI] at e; cases e
    cases W with
    | fresh oL hg hL O =>
      have hI := fresh_size s.heap s.heap.objs.size (Nat.le_refl _)
      have hI0 : s₀.heap.get? s.heap.objs.size = none := by
        cases e : s₀.heap.get? s.heap.objs.size with
        | none => rfl
        | some o => rw [up _ _ e] at hI; cases hI
      obtain ⟨q1, q2, q3⟩ := sep _ hI
      refine ⟨s.heap.objs.size, _, hg, rfl, hI0, q1, q2, ?_, ?_, fun p hp => q3 p (by simp [hp]), rfl, ?_⟩
      · exact fun e => q3 (envg.locals, (· = oL)) (by simp) e.symm
      · exact fun e => q3 (a, isGenT g) (by simp) e.symm
      · have hN : N0 = (N0 - 1) + 1 := by omega
        rw [show N0 - 0 = (N0 - 1) + 1 from by omega]
        exact gen_start (A := A.in1) (mg := mg) (mb := mb) (N := N) ⟨hG, hl, hL0.1, hI0⟩ hE hh hrow (N0 - 1) (s.setGen g .running) hN up ⟨O.ns, O.var, O.own, O.nodup, O.names⟩ rfl (fun e => q3 (envg.locals, (· = oL)) (by simp) e)
    | later k I oL oI gs hg hI go =>
      obtain ⟨q1, q2, q3, o, ho, he⟩ := F.own (I, (· = oI)) (by simp)
      have he : o = oI := he
      subst he
      obtain ⟨_, _, _, o2, ho2, he2⟩ := F.own (envg.locals, (· = oL)) (by simp)
      have he2 : o2 = oL := he2
      subst he2
      have nd := F.nodup
      rw [List.map_append, List.nodup_append] at nd
      refine ⟨I, gs, hg, rfl, hI, q1, q2, ?_, ?_, ?_, go hk _ ho2 ho up⟩
      · have := nd.2.1; simp at this; exact this.1.1
      · have := nd.2.1; simp at this; exact this.1.2
      · intro p hp e
        exact nd.2.2 p.1 (List.mem_map_of_mem (f := (·.1)) hp) I (by simp) e
  obtain ⟨I, gs, hgs, _, hI0, hIe, hIc, hIL, hIa, hIo, hgo⟩ := key
  have hLo : ∀ p ∈ os, p.1 ≠ envg.locals := by
    intro p hp e
    have nd := F.nodup
    rw [List.map_append, List.nodup_append] at nd
    refine nd.2.2 p.1 (List.mem_map_of_mem (f := (·.1)) hp) envg.locals ?_ e
    cases W <;> simp
  have hao : ∀ p ∈ os, p.1 ≠ a := by
    intro p hp e
    have nd := F.nodup
    rw [List.map_append, List.nodup_append] at nd
    refine nd.2.2 p.1 (List.mem_map_of_mem (f := (·.1)) hp) a ?_ e
    cases W <;> simp
  have haL : a ≠ envg.locals := by
    have nd := F.nodup
    rw [List.map_append, List.nodup_append] at nd
    cases W with
    | fresh => have := nd.2.1; simp at this; exact this
    | later => have := nd.2.1; simp at this; exact fun e => this.2 e.symm
  have hos0 : (os.map (·.1)).Nodup := by
    have nd := F.nodup
    rw [List.map_append, List.nodup_append] at nd
    exact nd.1
  have has : ∀ b ∈ [envg.locals, I], s₀.heap.get? b = none ∧ b ≠ env.locals ∧ ∀ (x : Str) (c : Addr), env.cells.lookup x = some c → b ≠ c := by
    intro b hb
    rcases List.mem_cons.mp hb with rfl | hb
    · exact hL0
    · rw [List.mem_singleton.mp hb]; exact ⟨hI0, hIe, hIc⟩
  have hgl : g < s.gens.size := (Array.getElem?_eq_some_iff.mp hgs).1
  have nx : ∀ (s₁ : Shared) gs' (h' : Heap), gs'.bare = true → Tn [envg.locals, I] (s.setGen g .running) s₁ → (∀ b o, s₁.heap.get? b = some o → h'.get? b = some o) → Nx s₀ { s₁.setGen g gs' with heap := h' } := fun s₁ gs' h' hb T hk' => by
    refine ⟨fun b o e => hk' b o (T.up b o (fun hm => ?_) (up b o e)), T.os.trans F.nx.os, fun i x e => ?_, fun hB => ?_⟩
    · rw [(has b hm).1] at e; cases e
    · have hi : i ≠ g := by
        rintro rfl
        have := (Array.getElem?_eq_some_iff.mp e).1
        omega
      show (s₁.setGen g gs').gens[i]? = some x
      rw [setGen_other hi]
      exact T.gens i x (by rw [setGen_other hi]; exact F.nx.gens i x e)
    · exact AllBare.setGen (T.bare (AllBare.setGen (F.nx.bare hB) rfl)) hb
  refine pyNext_gen hh hlim hroom hga hgs hgo (fun v s₁ gs' hb hv => ?_) (fun r s₁ hr => ?_)
  · obtain ⟨x, t, rfl, htold, T, oL', oI', hL', hI', hkap⟩ := hv
    have e : N0 - 1 - (N0 - k - 1) = k := by omega
    rw [e] at htold
    have n' := nx s₁ gs' s₁.heap hb T (fun _ _ e => e)
    refine hsome x t _ [(I, (· = oI')), (envg.locals, (· = oL')), (a, isGenT g)] htold (F.turn (as := [envg.locals, I]) n' (fun b o hb' e => T.up b o hb' e) has ?_ ?_) (.later k I oL' oI' gs' ?_ hI0 ?_)
    · intro p hp
      rcases List.mem_append.mp hp with hp | hp
      · refine .inl ⟨by simp [hp], ?_⟩
        simp only [List.mem_cons, List.not_mem_nil, or_false, not_or]
        exact ⟨hLo p hp, hIo p hp⟩
      · simp only [List.mem_cons, List.not_mem_nil, or_false] at hp
        rcases hp with rfl | rfl | rfl
        · exact .inr ⟨by simp, oI', hI', rfl⟩
        · exact .inr ⟨by simp, oL', hL', rfl⟩
        · refine .inl ⟨by obtain ⟨_, h1, _⟩ := hLm.2; exact h1, ?_⟩
          simp only [List.mem_cons, List.not_mem_nil, or_false, not_or]
          exact ⟨haL, fun e => hIa e.symm⟩
    · rw [List.map_append, List.nodup_append]
      refine ⟨hos0, ?_, ?_⟩
      · simp only [List.map_cons, List.map_nil, List.nodup_cons, List.mem_cons, List.not_mem_nil, or_false, not_or, List.nodup_nil, and_true, not_false_eq_true]
        exact ⟨⟨hIL, hIa⟩, fun e => haL e.symm⟩
      · intro b hb c hc
        obtain ⟨p, hp, rfl⟩ := List.mem_map.mp hb
        simp only [List.map_cons, List.map_nil, List.mem_cons, List.not_mem_nil, or_false] at hc
        rcases hc with rfl | rfl | rfl
        · exact hIo p hp
        · exact hLo p hp
        · exact hao p hp
    · show (s₁.gens.setIfInBounds g gs')[g]? = some gs'
      have : g < s₁.gens.size := by
        have := T.gens g .running (by
          show (s.gens.setIfInBounds g .running)[g]? = some .running
          rw [Array.getElem?_setIfInBounds_self_of_lt hgl])
        exact (Array.getElem?_eq_some_iff.mp this).1
      rw [Array.getElem?_setIfInBounds_self_of_lt this]
    · intro hlt s'' hL'' hI'' hu''
      have := hkap (by omega) s'' hL'' hI'' hu''
      rw [show N0 - k = (N0 - (k + 1)) + 1 from by omega] at this
      exact this
  · obtain ⟨rfl, htold, T⟩ := hr
    refine .inl ⟨rfl, fun h' hk' => ?_⟩
    rw [show N0 - (N0 - k) = k from by omega] at htold
    have n' := nx s₁ .finished h' rfl T hk'
    refine hnone _ htold (F.turn (as := [envg.locals, I]) n' (fun b o hb' e => hk' b o (T.up b o hb' e)) has ?_ hos0)
    intro p hp
    refine .inl ⟨by simp [hp], ?_⟩
    simp only [List.mem_cons, List.not_mem_nil, or_false, not_or]
    exact ⟨hLo p hp, hIo p hp⟩
end
end Mine

open PySem PySem.W PyProof.Rows
namespace Mine
set_option Elab.async false
set_option maxRecDepth 100000
set_option linter.unusedVariables false
set_option maxHeartbeats 1000000

section
variable {w : World} {mg mb : Str → Option Value} {N : Nat} {A : Around} {s₀ : Shared} {env : Env} {vs : Vars} {os : Objs} {xs : List Str} {l f : Addr} {N0 : Nat} {row : List Int}

theorem Sm.forGen {x : Str} {px p p1 p3 : Pos} {arg : PySem.Expr} {body rest : List Stmt} {Q : Flow → Shared → Prop} {i : Nat} (N0 : Nat) (J : Nat → Vars → Objs → Prop) (Jb : Vars → Objs → Prop) (K : Ok env xs) (hh : A.handled = none) (hroom : A.depth < recursionLimit)
    (hG : G w mg mb N s₀.heap) (hf : mg "_grouping_intervals" = some (.ref f)) (kf : env.kindOf "_grouping_intervals" = some .globalImplicit)
    (harg : Ev (model PW w) A env (FH s₀ env vs os) arg (.r l)) (hl : ∃ o, s₀.heap.get? l = some o ∧ Lo (row.map D.i) o) (hrow : row[0]? ≠ some 0) (hx : x ∈ xs)
    (h0 : J 0 vs os) (hJ : ∀ k vs os, J k vs os → k < N0 ∧ ∃ ox, vs[i]? = some (x, ox))
    (turn : ∀ k vs os sB Hs v, told row k = some v → J k vs os → sB.heap = s₀.heap → Sm (model PW w) A env (Fm sB env (vs.set i (x, some (.i v))) (os ++ Hs)) body (fun f s' => match f with
        | .next | .cont => ∃ vs' os', J (k + 1) vs' os' ∧ Fm sB env vs' (os' ++ Hs) s'
        | .brk => ∃ vs' os', Jb vs' os' ∧ Fm sB env vs' (os' ++ Hs) s'
        | .ret v => False))
    (fin : ∀ k vs os, told row k = none → J k vs os → Sm (model PW w) A env (Fm s₀ env vs os) rest Q)
    (brk : ∀ vs os, Jb vs os → Sm (model PW w) A env (Fm s₀ env vs os) rest Q)
    (he' : eval (.Call (.Name "_grouping_intervals" p1) [arg] [] p3) env = (do callWith p3 (← eval (.Name "_grouping_intervals" p1) env) [] (backTo p3 (starEach [arg] env)) (backToKw p3 (keywordEach [] env))) := by rfl)
    (he : starEach [arg] env = (false, eval arg env) :: starEach [] env := by rfl)
    (hs : ∀ x, foldedSetIterable (.Call (.Name "_grouping_intervals" p1) [arg] [] p3) env x = pure x := by intro _; rfl) :
    Sm (model PW w) A env (Fm s₀ env vs os) (.For (.Name x px) (.Call (.Name "_grouping_intervals" p1) [arg] [] p3) body [] p :: rest) Q :=
  .one fun s hs' E => wpAny_For (by
    refine Call_ (Fv.global (H := FH s₀ env vs os) K (FH.glob hG) hf kf (by decide +kernel) s hs' _ _ fun s1 n1 (F1 : Fm s₀ env vs os s1) => ?_) he'
    obtain ⟨_, o, pm, c', doc, ho, hd, _⟩ := made_at (d := dGrp) (by unfold theDefs; simp) dGrp_ok.nd (by rw [dGrp_name]; exact hf) s1 (FH.glob hG s1 F1)
    refine callWith_def hd ((Avs.cons harg Avs.nil he).run s1 F1 _ _ fun us s2 g2 n2 (F2 : Fm s₀ env vs os s2) => ⟨n2.up _ _ ho, ?_⟩) he
    obtain ⟨v, rfl, hv⟩ := g2.one
    refine gen_call hf hroom hG F2 hv fun s3 a g oL envg hE hfr F3 hg hgz O => ?_
    obtain ⟨_, _, _, oa, hoa, nm, qn, q1, q2, q3⟩ := F3.own (a, isGenT g) (by simp)
    refine wpAny_pyIter_gen ⟨oa, nm, qn, hoa, q1, q2, q3⟩ ?_
    obtain ⟨_, _, _, oL', hoL', he2⟩ := F3.own (envg.locals, (· = oL)) (by simp)
    have he2 : oL' = oL := he2
    subst he2
    have F4 : Fm s₀ env vs (os ++ [(a, isGenT g), (envg.locals, (· = oL'))]) s3 := by
      refine F3.turn (as := []) F3.nx (fun _ _ _ e => e) (fun _ h => nomatch h) (fun p hp => .inl ⟨?_, fun h => nomatch h⟩) ?_
      · rcases List.mem_append.mp hp with h | h
        · exact List.mem_cons_of_mem _ (List.mem_cons_of_mem _ h)
        · rcases List.mem_cons.mp h with rfl | h
          · exact List.mem_cons_self
          · rw [List.mem_singleton.mp h]; exact List.mem_cons_of_mem _ List.mem_cons_self
      · have nd := F3.nodup
        rw [show ((a, isGenT g) :: (envg.locals, (· = oL')) :: os) = [(a, isGenT g), (envg.locals, (· = oL'))] ++ os from rfl, List.map_append, List.nodup_append] at nd
        rw [List.map_append, List.nodup_append]
        exact ⟨nd.2.1, nd.1, fun b hb c hc e => nd.2.2 c hc b hb e.symm⟩
    refine codeAny_forLoop (fun m s => ∃ k vs os Hs, m = N0 - k ∧ J k vs os ∧ Fm s₀ env vs (os ++ Hs) s ∧ Wt w A s₀ envg l a g N0 row k Hs s) (fun m s hI => ?_) N0
      ⟨0, vs, os, _, by simp, h0, F4, .fresh oL' hg hoL' O⟩
    obtain ⟨k, vs', os', Hs, rfl, hJk, F, W⟩ := hI
    obtain ⟨hk, ox, hix⟩ := hJ k vs' os' hJk
    refine next_step hE hG hl hrow hh hroom hgz hk F W (fun v t s' Hs' htold F' W' => ?_) (fun s' htold F' => ?_)
    · refine wpAny_assign_Name (F'.gens.store hix (show Is0 (.int v t) (.i v) from ⟨t, rfl⟩) K.fn (K.st x hx) fun s5 F5' => ?_)
      have F5 := F5'.ungens F'.nx.gens F'.nx.bare
      have hW5 := W'.keep hE F5' F' rfl
      · refine wpAny_mono ((turn k vs' os' { s₀ with gens := s5.gens } Hs' v htold hJk rfl).run s5 F5.gens _) (fun f s6 h6 => ?_) fun _ _ e => e
        have back : ∀ {vs' os'}, Fm { s₀ with gens := s5.gens } env vs' (os' ++ Hs') s6 → Fm s₀ env vs' (os' ++ Hs') s6 := fun F => F.ungens F5.nx.gens F5.nx.bare
        cases f with
        | next => obtain ⟨vs2, os2, hJ2, F6⟩ := h6; exact ⟨N0 - (k + 1), by omega, k + 1, vs2, os2, Hs', rfl, hJ2, back F6, hW5.keep hE F6 F5 rfl⟩
        | cont => obtain ⟨vs2, os2, hJ2, F6⟩ := h6; exact ⟨N0 - (k + 1), by omega, k + 1, vs2, os2, Hs', rfl, hJ2, back F6, hW5.keep hE F6 F5 rfl⟩
        | brk =>
          obtain ⟨vs2, os2, hJ2, F6⟩ := h6
          exact (brk vs2 os2 hJ2).run _ ((back F6).weak (fun _ _ _ h => h) rfl (List.sublist_append_left _ _))
        | ret v => exact h6.elim
    · exact wpAny_execs_nil ((fin k vs' os' htold hJk).run _ F')) hs
end
end Mine

open PySem PySem.W PyProof.Rows
namespace Mine
set_option Elab.async false
set_option maxRecDepth 100000
set_option linter.unusedVariables false
set_option maxHeartbeats 1000000

/- the marks from the k-th size on -/
noncomputable def marksFrom (row : List Int) (e : Int) : Nat → Nat → Int → List Int
  | _, 0, _ => []
  | k, m + 1, pl => match told row k with
    | none => []
    | some x => if e ≤ pl + x then [] else (pl + x) :: marksFrom row e (k + 1) m (pl + x)
noncomputable def marksL (row : List Int) (e : Nat) : List Int := marksFrom row e 0 (e + 1) (-1)

noncomputable def marPs : List Str := ["row", "end"]
noncomputable def marLs : List Str := ["marks", "place", "size"]
noncomputable def marV (l : Addr) (m : Int) (ma pl sz : Option D) : Vars := [("row", some (.r l)), ("end", some (.i m)), ("marks", ma), ("place", pl), ("size", sz)]

theorem Sm.retObj {M : Model} {A : Around} {env : Env} {s₀ : Shared} {vs : Vars} {os : Objs} {e : PySem.Expr} {p : Pos} {rest : List Stmt} {j : Nat} {a : Addr} {T : Obj → Prop} (he : Ev M A env (FH s₀ env vs os) e (.r a)) (hj : os[j]? = some (a, T)) :
    Sm M A env (Fm s₀ env vs os) (.Return (some e) p :: rest) (Post s₀ (.o T)) :=
  .one fun s hs E => wpAny_Return_some (he.run s hs _ _ fun v s' g n (F : Fm s₀ env vs os s') => by
    cases (show v = .ref a from g)
    obtain ⟨_, _, h0, o, ho, hT⟩ := F.own _ (List.mem_of_getElem? hj)
    exact ⟨⟨a, o, rfl, h0, ho, hT⟩, F.nx⟩)

theorem marks_walk {w : World} {mg mb : Str → Option Value} {N : Nat} {A : Around} {a f : Addr} (ha : mg "_law_marks" = some (.ref a)) (hf : mg "_grouping_intervals" = some (.ref f)) (hroom : A.depth + 1 < recursionLimit) (hh : A.handled = none)
    (row : List Int) (hrow : row[0]? ≠ some 0) (hpos : ∀ k x, told row k = some x → 1 ≤ x) (m : Nat) (hm : 0 < m) (hm2 : m ≤ 2000) :
    Cr (model PW w) A (GH w mg mb N) (.ref a) [.k (Lo (row.map D.i)), .i m] (.o (Ls ((marksL row m).map D.i))) := by
  have hmem : dRuns ∈ theDefs := by unfold theDefs; simp
  refine Cr.plain (d := dRuns) marPs marLs (made_at hmem dRuns_ok.nd (by rw [dRuns_name]; exact ha)) (by omega) rfl (by decide +kernel) ?_ (by decide +kernel) (by kernel_rfl) (by kernel_rfl) (by kernel_rfl) (by decide +kernel) ?_
  · intro vs hvs pm c doc
    obtain ⟨u, v, rfl⟩ := len_2 hvs
    kernel_rfl
  intro s₀ env es hG hL K hsc
  obtain ⟨d, e, rfl, ⟨l, ol, rfl, hol, hlo⟩, he⟩ := hL.two
  obtain rfl : e = .i m := he
  have hd0 : (A.deeper env).handled = none := hh
  show Sm _ _ _ (Fm s₀ env (marV l m none none none) []) _ _
  with_unfolding_all refine Sm.open ?_
  refine Sm.new (i := 2) (T := Ls (([] : List Int).map D.i)) K rfl (by decide +kernel) (Ev.list Avs.nil trivial (by decide)) fun lr => ?_
  refine Sm.assign (i := 3) (d := .i (-1)) K rfl (by decide +kernel) (Ev.un (Ev.int (n := 1)) (Op.neg _)) (fun _ h => nomatch h) (fun _ h => nomatch h) ?_
  refine Sm.forGen (i := 4) (m + 1) (fun k vs os => ∃ sz acc pl, (k : Int) ≤ pl + 1 ∧ pl < m ∧ acc.length ≤ k ∧ acc ++ marksFrom row m k (m + 1 - k) pl = marksL row m ∧ vs = marV l m (some (.r lr)) (some (.i pl)) sz ∧ os = [(lr, Ls (acc.map D.i))])
    (fun vs os => ∃ sz pl, vs = marV l m (some (.r lr)) pl sz ∧ os = [(lr, Ls ((marksL row m).map D.i))]) K hd0 (show A.depth + 1 < recursionLimit from hroom) hG hf (kd hsc (by kernel_rfl)) (Ev.var (i := 0) K rfl) ⟨ol, hol, hlo⟩ hrow (by decide +kernel)
    ⟨none, [], -1, by omega, by omega, Nat.le_refl _, rfl, rfl, rfl⟩ (by rintro k vs os ⟨sz, acc, pl, h1, h2, _, _, rfl, rfl⟩; exact ⟨by omega, _, rfl⟩) ?_ ?_ ?_
  · rintro k vs os sB Hs v htold ⟨sz, acc, pl, h1, h2, h0, h3, rfl, rfl⟩ hB
    have hv := hpos k v htold
    have hstep : marksFrom row m k (m + 1 - k) pl = if (m : Int) ≤ pl + v then [] else (pl + v) :: marksFrom row m (k + 1) (m + 1 - (k + 1)) (pl + v) := by
      rw [show m + 1 - k = (m + 1 - (k + 1)) + 1 from by omega]
      conv => lhs; unfold marksFrom
      rw [htold]
    refine Sm.assign (i := 3) (d := .i (pl + v)) K rfl (by decide +kernel) (Ev.bin (Ev.var (i := 3) K rfl) (Ev.var (i := 4) K rfl) (Op.add _ _)) (fun _ h => nomatch h) (fun _ h => nomatch h) ?_
    refine Sm.When (b := decide ((m : Int) ≤ pl + v)) (Tr.cmp (Ev.var (i := 3) K rfl) (Ev.var (i := 1) K rfl) (Op.ge _ _)) (fun h => ?_) (fun h => ?_)
    · rw [hstep, if_pos (of_decide_eq_true h), List.append_nil] at h3
      exact Sm.brk fun s F => ⟨marV l m (some (.r lr)) (some (.i (pl + v))) (some (.i v)), [(lr, Ls (acc.map D.i))], ⟨_, _, rfl, by rw [h3]⟩, F⟩
    · have hlt := of_decide_eq_false h
      rw [hstep, if_neg hlt] at h3
      refine Sm.append (j := 0) K rfl (Ev.var (i := 2) K rfl) (Ev.var (i := 3) K rfl) (fun _ h => nomatch h) (fun _ h => nomatch h) (by simp; omega) ?_
      have hT : (acc.map D.i) ++ [D.i (pl + v)] = (acc ++ [pl + v]).map D.i := by simp
      rw [hT]
      exact Sm.nil fun s F => ⟨marV l m (some (.r lr)) (some (.i (pl + v))) (some (.i v)), [(lr, Ls ((acc ++ [pl + v]).map D.i))], ⟨_, acc ++ [pl + v], pl + v, by omega, by omega, by simp; omega, by rw [← h3]; simp, rfl, rfl⟩, F⟩
  · rintro k vs os htold ⟨sz, acc, pl, h1, h2, h0, h3, rfl, rfl⟩
    have hstep : marksFrom row m k (m + 1 - k) pl = [] := by
      rw [show m + 1 - k = (m + 1 - (k + 1)) + 1 from by omega]
      unfold marksFrom
      rw [htold]
    rw [hstep, List.append_nil] at h3
    rw [← h3]
    exact Sm.retObj (j := 0) (Ev.var (i := 2) K rfl) rfl
  · rintro vs os ⟨sz, pl, rfl, rfl⟩
    exact Sm.retObj (j := 0) (Ev.var (i := 2) K rfl) rfl
end Mine

open PySem PySem.W PyProof.Rows
namespace Mine
set_option Elab.async false
set_option maxRecDepth 100000
set_option linter.unusedVariables false
set_option maxHeartbeats 1000000

/- the frames' places -/
noncomputable def ffs (l : List Env) : List Addr := l.filterMap (·.frame)
/- a heap that holds the frames of functions -/
noncomputable def Fn (h : Heap) (l : List Env) : Prop := ∀ env ∈ l, env.scope.kind ≠ .module ∧ ∃ L o, env.frame = some L ∧ h.get? L = some o ∧ ∀ vs, o.data ≠ .fields vs
noncomputable def bs (h : Heap) (l : List Env) : Heap := woAll h (ffs l)
theorem bs_stays (h : Heap) (l : List Env) : (bs h l).StaysIn h := fun b o e => (woAll_some e).2
theorem bs_keep {h : Heap} {l : List Env} {b : Addr} {o : Obj} (hb : b ∉ ffs l) (e : h.get? b = some o) : (bs h l).get? b = some o := (woAll_other h hb).trans e
theorem Fn.fun {h base : Heap} : ∀ {l : List Env}, Fn h l → (∀ L ∈ ffs l, base.get? L = none) → h.FunFrames base l
  | [], _, _ => trivial
  | env :: l, x, y => by
    obtain ⟨h1, L, o, h2, h3, h4⟩ := x env List.mem_cons_self
    refine ⟨h1, ⟨L, o, h2, y L ?_, h3, h4⟩, Fn.fun (fun e he => x e (List.mem_cons_of_mem _ he)) fun L' hL' => y L' ?_⟩
    · unfold ffs; rw [List.filterMap_cons, h2]; exact List.mem_cons_self
    · unfold ffs at hL' ⊢; rw [List.filterMap_cons, h2]; exact List.mem_cons_of_mem _ hL'
theorem Fn.cons {h : Heap} {l : List Env} {env : Env} {L : Addr} {m : Str → Option Value} (x : Fn h l) (hk : env.scope.kind ≠ .module) (hf : env.frame = some L) (hn : h.Ns L m) : Fn h (env :: l) := by
  intro e he
  rcases List.mem_cons.mp he with rfl | he
  · obtain ⟨o, es, ep, ho, hd, _⟩ := hn
    exact ⟨hk, L, o, hf, ho, fun vs q => by rw [hd] at q; cases q⟩
  · exact x e he

theorem FunFrames.less {h base base' : Heap} (k : base'.StaysIn base) : ∀ {l : List Env}, h.FunFrames base l → h.FunFrames base' l
  | [], _ => trivial
  | env :: l, ⟨h1, ⟨L, o, h2, h3, h4⟩, h5⟩ => ⟨h1, ⟨L, o, h2, (by
      cases e : base'.get? L with
      | none => rfl
      | some o' => rw [k _ _ e] at h3; cases h3), h4⟩, FunFrames.less k h5⟩
theorem FlyingW.less {base base' h : Heap} {l : List Env} {e : Addr} {cls a0 : Value} (k : base'.StaysIn base) (x : Heap.FlyingW base l e cls a0 h) : Heap.FlyingW base' l e cls a0 h := by
  obtain ⟨k1, k2, k3, oe, vs, T, oT, ts, h1, h2, h3, h4, h5, r⟩ := x
  have no : ∀ b, base.get? b = none → base'.get? b = none := fun b hb => by
    cases e : base'.get? b with
    | none => rfl
    | some o' => rw [k _ _ e] at hb; cases hb
  exact ⟨fun b o e => k1 b o (k b o e), no _ k2, FunFrames.less k k3, oe, vs, T, oT, ts, h1, h2, h3, h4, no _ h5, r⟩

section
variable {M : Model} {A : Around} {E : Value → Shared → Prop} {s : Shared}

/- the first frame that an exception passes notes it -/
theorem noted_first {base : Heap} {env : Env} {outer : List Env} {L e : Addr} {oe : Obj} {vs : Array Value} {a0 : Value} {Q : Unit → Shared → Prop}
    (hfr : A.frames = some (env :: outer)) (hl : s.heap.FunFrames base (env :: outer)) (hf : env.frame = some L)
    (he : s.heap.get? e = some oe) (hkb : base.StaysIn s.heap) (hen : base.get? e = none) (hd : oe.data = .fields vs) (h1 : vs[1]? = some .none) (h0 : vs[0]? = some a0)
    (h : ∀ h', Heap.HeldW base (env :: outer) e oe.cls a0 L h' → s.heap.UpToSlots h' → Q () { s with heap := h' }) : wpAny M A (noteFrame (.ref e) env) Q E s := by
  unfold noteFrame
  simp only [hf]
  refine wpAny_bind (wpAny_field he hd h1 ?_)
  rw [if_neg (by decide)]
  exact wpAny_entryW hfr hl hf he hkb hen hd (Array.getElem?_eq_some_iff.mp h1).1 h0 fun h' ⟨k1, k2, k3, k4⟩ => h h' ⟨k1, hen, k2, k3⟩ k4

/- back from a frame of its own, in flight again -/
theorem back_held {base : Heap} {l : List Env} {env : Env} {e L : Addr} {cls a0 : Value} {Q : Unit → Shared → Prop} (hf : env.frame = some L) (hh : Heap.HeldW base l e cls a0 L s.heap)
    (hQ : ∀ h', Heap.HeldW base l e cls a0 L h' → s.heap.UpToSlots h' → Q () { s with heap := h' }) : wpAny M A (back env (.ref e)) Q E s := by
  obtain ⟨hkb, hen, hl, oe, vs, T, oT, ts, he, hcls, hd, h1, hnT, hTe, hT, hdT, h3⟩ := hh
  have hsz3 : 3 < ts.size := (Array.getElem?_eq_some_iff.mp h3).1
  unfold back
  refine wpAny_bind (wpAny_field he hd h1 ?_)
  rw [if_neg (show ¬ ((Value.ref T == Value.none) = true) from by simp)]
  unfold setFlight
  refine wpAny_bind (wpAny_field he hd h1 ?_)
  rw [if_pos (show (Value.ref T != Value.none) = true from by simp), hf]
  have other : ∀ b, b ≠ T → (s.heap.update T (Obj.mapFields (·.setIfInBounds 3 (rawInt L)))).get? b = s.heap.get? b := fun b hb => Heap.get?_update_other _ _ (Ne.symm hb)
  have noRecord : ∀ b o, s.heap.get? b = some o → (∀ vs, o.data ≠ .fields vs) → b ≠ T := fun b o hb hnf q => by
    rw [q, hT] at hb; injection hb with hb; subst hb; exact hnf ts hdT
  refine wpAny_setField hT hdT hsz3 (hQ _ ?_ (fun b o hb hnf => ⟨o.slots, (other b (noRecord b o hb hnf)).trans hb⟩))
  refine ⟨fun b o hb => (other b fun q => by rw [q, hnT] at hb; cases hb).trans (hkb b o hb), hen, hl.of_keeps fun b o hb hnf => ⟨o, (other b (noRecord b o hb hnf)).trans hb, rfl⟩, oe, vs, T, _, _, (other e (Ne.symm hTe)).trans he, hcls, hd, h1, hnT, hTe,
    Heap.get?_update_self _ hT (Obj.isFreed_of_fields (Obj.data_mapFields hdT _)), Obj.data_mapFields hdT _, by simp [hsz3]⟩

/- a frame is left by an exception that it holds -/
theorem leaves_held {base : Heap} {env : Env} {outer : List Env} {L e : Addr} {cls a0 : Value} {Q : Unit → Shared → Prop} (hf : env.frame = some L)
    (hh : Heap.HeldW base (env :: outer) e cls a0 L s.heap) (hQ : ∀ h', Heap.FlyingW base outer e cls a0 h' → s.heap.UpToSlots h' → Q () { s with heap := h' }) : wpAny M A (leaving env (.ref e)) Q E s := by
  unfold leaving
  refine wpAny_bind (wpAny_noteFrame_againW hf hh.2.2.2 ?_)
  refine wpAny_landsW hh fun h' hfl hu => ?_
  obtain ⟨k1, k2, ⟨_, _, k3⟩, k4⟩ := hfl
  exact hQ h' ⟨k1, k2, k3, k4⟩ hu
end
end Mine

open PySem PySem.W PyProof.Rows
namespace Mine
set_option Elab.async false
set_option maxRecDepth 100000
set_option linter.unusedVariables false
set_option maxHeartbeats 1000000

theorem Fn.keep {h h' : Heap} {l : List Env} (x : Fn h l) (k : ∀ L ∈ ffs l, ∀ o, h.get? L = some o → h'.get? L = some o) : Fn h' l := fun env he =>
  let ⟨h1, L, o, h2, h3, h4⟩ := x env he; ⟨h1, L, o, h2, k L (List.mem_filterMap.mpr ⟨env, he, h2⟩) o h3, h4⟩

/- how a generator that raises ends -/
noncomputable def gRaise (S0 : Shared) (base : Heap) (outer : List Env) : GenEnd := fun _ s₀ r s₁ => ∃ e a0, r = .error (.ref e) ∧ Heap.FlyingW base outer e (.type "ValueError") a0 s₁.heap ∧ S0.heap.UpToSlots s₁.heap ∧ s₁.os = s₀.os ∧ (∀ (i : Nat) g, s₀.gens[i]? = some g → s₁.gens[i]? = some g) ∧ (AllBare s₀.gens → AllBare s₁.gens)
noncomputable def gNo : Protocol := fun _ _ _ _ _ => False

section
variable {w : World} {mg mb : Str → Option Value} {N : Nat} {A : Around} {S0 : Shared} {env : Env} {l : Addr} {row : List Int} {outer : List Env}

theorem gen_raise (hG : G w mg mb N S0.heap) (hl : ∃ o, S0.heap.get? l = some o ∧ Lo (row.map D.i) o) (hL : S0.heap.get? env.locals = none) (hE : GE env) (hfr : env.frame = some env.locals) (hh : A.handled = none) (hA : A.frames = some outer) (hrow : row[0]? = some 0)
    (s : Shared) (hu : Up S0 s) (O : Own env (gv l none none) [] s) (hF : Fn s.heap outer) (hnot : env.locals ∉ ffs outer) (base' : Heap) (hb1 : base'.StaysIn (bs s.heap (env :: outer))) :
    Seg (model PW w) A (gRaise S0 base' outer) gNo 0 s (.func dGrp.body env) ((model PW w).den (.func dGrp.body env)) [] s := by
  obtain ⟨P, C, hb⟩ := grp_is
  refine seg_func ?_
  show Seg _ A _ _ 0 s _ ((execs dGrp.body env).wrap K0 (H0 env) id id) [] s
  rw [show execs dGrp.body env = execs [.Assign [.Name "last_interval" (P 0)] (.Constant .none (C 0) (P 1)) (P 2), .For (.Name "interval" (P 3)) (.Name "grouping" (P 4)) (FB P C) [] (P 33)] env from by rw [hb]]
  have F := O.fm hE.cells
  have hffs : ffs (env :: outer) = env.locals :: ffs outer := by unfold ffs; rw [List.filterMap_cons, hfr]
  have hupS : Up S0 (base env [] s) := fun b o e => by
    refine (woAll_other _ ?_).trans (hu b o e)
    intro h
    rcases List.mem_cons.mp h with rfl | h
    · rw [hL] at e; cases e
    · cases h
  refine seg_stmt (wpAny_Assign_Name ((Ev.none (H := FH (base env [] s) env _ _)).run s F _ _ fun v0 s1 g1 n1 F1 => ?_) rfl)
  refine (show Fm (base env [] s) env (gv l none none) [] s1 from F1).store (i := 1) (d := .n) rfl g1 hE.ok.fn (hE.ok.st _ (by decide)) fun s2 F2 => ?_
  refine seg_execs_cons (seg_For ?_)
  refine (Ev.var (i := 0) (d := .r l) hE.ok rfl).run s2 F2 _ _ fun v s3 g3 n3 F3 => ?_
  cases (show v = .ref l from g3)
  have F3' : Fm (base env [] s) env (gv l (some .n) none) [] s3 := F3
  obtain ⟨ol, hol, hLo⟩ := hl
  obtain ⟨items, hls, hIt, hsz2⟩ := hLo.is hol
  refine wpAny_pyIter_list (hls.at fun o e => F3'.nx.up _ _ (hupS _ _ e)) fun p => ?_
  generalize hIe : s3.heap.objs.size = I
  have hI3 : s3.heap.get? I = none := fresh_size _ _ (Nat.le_of_eq hIe)
  have F4 := F3'.made (T := itT l 0) (a := I) (Nx.push s3 { cls := .type "list_iterator", data := .fields #[.ref l, .int 0 0] }) hI3 (by rw [← hIe]; exact Heap.get?_push_size _ rfl) ⟨rfl, rfl⟩
  generalize { s3 with heap := s3.heap.push { cls := .type "list_iterator", data := .fields #[.ref l, .int 0 0] } } = s4 at F4 ⊢
  generalize hfs : [retF env (K1 env) (H0 env) (.func dGrp.body env) p] = fs
  have hc1 : (A.over (.forLoop (.Name "interval" (P 3)) (.ref I) (FB P C) [] env) fs).handled = none := by rw [← hfs]; exact hh
  have hc2 : (A.over (.forLoop (.Name "interval" (P 3)) (.ref I) (FB P C) [] env) fs).frames = some (env :: outer) := by
    rw [← hfs]
    show pushEnvs [] (pushEnvs [env] A.frames) = _
    rw [hA]; rfl
  have hlI : l ≠ I := by
    rintro rfl
    have := F3'.nx.up _ _ (hupS _ _ hol)
    rw [hI3] at this; cases this
  have W := Walks.list (prog := PW) (w := w) hc1 I l hlI items
  have hst : s4.heap.IsListIter I l 0 ∧ s4.heap.IsList l items := by
    obtain ⟨_, _, _, oI, hoI, hc, hd⟩ := F4.own _ List.mem_cons_self
    exact ⟨⟨oI, hoI, hc, hd⟩, hls.at fun o e => F4.nx.up _ _ (hupS _ _ e)⟩
  have hlen : 0 < row.length := (List.getElem?_eq_some_iff.mp hrow).1
  show Seg _ A _ _ 0 s _ _ [retF env (K1 env) (H0 env) (.func dGrp.body env) p] s4
  rw [hfs]
  refine seg_forLoop (W.item 0 _ _ _ (by rw [hsz2, List.length_map]; exact hlen) hst fun v h₂ tk₂ hPv hst₂ hk₂ => ?_)
  have hv : ∃ t, v = .int 0 t := by
    obtain ⟨u, hu1, t, rfl⟩ := hIt.get 0 (d := .i 0) (by rw [List.getElem?_map, hrow]; rfl)
    have h2 : items.toList[0]? = some v := by rw [Array.getElem?_toList]; exact hPv
    rw [hu1] at h2
    exact ⟨t, Option.some.inj h2.symm⟩
  obtain ⟨tv, rfl⟩ := hv
  obtain ⟨⟨oI2, hoI2, hcI2, hdI2⟩, _⟩ := hst₂
  have F5 := F4.changed (j := 0) (tk := tk₂) (T' := itT l 1) rfl hoI2 ⟨hcI2, hdI2⟩ (fun b o hb e => hk₂ b o (by simpa using hb) e)
  refine wpAny_pure ?_
  refine wpAny_assign_Name (F5.store (i := 2) (d := .i 0) rfl ⟨tv, rfl⟩ hE.ok.fn (hE.ok.st _ (by decide)) fun s6 F6 => ?_)
  have hG2 : G w mg mb N (base env [] s).heap := hG.keeps hupS
  have g : ∀ {vs os} s', (FH (base env [] s) env vs os).P s' → G w mg mb N s'.heap := fun {vs os} => FH.glob hG2
  have kMax : env.kindOf "CHAR_MAX" = some .globalImplicit := kd hE.sc (by kernel_rfl)
  have kVal : env.kindOf "ValueError" = some .globalImplicit := kd hE.sc (by kernel_rfl)
  have F6' : Fm (base env [] s) env (gv l (some .n) (some (.i 0))) [(I, itT l 1)] s6 := F6
  refine seg_execs_cons (seg_If ((Tr.cmp (H := FH (base env [] s) env (gv l (some .n) (some (.i 0))) [(I, itT l 1)]) (b := false) (Ev.var (i := 2) hE.ok rfl) (Ev.gint hE.ok g (by unfold theConsts; simp) kMax) (Op.eq 0 127)).run s6 F6' _ _ fun s7 n7 F7 => ?_))
  rw [if_neg Bool.false_ne_true]
  refine seg_execs_nil ?_
  refine seg_execs_cons (seg_If ((Tr.cmp (H := FH (base env [] s) env (gv l (some .n) (some (.i 0))) [(I, itT l 1)]) (b := true) (Ev.var (i := 2) hE.ok rfl) (Ev.int (n := 0)) (Op.eq 0 0)).run s7 F7 _ _ fun s8 n8 F8 => ?_))
  rw [if_pos rfl]
  refine seg_execs_cons (seg_If ((Tr.cmp (H := FH (base env [] s) env (gv l (some .n) (some (.i 0))) [(I, itT l 1)]) (b := true) (Ev.var (i := 1) hE.ok rfl) Ev.none (Op.isNone _ _ (fun s v h => by cases (show v = .none from h); rfl))).run s8 F8 _ _ fun s9 n9 F9 => ?_))
  rw [if_pos rfl]
  have hboot : bootBuiltins "ValueError" = some (.type "ValueError") := by decide +kernel
  refine seg_stmt (wpAny_Raise_call PySem.F.excCall_ValueError PySem.F.excRaise_ValueError hc1 rfl ((Fv.builtin hE.ok g hboot (by decide +kernel) (by decide +kernel) (by decide +kernel) kVal (by decide +kernel)) s9 F9 _ _ fun s10 n10 F10 => ⟨rfl, Calls.evalArgs_plain ((Avs.cons (Ev.str (l := "invalid grouping".toList.map Char.toNat) (by decide +kernel)) Avs.nil).run s10 F10 _ _ fun us s11 g11 n11 F11 => ⟨rfl, (by
    have := g11.length
    have h2 : sizeLine = 2 ^ 24 := rfl
    show us.length ≤ sizeLine
    rw [this, h2]; decide), fun h' e hm => ?_⟩)⟩))
  have F11' : Fm (base env [] s) env (gv l (some .n) (some (.i 0))) [(I, itT l 1)] s11 := F11
  -- the exception flies
  have hLn : ∀ L ∈ ffs outer, ∀ o, s.heap.get? L = some o → h'.get? L = some o := fun L hL o e =>
    hm.keeps _ _ (F11'.nx.up _ _ ((woAll_other _ (by
      intro hc
      rcases List.mem_cons.mp hc with rfl | hc
      · exact hnot hL
      · cases hc)).trans e))
  obtain ⟨m11, hns11⟩ := F11'.ns
  have hFn : Fn h' (env :: outer) := (hF.keep hLn).cons (by rw [hE.ok.fn]; decide) hfr (hns11.keeps hm.keeps)
  have hbase : (bs s.heap (env :: outer)).StaysIn h' := fun b o hb => by
    obtain ⟨h1, h2⟩ := woAll_some hb
    rw [hffs] at h1
    exact hm.keeps _ _ (F11'.nx.up _ _ ((woAll_other _ (by
      intro hc
      rcases List.mem_cons.mp hc with rfl | hc
      · exact h1 List.mem_cons_self
      · cases hc)).trans h2))
  obtain ⟨t, he, _, _⟩ := hm.there
  have hen : (bs s.heap (env :: outer)).get? e = none := by
    cases hq : (bs s.heap (env :: outer)).get? e with
    | none => rfl
    | some o =>
      obtain ⟨h1, h2⟩ := woAll_some hq
      rw [hffs] at h1
      have := F11'.nx.up _ _ ((woAll_other s.heap (as := [env.locals]) (b := e) (by
        intro hc
        rcases List.mem_cons.mp hc with rfl | hc
        · exact h1 List.mem_cons_self
        · cases hc)).trans h2)
      rw [hm.new] at this; cases this
  have hfun : h'.FunFrames (bs s.heap (env :: outer)) (env :: outer) := hFn.fun fun L hL => woAll_self _ hL
  have tn : Tn [env.locals] s s11 := F11'.tn
  show Seg _ A _ _ 0 s _ (noteH env (.ref e)) fs { s11 with heap := h' }
  refine seg_wrap (wpAny_bind (noted_first (s := { s11 with heap := h' }) hc2 hfun hfr he hbase hen rfl rfl rfl fun h1 hH hu1 => wpAny_theTreesLotGoes ?_))
  rw [← hfs]
  refine seg_leaf (.error (.ref e)) ?_
  show Seg _ A _ _ 0 s (.func dGrp.body env) (((Sem.raise (.ref e) : Sem Flow).onRaise (back env)).wrap (K1 env) (H0 env) id id) [] { s11 with heap := h1 }
  show Seg _ A _ _ 0 s (.func dGrp.body env) (((back env (.ref e)).bind fun _ => (Sem.raise (.ref e) : Sem Flow)).wrap (K1 env) (H0 env) id id) [] { s11 with heap := h1 }
  rw [Sem.bind_eq_wrap, Sem.wrap_wrap]
  refine seg_wrap (back_held hfr hH fun h2 hH2 hu2 => ?_)
  show Seg _ A _ _ 0 s (.func dGrp.body env) ((leaving env (.ref e)).wrap (fun _ => .raise (.ref e)) .raise id id) [] { s11 with heap := h2 }
  refine seg_wrap (leaves_held hfr hH2 fun h3 hfl hu3 => ?_)
  refine seg_end (.error (.ref e)) ⟨e, _, rfl, FlyingW.less hb1 hfl, ?_, tn.os, tn.gens, tn.bare⟩
  exact (Heap.UpToSlots.of_keeps fun b o e => hm.keeps _ _ (F11'.nx.up _ _ (hupS _ _ e))).trans ((hu1.trans hu2).trans hu3)
end
end Mine

open PySem PySem.W PyProof.Rows
namespace Mine
set_option Elab.async false
set_option maxRecDepth 100000
set_option linter.unusedVariables false
set_option maxHeartbeats 1000000

/- an exception's rest: what stands from s₀ on -/
structure Rz (s₀ s' : Shared) : Prop where
  up : s₀.heap.UpToSlots s'.heap
  os : s'.os = s₀.os
  gens : ∀ (i : Nat) g, s₀.gens[i]? = some g → s'.gens[i]? = some g
  bare : AllBare s₀.gens → AllBare s'.gens
theorem Rz.heap {s₀ s' : Shared} {h' : Heap} (x : Rz s₀ s') (k : s'.heap.UpToSlots h') : Rz s₀ { s' with heap := h' } := ⟨x.up.trans k, x.os, x.gens, x.bare⟩

section
variable {w : World} {mg mb : Str → Option Value} {N : Nat} {A : Around} {s₀ : Shared} {env : Env} {vs : Vars} {os : Objs} {xs : List Str} {l f : Addr} {row : List Int} {outer : List Env}

/- the loop over a refused row -/
theorem for_raise {x : Str} {px p p1 p3 : Pos} {arg : PySem.Expr} {body : List Stmt} {Q : Flow → Shared → Prop} {E : Value → Shared → Prop} {s : Shared} (hB : Heap) (K : Ok env xs) (hfr : env.frame = some env.locals) (hA : A.frames = some (env :: outer)) (hh : A.handled = none) (hroom : A.depth < recursionLimit)
    (hG : G w mg mb N s₀.heap) (hf : mg "_grouping_intervals" = some (.ref f)) (kf : env.kindOf "_grouping_intervals" = some .globalImplicit)
    (harg : Ev (model PW w) A env (FH s₀ env vs os) arg (.r l)) (hl : ∃ o, s₀.heap.get? l = some o ∧ Lo (row.map D.i) o) (hrow : row[0]? = some 0)
    (hF : Fn s₀.heap outer) (hBs : hB.StaysIn s₀.heap) (hBn : ∀ L ∈ ffs outer, hB.get? L = none) (F : Fm s₀ env vs os s)
    (hE : ∀ e a0 s', Heap.HeldW hB (env :: outer) e (.type "ValueError") a0 env.locals s'.heap → Rz s₀ s' → E (.ref e) s')
    (he' : eval (.Call (.Name "_grouping_intervals" p1) [arg] [] p3) env = (do callWith p3 (← eval (.Name "_grouping_intervals" p1) env) [] (backTo p3 (starEach [arg] env)) (backToKw p3 (keywordEach [] env))) := by rfl)
    (he : starEach [arg] env = (false, eval arg env) :: starEach [] env := by rfl)
    (hs : ∀ x, foldedSetIterable (.Call (.Name "_grouping_intervals" p1) [arg] [] p3) env x = pure x := by intro _; rfl) :
    wpAny (model PW w) A (exec (.For (.Name x px) (.Call (.Name "_grouping_intervals" p1) [arg] [] p3) body [] p) env) Q E s :=
  wpAny_For (by
    refine Call_ (Fv.global (H := FH s₀ env vs os) K (FH.glob hG) hf kf (by decide +kernel) s F _ _ fun s1 n1 (F1 : Fm s₀ env vs os s1) => ?_) he'
    obtain ⟨_, o, pm, c', doc, ho, hd, _⟩ := made_at (d := dGrp) (by unfold theDefs; simp) dGrp_ok.nd (by rw [dGrp_name]; exact hf) s1 (FH.glob hG s1 F1)
    refine callWith_def hd ((Avs.cons harg Avs.nil he).run s1 F1 _ _ fun us s2 g2 n2 (F2 : Fm s₀ env vs os s2) => ⟨n2.up _ _ ho, ?_⟩) he
    obtain ⟨v, rfl, hv⟩ := g2.one
    refine gen_call hf hroom hG F2 hv fun s3 a g oL envg hEg hfrg F3 hg hgz O => ?_
    obtain ⟨ha1, _, ha3, oa, hoa, hgen⟩ := F3.own (a, isGenT g) (by simp)
    obtain ⟨nm, qn, q1, q2, q3⟩ := id hgen
    refine wpAny_pyIter_gen ⟨oa, nm, qn, hoa, q1, q2, q3⟩ ?_
    obtain ⟨hL1, _, hL3, oL', hoL', he2⟩ := F3.own (envg.locals, (· = oL)) (by simp)
    have haL : a ≠ envg.locals := by have nd := F3.nodup; simp at nd; exact fun e => nd.1.1 e
    have hout : ∀ L ∈ ffs outer, ∃ o, s₀.heap.get? L = some o := fun L hL => by
      obtain ⟨env', h1, h2⟩ := List.mem_filterMap.mp hL
      obtain ⟨_, L', o', h3, h4, _⟩ := hF env' h1
      rw [h2] at h3; cases h3; exact ⟨o', h4⟩
    have hffs : ffs (env :: outer) = env.locals :: ffs outer := by unfold ffs; rw [List.filterMap_cons, hfr]
    have hffsg : ffs (envg :: env :: outer) = envg.locals :: env.locals :: ffs outer := by unfold ffs; rw [List.filterMap_cons, hfrg, List.filterMap_cons, hfr]
    have hLn : envg.locals ∉ ffs (env :: outer) := by
      rw [hffs]
      intro h
      rcases List.mem_cons.mp h with h | h
      · exact hL1 h
      · obtain ⟨o', h'⟩ := hout _ h
        have hL3 : s₀.heap.get? envg.locals = none := hL3
        rw [hL3] at h'; cases h'
    have han : a ∉ ffs (envg :: env :: outer) := by
      rw [hffsg]
      intro h
      rcases List.mem_cons.mp h with h | h
      · exact haL h
      · rcases List.mem_cons.mp h with h | h
        · exact ha1 h
        · obtain ⟨o', h'⟩ := hout _ h
          have ha3 : s₀.heap.get? a = none := ha3
          rw [ha3] at h'; cases h'
    obtain ⟨m3, hns3⟩ := F3.ns
    have hFs : Fn s3.heap (env :: outer) := (hF.keep fun L hL o e => F3.nx.up _ _ e).cons (by rw [K.fn]; decide) hfr hns3
    have hBmax : hB.StaysIn (bs s3.heap (envg :: env :: outer)) := fun b o e => by
      refine bs_keep ?_ (F3.nx.up _ _ (hBs _ _ e))
      rw [hffsg]
      intro h
      rcases List.mem_cons.mp h with rfl | h
      · have hL3 : s₀.heap.get? envg.locals = none := hL3
        rw [hBs _ _ e] at hL3; cases hL3
      · rcases List.mem_cons.mp h with rfl | h
        · have := F3.fresh; rw [hBs _ _ e] at this; cases this
        · rw [hBn _ h] at e; cases e
    refine codeAny_forLoop (fun m s' => s' = s3) (fun m s' hI => ?_) 0 rfl
    subst hI
    have hlim := (FH.glob hG s' F3).nolimit
    refine pyNext_gen (n := 0) (R := gRaise s₀ (bs s'.heap (envg :: env :: outer)) (env :: outer)) (Y := gNo) hh hlim hroom ⟨oa, nm, qn, hoa, q1, q2, q3⟩ hg ⟨rfl, ?_⟩ (fun _ _ _ _ h => h.elim) (fun r s₁ hr => ?_)
    · exact gen_raise (A := A.in1) hG hl hL3 hEg hfrg hh hA hrow (s'.setGen g .running) F3.nx.up ⟨O.ns, O.var, O.own, O.nodup, O.names⟩ hFs hLn _ (fun _ _ e => e)
    · obtain ⟨e, a0, rfl, hfl, hus, hos, hgs, hbr⟩ := hr
      refine .inr ⟨e, "ValueError", rfl, ⟨oa, nm, qn, hfl.1 _ _ (bs_keep han hoa), q1, q2, q3⟩, hfl.there, isSubtype_of_subB (by decide +kernel), ?_⟩
      have hfl2 : Heap.FlyingW hB (env :: outer) e (.type "ValueError") a0 (s₁.setGen g .finished).heap := FlyingW.less hBmax hfl
      have rz : Rz s₀ (s₁.setGen g .finished) := by
        refine ⟨hus, hos.trans F3.nx.os, fun i x hi => ?_, fun hb => ?_⟩
        · have hig : i ≠ g := by
            rintro rfl
            have := (Array.getElem?_eq_some_iff.mp hi).1
            omega
          rw [setGen_other hig]
          exact hgs i x (by rw [setGen_other hig]; exact F3.nx.gens i x hi)
        · exact AllBare.setGen (hbr (AllBare.setGen (F3.nx.bare hb) rfl)) rfl
      show wpAny (model PW w) A (noteFrame (.ref e) env) _ _ _
      refine wpAny_looks_onW hA hfr hfl2 fun h1 hH hu1 => ?_
      show wpAny (model PW w) A (back env (.ref e)) _ _ _
      exact back_held hfr hH fun h2 hH2 hu2 => hE e a0 _ hH2 (rz.heap (hu1.trans hu2))) hs
end
end Mine

open PySem PySem.W PyProof.Rows
namespace Mine
set_option Elab.async false
set_option maxRecDepth 100000
set_option linter.unusedVariables false
set_option maxHeartbeats 1000000

/- a frame at the call -/
theorem entry_fm {s : Shared} {d : DefItem} {a : Addr} {c' : Addr} {ps ls : List Str} {vs : List Value} {es : List D} {h₁ : Heap} {tk : Nat} (F : Fr s.heap s.heap.objs.size h₁ (fun x => (ps.zip vs).reverse.lookup x)) (hI : Is0s vs es) (hvl : vs.length = ps.length) (hnd : (ps ++ ls).Nodup)
    (hloc : ∀ x ∈ ps ++ ls, d.scope.names.lookup x = some .local) : Fm s (envOf d.name d.scope s.heap.objs.size a (.ref c')) (entry ps es ls) [] { s with heap := h₁, toks := tk } := by
  have hel : ps.length = es.length := hvl.symm.trans hI.length
  refine ⟨⟨F.keep, rfl, fun _ _ e => e, fun e => e⟩, fresh_size _ _ (Nat.le_refl _), ⟨_, F.ns⟩, ?_, (fun x c h => nomatch h), (fun x y c h => nomatch h), (fun p hp => nomatch hp), List.nodup_nil, by rw [entry_names hel]; exact hnd⟩
  intro i x dd h
  obtain ⟨h1, h2⟩ := entry_get h
  obtain ⟨v, hv1, hv2⟩ := hI.get i h2
  refine .inl ⟨hloc x (List.mem_append_left _ (List.mem_of_getElem? h1)), _, v, F.ns, ?_, hv2⟩
  refine lookup_mem ?_ ?_
  · rw [List.map_reverse, zip_map_fst hvl.symm]
    exact List.pairwise_reverse.mpr ((List.nodup_append.mp hnd).1.imp fun h => Ne.symm h)
  · rw [List.mem_reverse]
    exact List.mem_of_getElem? (i := i) (by rw [List.getElem?_zip_eq_some]; exact ⟨h1, hv1⟩)

/- a call of a plain def that may raise -/
theorem call_any {prog : Program} {w : World} {A : Around} {d : DefItem} {a : Addr} (ps ls : List Str) {vs : List Value} {es : List D} {s : Shared} {Q : Value → Shared → Prop} {E : Value → Shared → Prop}
    (hf : s.heap.NoLimit ∧ ∃ o pm c' doc, s.heap.get? a = some o ∧ o.data = .func (Calls.docDef d.name d.params d.body d.scope pm (.ref c') doc) ∧ s.heap.CodeRec (.ref c') d.name)
    (hroom : A.depth < recursionLimit) (hvl : vs.length = ps.length) (hI : Is0s vs es) (hnd : (ps ++ ls).Nodup)
    (hbind : ∀ pm c doc, bindArgs (Calls.docDef d.name d.params d.body d.scope pm c doc) ⟨vs, []⟩ = pure (ps.zip vs))
    (hloc : ∀ x ∈ ps ++ ls, d.scope.names.lookup x = some .local)
    (hco : d.scope.isCoroutine = false) (hgen : d.scope.isGenerator = false) (hk : d.scope.kind = .function) (hcell : ∀ x ∈ d.scope.names, x.2 ≠ .cell)
    (body : ∀ (env : Env) (s' : Shared), Ok env (ps ++ ls) → env.scope = d.scope → env.frame = some env.locals → env.cells = [] → Fm s env (entry ps es ls) [] s' →
      wpAny (model prog w) (A.deeper env) (execs d.body env) (fun f s'' => Q (match f with | .ret v => v | _ => .none) s'') (fun e s'' => wpAny (model prog w) (A.deeper env) (leaving env e) (fun _ s₃ => E e s₃) (fun e' s₃ => E e' s₃) s'') s') :
    wpAny (model prog w) A (PySem.call (.ref a) vs) Q E s := by
  obtain ⟨hlim, o, pm, c', doc, ho, hd, hcd⟩ := hf
  refine wpAny_call (call_plain (name := d.name) (params := d.params) (body := d.body) (scope := d.scope) (binds := ps.zip vs) hroom ho hd hlim hcd (hbind pm _ doc) (fun x hx => hloc _ (List.mem_append_left _ (by
      have := List.mem_map_of_mem (f := (·.1)) hx
      rw [zip_map_fst hvl.symm] at this
      exact this))) (fun h₁ F => ?_) hco hgen hk hcell)
  exact body (envOf d.name d.scope s.heap.objs.size a (.ref c')) _ ⟨hk, rfl, rfl, fun x hx => .inl (hloc x hx)⟩ rfl rfl rfl (entry_fm (d := d) F hI hvl hnd hloc)
end Mine

open PySem PySem.W PyProof.Rows
namespace Mine
set_option Elab.async false
set_option maxRecDepth 100000
set_option linter.unusedVariables false
set_option maxHeartbeats 1000000

theorem Rz.nx {s s₁ s' : Shared} (n : Nx s s₁) (x : Rz s₁ s') : Rz s s' := ⟨(Heap.UpToSlots.of_keeps n.up).trans x.up, x.os.trans n.os, fun i g e => x.gens i g (n.gens i g e), fun h => x.bare (n.bare h)⟩

theorem runs_body : ∃ (q0 q1 q2 q3 q4 q5 q6 q7 r0 r1 r2 r3 : Pos) (c : Nat) (body rest : List Stmt), dRuns.body = .Assign [.Name "marks" q0] (.List [] q1) q2 :: .Assign [.Name "place" r0] (.UnaryOp .USub (.Constant (.int 1) c r1) r2) r3 :: .For (.Name "size" q3) (.Call (.Name "_grouping_intervals" q4) [.Name "row" q5] [] q6) body [] q7 :: rest := by
  with_unfolding_all exact ⟨_, _, _, _, _, _, _, _, _, _, _, _, _, _, _, rfl⟩

section
variable {w : World} {mg mb : Str → Option Value} {N : Nat} {A : Around} {a f fr l : Addr} {row : List Int} {outer : List Env}

theorem runs_raise (ha : mg "_law_marks" = some (.ref a)) (hf : mg "_grouping_intervals" = some (.ref f)) (hroom : A.depth + 1 < recursionLimit) (hh : A.handled = none) (hA : A.frames = some outer) (hrow : row[0]? = some 0) {hB : Heap} {s : Shared} {v : Value}
    (hG : G w mg mb N s.heap) (hl : ∃ o, s.heap.get? l = some o ∧ Lo (row.map D.i) o) (hF : Fn s.heap outer) (hBs : hB.StaysIn s.heap) (hBn : ∀ L ∈ ffs outer, hB.get? L = none) (hv : Is0 v (.i 1)) {Q : Value → Shared → Prop} {E : Value → Shared → Prop}
    (hE : ∀ e a0 s', Heap.FlyingW hB outer e (.type "ValueError") a0 s'.heap → Rz s s' → E (.ref e) s') : wpAny (model PW w) A (PySem.call (.ref a) [.ref l, v]) Q E s := by
  have hmem : dRuns ∈ theDefs := by unfold theDefs; simp
  refine call_any (d := dRuns) marPs marLs (es := [.r l, .i 1]) (made_at hmem dRuns_ok.nd (by rw [dRuns_name]; exact ha) s hG) (by omega) rfl ⟨rfl, hv, trivial⟩ (by decide +kernel) (fun pm c doc => by kernel_rfl) (by decide +kernel) (by kernel_rfl) (by kernel_rfl) (by kernel_rfl) (by decide +kernel) ?_
  intro env s' K hsc hfr hc F
  have hd0 : (A.deeper env).handled = none := hh
  have hA2 : (A.deeper env).frames = some (env :: outer) := by show A.frames.map _ = _; rw [hA]; rfl
  obtain ⟨q0, q1, q2, q3, q4, q5, q6, q7, r0, r1, r2, r3, c, body, rest, hb⟩ := runs_body
  rw [hb]
  have F' : Fm s env (marV l 1 none none none) [] s' := F
  refine wpAny_execs_cons (wpAny_Assign_Name ((Ev.list (ds := []) (H := FH s env (marV l 1 none none none) []) Avs.nil trivial (by decide)).run s' F' _ _ fun v1 s1 g1 n1 (F1 : Fm s env _ [] s1) => ?_) rfl)
  obtain ⟨lr, o, rfl, h0, h1, hT⟩ := g1
  refine (F'.made n1 h0 h1 hT).store (i := 2) rfl (show Is0 (.ref lr) (.r lr) from rfl) K.fn (K.st _ (by decide +kernel)) fun s2 F2 => ?_
  refine wpAny_execs_cons (wpAny_Assign_Name ((Ev.un (H := FH s env (List.set (marV l 1 none none none) 2 (Str.ofString "marks", some (D.r lr))) [(lr, Ls [])]) (Ev.int (n := 1)) (Op.neg _)).run s2 F2 _ _ fun v2 s3 g3 n3 (F3 : Fm s env (List.set (marV l 1 none none none) 2 (Str.ofString "marks", some (D.r lr))) [(lr, Ls [])] s3) => ?_) rfl)
  refine Fm.store F3 (i := 3) (d := .i (-1)) rfl g3 K.fn (K.st _ (by decide +kernel)) fun s4 F4 => ?_
  refine wpAny_execs_cons ?_
  refine for_raise hB K hfr hA2 hd0 (show A.depth + 1 < recursionLimit from hroom) hG hf (kd hsc (by kernel_rfl)) (Ev.var (i := 0) K rfl) hl hrow hF hBs hBn F4 (fun e a0 s3 hH rz => ?_)
  exact leaves_held hfr hH fun h4 hfl hu => hE e a0 _ hfl (rz.heap hu)
end
end Mine

open PySem PySem.W PyProof.Rows
namespace Mine
set_option Elab.async false
set_option maxRecDepth 100000
set_option linter.unusedVariables false
set_option maxHeartbeats 1000000

theorem FlyingW.nx {base : Heap} {l : List Env} {e : Addr} {cls a0 : Value} {s s' : Shared} (x : Heap.FlyingW base l e cls a0 s.heap) (n : Nx s s') : Heap.FlyingW base l e cls a0 s'.heap := by
  obtain ⟨k1, k2, k3, oe, vs, T, oT, ts, h1, h2, h3, h4, h5, h6, h7, h8⟩ := x
  exact ⟨fun b o e => n.up _ _ (k1 b o e), k2, k3.of_keeps fun b o hb _ => ⟨o, n.up _ _ hb, rfl⟩, oe, vs, T, oT, ts, n.up _ _ h1, h2, h3, h4, h5, h6, n.up _ _ h7, h8⟩

theorem ref_body : ∃ (q0 q1 q2 q3 q4 q5 q6 q7 q8 q9 : Pos) (c0 c1 : Nat) (rest : List Stmt), dRef.body = .Try [.Expr (.Call (.Name "_law_marks" q0) [.Name "row" q1, .Constant (.int 1) c0 q2] [] q3) q4] [.ExceptHandler (some (.Name "ValueError" q5)) Option.none [.Return (some (.Constant (.bool true) c1 q6)) q7] q8] [] [] q9 :: rest := by
  with_unfolding_all exact ⟨_, _, _, _, _, _, _, _, _, _, _, _, _, rfl⟩

section
variable {w : World} {mg mb : Str → Option Value} {N : Nat} {A : Around} {a f fr l : Addr} {row : List Int} {outer : List Env}

theorem refused_walk (ha : mg "_law_refused" = some (.ref a)) (hr : mg "_law_marks" = some (.ref fr)) (hf : mg "_grouping_intervals" = some (.ref f)) (hroom : A.depth + 2 < recursionLimit) (hh : A.handled = none) (hA : A.frames = some outer) (hrow : row[0]? = some 0) {s : Shared}
    (hG : G w mg mb N (bs s.heap outer)) (hl : ∃ o, s.heap.get? l = some o ∧ Lo (row.map D.i) o) (hF : Fn s.heap outer) {Q : Value → Shared → Prop} {E : Value → Shared → Prop}
    (q : ∀ s', (∀ b o, b ∉ ffs outer → s.heap.get? b = some o → s'.heap.get? b = some o) → Rz s s' → Q (.bool true) s') : wpAny (model PW w) A (PySem.call (.ref a) [.ref l]) Q E s := by
  have hmem : dRef ∈ theDefs := by unfold theDefs; simp
  have hGs : G w mg mb N s.heap := hG.keeps (bs_stays _ _)
  refine call_any (d := dRef) ["row"] [] (es := [.r l]) (made_at hmem dRef_ok.nd (by rw [dRef_name]; exact ha) s hGs) (by omega) rfl ⟨rfl, trivial⟩ (by decide +kernel) (fun pm c doc => by kernel_rfl) (by decide +kernel) (by kernel_rfl) (by kernel_rfl) (by kernel_rfl) (by decide +kernel) ?_
  intro env s' K hsc hfr hc F
  have hd0 : (A.deeper env).handled = none := hh
  have hA2 : (A.deeper env).frames = some (env :: outer) := by show A.frames.map _ = _; rw [hA]; rfl
  obtain ⟨q0, q1, q2, q3, q4, q5, q6, q7, q8, q9, c0, c1, rest, hb⟩ := ref_body
  rw [hb]
  have F' : Fm s env [("row", some (.r l))] [] s' := F
  have g : ∀ {vs os} s', (FH s env vs os).P s' → G w mg mb N s'.heap := fun {vs os} => FH.glob hGs
  refine wpAny_execs_cons (wpAny_Try_except ?_)
  refine wpAny_execs_cons (wpAny_Expr_any ?_ (by unfold interactive; rw [K.fn]; rfl) rfl)
  refine Call_ (Fv.global (H := FH s env [("row", some (.r l))] []) K g hr (kd hsc (by kernel_rfl)) (by decide +kernel) s' F' _ _ fun s1 n1 F1 => ?_) rfl
  obtain ⟨_, o, pm, c', doc, ho, hd, _⟩ := made_at (d := dRuns) (by unfold theDefs; simp) dRuns_ok.nd (by rw [dRuns_name]; exact hr) s1 (g s1 F1)
  refine callWith_def hd ((Avs.cons (Ev.var (i := 0) K rfl) (Avs.cons (Ev.int (n := 1)) Avs.nil)).run s1 F1 _ _ fun us s2 g2 n2 F2 => ⟨n2.up _ _ ho, ?_⟩) rfl
  obtain ⟨u, v, rfl, hu, hv⟩ := g2.two
  cases (show u = .ref l from hu)
  have F2' : Fm s env [("row", some (.r l))] [] s2 := F2
  obtain ⟨m2, hns2⟩ := F2'.ns
  have hout : ∀ L ∈ ffs outer, ∃ o, s.heap.get? L = some o := fun L hL => by
    obtain ⟨env', h1, h2⟩ := List.mem_filterMap.mp hL
    obtain ⟨_, L', o', h3, h4, _⟩ := hF env' h1
    rw [h2] at h3; cases h3; exact ⟨o', h4⟩
  have hFn : Fn s2.heap (env :: outer) := (hF.keep fun L hL o e => F2'.nx.up _ _ e).cons (by rw [K.fn]; decide) hfr hns2
  have hBn : ∀ L ∈ ffs (env :: outer), (bs s.heap outer).get? L = none := fun L hL => by
    unfold ffs at hL
    rw [List.filterMap_cons, hfr] at hL
    rcases List.mem_cons.mp hL with rfl | hL
    · cases e : (bs s.heap outer).get? env.locals with
      | none => rfl
      | some o' => have := F2'.fresh; rw [(woAll_some e).2] at this; cases this
    · exact woAll_self _ hL
  refine runs_raise (A := A.deeper env) hr hf (show A.depth + 1 + 1 < recursionLimit from hroom) hd0 hA2 hrow (hB := bs s.heap outer) (g s2 F2) (let ⟨ol, h1, h2⟩ := hl; ⟨ol, F2'.nx.up _ _ h1, h2⟩) hFn (fun b o e => F2'.nx.up _ _ ((bs_stays _ _) b o e)) hBn hv (fun e a0 s3 hfl rz => ?_)
  have rz := rz.nx F2'.nx
  refine wpAny_looks_onW hA2 hfr hfl fun h4 hH hu4 => ?_
  refine wpAny_landsW hH fun h5 hfl5 hu5 => ?_
  have rz5 : Rz s { s3 with heap := h5 } := rz.heap (hu4.trans hu5)
  have hboot : bootBuiltins "ValueError" = some (.type "ValueError") := by decide +kernel
  refine wpAny_handleBy_builtin (X := "ValueError") (T := "ValueError") (b := true) (isSubtype_of_subB (by decide +kernel)) (isSubtype_of_subB (by decide +kernel)) (isSubtype_of_subB (by decide +kernel)) ?_
  refine (Fv.builtin (H := GH w mg mb N) K (fun s h => h) hboot (by decide +kernel) (by decide +kernel) (by decide +kernel) (kd hsc (by kernel_rfl)) (by decide +kernel)) { s3 with heap := h5 } (hG.keeps hfl5.1) _ _ fun s6 n6 G6 => ?_
  have hfl6 := FlyingW.nx (s := { s3 with heap := h5 }) hfl5 n6
  refine ⟨rfl, hfl6.there, ?_⟩
  rw [if_pos rfl]
  obtain ⟨k1, k2, k3, k4⟩ := hfl6
  refine wpAny_setFlight_noneW k1 k3 k4.at fun h7 x1 x2 x3 x4 => ?_
  have rz7 : Rz s { s6 with heap := h7 } := ⟨rz5.up.trans ((Heap.UpToSlots.of_keeps n6.up).trans fun b o e hnf => ⟨o.slots, x4 b o e hnf⟩), n6.os.trans rz5.os, fun i g e => n6.gens i g (rz5.gens i g e), fun h => n6.bare (rz5.bare h)⟩
  refine wpAny_execs_cons (wpAny_Return_some (wpAny_Constant_bool ?_))
  exact q _ (fun b o hb e => x1 b o (bs_keep hb e)) rz7
end
end Mine

open PySem PySem.W PyProof.Rows
namespace Mine
set_option Elab.async false
set_option maxRecDepth 100000
set_option linter.unusedVariables false
set_option maxHeartbeats 1000000

/- an object at a place -/
noncomputable def KL (l : Addr) (T : Obj → Prop) : HP := ⟨fun s => ∃ o, s.heap.get? l = some o ∧ T o, fun _ _ n ⟨o, h, t⟩ => ⟨o, n.up _ _ h, t⟩⟩

noncomputable def collI (x y : List Nat) : Int := b2i (decide (y < x)) - b2i (decide (x < y))
noncomputable def orderL (x y : List Int) : Int := b2i (decide (y < x)) - b2i (decide (x < y))
noncomputable def maxi (m n : Int) : Int := if n > m then n else m
noncomputable def farI (w0 w1 : List Nat) (met : Int) : Int := 2 * (maxi w0.length w1.length - met)
/- what _law_pair tells -/
noncomputable def pairV (w0 w1 : List Nat) (r0 r1 : List Int) (met : Int) (odd : Nat) : Bool :=
  if [collI w0 w1, collI w1 w0] ≠ [orderL r0 r1, -orderL r0 r1] then false
  else lev (if odd = 0 then w0 else w1) (if odd = 0 then w1 else w0) (farI w0 w1 met - odd) == farI w0 w1 met

noncomputable def paPs : List Str := ["words", "rows", "met", "odd"]
noncomputable def paLs : List Str := ["most", "order", "told", "far"]
noncomputable def paV (lw lr : Addr) (met odd : Int) (m o t f : Option D) : Vars :=
  [("words", some (.r lw)), ("rows", some (.r lr)), ("met", some (.i met)), ("odd", some (.i odd)), ("most", m), ("order", o), ("told", t), ("far", f)]

theorem Lows.four {s : Shared} {d1 d2 d3 d4 : D} {es : List D} (h : Lows s [d1, d2, d3, d4] es) : ∃ e1 e2 e3 e4, es = [e1, e2, e3, e4] ∧ Low s d1 e1 ∧ Low s d2 e2 ∧ Low s d3 e3 ∧ Low s d4 e4 := by
  obtain ⟨a, l1, rfl, h1⟩ := len_s h.length
  obtain ⟨b, c, d, rfl⟩ := len_3 h1
  exact ⟨a, b, c, d, rfl, h.1, h.2.1, h.2.2.1, h.2.2.2.1⟩
theorem len_4 {α : Type} {l : List α} (h : l.length = 4) : ∃ a b c d, l = [a, b, c, d] := by
  obtain ⟨a, l1, e, h1⟩ := len_s h
  obtain ⟨b, c, d, e2⟩ := len_3 h1
  exact ⟨a, b, c, d, by rw [e, e2]⟩

theorem pair_walk {w : World} {mg mb : Str → Option Value} {N : Nat} {A : Around} {a f1 f2 f3 : Addr} (ha : mg "_law_pair" = some (.ref a)) (h1 : mg "_strcoll" = some (.ref f1)) (h2 : mg "_levenshtein_distance" = some (.ref f2)) (h3 : mg "_substitution_cost" = some (.ref f3))
    (hroom : A.depth + 2 < recursionLimit) (hh : A.handled = none) (hu : A.units + 3 < cLine) (w0 w1 : List Nat) (hz1 : w0.length ≤ 40) (hz2 : w1.length ≤ 40) (l0 l1 : Addr) (r0 r1 : List Int) (met : Int) (odd : Nat) (ho : odd < 2) :
    Cr (model PW w) A ((GH w mg mb N).and ((KL l0 (Lo (r0.map D.i))).and (KL l1 (Lo (r1.map D.i))))) (.ref a) [.k (Lo ([w0, w1].map D.s)), .k (Lo [.r l0, .r l1]), .i met, .i odd] (.b (pairV w0 w1 r0 r1 met odd)) := by
  have hmem : dPair ∈ theDefs := by unfold theDefs; simp
  refine Cr.plain (d := dPair) paPs paLs (fun s hs => made_at hmem dPair_ok.nd (by rw [dPair_name]; exact ha) s hs.1) (by omega) rfl (by decide +kernel) ?_ (by decide +kernel) (by kernel_rfl) (by kernel_rfl) (by kernel_rfl) (by decide +kernel) ?_
  · intro vs hvs pm c doc
    obtain ⟨u1, u2, u3, u4, rfl⟩ := len_4 hvs
    kernel_rfl
  intro s₀ env es hG0 hL K hsc
  obtain ⟨e1, e2, e3, e4, rfl, ⟨lw, ow, rfl, how, hwo⟩, ⟨lr, or', rfl, hor, hro⟩, he3, he4⟩ := hL.four
  obtain rfl : e3 = .i met := he3
  obtain rfl : e4 = .i odd := he4
  obtain ⟨hG, hk0, hk1⟩ := hG0
  have hwo : ∃ o, s₀.heap.get? lw = some o ∧ Lo ([w0, w1].map D.s) o := ⟨ow, how, hwo⟩
  have hro : ∃ o, s₀.heap.get? lr = some o ∧ Lo [.r l0, .r l1] o := ⟨or', hor, hro⟩
  have g : ∀ {vs os} s, (FH s₀ env vs os).P s → G w mg mb N s.heap := fun {vs os} => FH.glob hG
  have hd0 : (A.deeper env).handled = none := hh
  have hu2 : (A.deeper env).units < cLine := hu
  have fn : ∀ {df : DefItem} {f : Addr} {vs os}, df ∈ theDefs → df.params.defaults = [] → mg df.name = some (.ref f) → ∀ s, (FH s₀ env vs os).P s → ∃ o fd, s.heap.get? f = some o ∧ o.data = .func fd := fun {df f vs os} h1 h2 h3 s hs => by
    obtain ⟨_, o, pm, c', doc, q1, q2, _⟩ := made_at h1 h2 h3 s (g s hs)
    exact ⟨o, _, q1, q2⟩
  have bMax : ∀ {vs os p}, Fv (model PW w) (A.deeper env) env (FH s₀ env vs os) (.Name "max" p) (.builtin "max") := fun {vs os p} => Fv.builtin K g (by decide +kernel) (by decide +kernel) (by decide +kernel) (by decide +kernel) (kd hsc (by kernel_rfl)) (by decide +kernel)
  have bLen : ∀ {vs os p}, Fv (model PW w) (A.deeper env) env (FH s₀ env vs os) (.Name "len" p) (.builtin "len") := fun {vs os p} => Fv.builtin K g (by decide +kernel) (by decide +kernel) (by decide +kernel) (by decide +kernel) (kd hsc (by kernel_rfl)) (by decide +kernel)
  have eW : ∀ {vs : Vars} {os : Objs} {e : PySem.Expr} {j : Nat} {x : List Nat}, Has vs 0 "words" (.r lw) → Ev (model PW w) (A.deeper env) env (FH s₀ env vs os) e (.i j) → [w0, w1][j]? = some x → (∀ l u, subscripted e false (.ref l) (.int j u) = operate [.ref l, .int j u] (getItem (.ref l) (.int j u))) → ∀ {p1 p2}, Ev (model PW w) (A.deeper env) env (FH s₀ env vs os) (.Subscript (.Name "words" p1) e p2) (.s x) := fun {vs os e j x} q1 he hx hs {p1 p2} =>
    Ev.item (k := (j : Int)) (ds := [w0, w1].map D.s) (Ev.old K q1 hwo) he (Int.natCast_nonneg _) (by have := (List.getElem?_eq_some_iff.mp hx).1; simp at this; omega) (by rw [Int.toNat_natCast, List.getElem?_map, hx]; rfl) (hs := hs)
  have eR : ∀ {vs : Vars} {os : Objs} {j c : Nat} {l : Addr} {T : Obj → Prop}, Has vs 1 "rows" (.r lr) → [l0, l1][j]? = some l → (KL l T).P s₀ → ∀ {p1 p2 p3}, Ev (model PW w) (A.deeper env) env (FH s₀ env vs os) (.Subscript (.Name "rows" p1) (.Constant (.int j) c p2) p3) (.k T) := fun {vs os j c l T} q1 hx hk {p1 p2 p3} =>
    Gv.know (Ev.item (k := (j : Int)) (ds := [.r l0, .r l1]) (d := .r l) (Ev.old K q1 hro) (Ev.int (n := j)) (Int.natCast_nonneg _) (by have := (List.getElem?_eq_some_iff.mp hx).1; simp at this; omega) (by
      rw [Int.toNat_natCast]
      have := congrArg (Option.map D.r) hx
      rw [← List.getElem?_map] at this
      exact this)) (fun s (F : Fm s₀ env vs os s) => (KL l T).st _ _ F.nx hk)
  show Sm _ _ _ (Fm s₀ env (paV lw lr met odd none none none none) []) _ _
  with_unfolding_all refine Sm.open ?_
  refine Sm.assign (i := 4) (d := .i (maxi w0.length w1.length)) K rfl (by decide +kernel) (Ev.callB bMax (Avs.cons (Ev.callB bLen (Avs.cons (eW (j := 0) rfl Ev.int rfl (by intro _ _; with_unfolding_all rfl)) Avs.nil) (Cb.len_str _ (by omega)).cr) (Avs.cons (Ev.callB bLen (Avs.cons (eW (j := 1) rfl Ev.int rfl (by intro _ _; with_unfolding_all rfl)) Avs.nil) (Cb.len_str _ (by omega)).cr) Avs.nil)) (Cb.max2 _ _ hd0).cr) (fun _ h => nomatch h) (fun _ h => nomatch h) ?_
  refine Sm.assign (i := 5) (d := .i (orderL r0 r1)) K rfl (by decide +kernel) (Ev.bin (Ev.cmp (eR (j := 0) rfl rfl hk0) (eR (j := 1) rfl rfl hk1) (Op.lgt _ _ hu2)) (Ev.cmp (eR (j := 0) rfl rfl hk0) (eR (j := 1) rfl rfl hk1) (Op.llt _ _ hu2)) (Op.bsub _ _)) (fun _ h => nomatch h) (fun _ h => nomatch h) ?_
  generalize hod : orderL r0 r1 = od
  generalize hc1 : collI w0 w1 = c1
  generalize hc2 : collI w1 w0 = c2
  have eC : ∀ {vs : Vars} {os : Objs} {e e' : PySem.Expr} {u v : List Nat}, Ev (model PW w) (A.deeper env) env (FH s₀ env vs os) e (.s u) → Ev (model PW w) (A.deeper env) env (FH s₀ env vs os) e' (.s v) → starEach [e'] env = (false, eval e' env) :: starEach [] env → starEach [e, e'] env = (false, eval e env) :: starEach [e'] env → ∀ {p1 p2}, Ev (model PW w) (A.deeper env) env (FH s₀ env vs os) (.Call (.Name "_strcoll" p1) [e, e'] [] p2) (.i (collI u v)) := fun {vs os e e' u v} q1 q2 s1 s2 {p1 p2} =>
    Ev.callD (f := f1) (Fv.global K g h1 (kd hsc (by kernel_rfl))) (fn (df := dColl) (by unfold theDefs; simp) dColl_ok.nd (by rw [dColl_name]; exact h1)) (Avs.cons q1 (Avs.cons q2 Avs.nil s1) s2)
      (fun s us Q E hs ga q => coll_walk h1 (show A.depth + 1 < recursionLimit by omega) u v s us Q E (g s hs) ga q) s2
  refine Sm.new (i := 6) (T := Ls ([c1, c2].map D.i)) K rfl (by decide +kernel) ?_ fun lt => ?_
  · rw [← hc1, ← hc2]
    exact Ev.list (ds := [.i (collI w0 w1), .i (collI w1 w0)]) (Avs.cons (eC (eW (j := 0) rfl Ev.int rfl (by intro _ _; with_unfolding_all rfl)) (eW (j := 1) rfl Ev.int rfl (by intro _ _; with_unfolding_all rfl)) rfl rfl) (Avs.cons (eC (eW (j := 1) rfl Ev.int rfl (by intro _ _; with_unfolding_all rfl)) (eW (j := 0) rfl Ev.int rfl (by intro _ _; with_unfolding_all rfl)) rfl rfl) Avs.nil)) (plain_ints [_, _]) (by simp)
  have eTold : ∀ {vs : Vars} {os : Objs}, Has vs 6 "told" (.r lt) → HasO os 0 lt (Ls ([c1, c2].map D.i)) → ∀ {p}, Ev (model PW w) (A.deeper env) env (FH s₀ env vs os) (.Name "told" p) (.k (Lo ([c1, c2].map D.i))) := fun {vs os} q1 q2 {p} => Gv.lo (Ev.obj K q1 q2)
  refine Sm.When (b := ([c1, c2] != [od, -od])) (Tr.cast (Tr.or (b := ([c1, c2] != [od, -od])) (c := false) (Tr.cmp (eTold rfl rfl) (Gv.lo (Gv.k (Ev.list (ds := [od, -od].map D.i) (Avs.cons (Ev.var (i := 5) K rfl) (Avs.cons (Ev.un (Ev.var (i := 5) K rfl) (Op.neg _)) Avs.nil)) (plain_ints _) (by simp)))) (Op.lne _ _ hu2)) (fun _ => ?_)) (by simp)) (fun h => ?_) (fun h => ?_)
  · have hG2 : ∀ {vs os C d} (st : Shared), (CompH (FH s₀ env vs os) C "x" d).P st → G w mg mb N st.heap := fun st hs => FH.glob hG st hs.1
    have hpk : ([] : List D) = picked ([c1, c2].map D.i).length (fun _ => false) (fun _ => .n) := by simp [picked]
    refine Tr.cmp (Gv.lo (Gv.k (Gv.cast (Ev.comp (cl := []) (d0 := .k (Lo ([c1, c2].map D.i))) (items := [c1, c2].map D.i) (fun _ => false) (fun _ => .n) (closureFor_none (by decide +kernel)) (by decide +kernel) (by kernel_rfl) (by decide +kernel) (by kernel_rfl) (eTold rfl rfl) (Src.list hd0) (by simp) ?_ (fun C i d hd h => nomatch h) (fun i => ⟨(fun _ h => nomatch h), (fun _ h => nomatch h)⟩)) (d' := .o (Ls (([] : List Int).map D.i))) (by rw [← hpk]; rfl)))) (Gv.lo (Gv.k (Ev.list (ds := ([] : List Int).map D.i) Avs.nil trivial (by simp)))) (Op.lne [] [] hu2)
    intro C i d hd
    obtain ⟨n, rfl⟩ : ∃ n, d = .i n := by
      match i, hd with
      | 0, hd => exact ⟨c1, by simpa using hd.symm⟩
      | 1, hd => exact ⟨c2, by simpa using hd.symm⟩
      | i + 2, hd => simp at hd
    refine Tv.one (Tr.val (Ev.callB (Fv.builtin (comp_ok K (by kernel_rfl)) hG2 (show bootBuiltins "isinstance" = some (.builtin "isinstance") by decide +kernel) (by decide +kernel) (by decide +kernel) (by decide +kernel) (comp_global (by kernel_rfl)) (by decide +kernel))
      (Avs.cons (Ev.own (by kernel_rfl) (by kernel_rfl)) (Avs.cons ((Fv.builtin (comp_ok K (by kernel_rfl)) hG2 (show bootBuiltins "bool" = some (.type "bool") by decide +kernel) (by decide +kernel) (by decide +kernel) (by decide +kernel) (comp_global (by kernel_rfl)) (by decide +kernel)).ev (d := .v (.type "bool")) rfl) Avs.nil)) (Cb.isBool n).cr) (Truth.bool _))
  · refine Sm.Ret Ev.bool fun v s' g n => ⟨?_, n⟩
    unfold pairV
    rw [hc1, hc2, hod, if_pos (by simpa using h)]
    exact g
  have hne : ¬ [c1, c2] ≠ [od, -od] := by simpa using h
  refine Sm.assign (i := 7) (d := .i (farI w0 w1 met)) K rfl (by decide +kernel) (Ev.bin (Ev.int (n := 2)) (Ev.bin (Ev.var (i := 4) K rfl) (Ev.var (i := 2) K rfl) (Op.sub _ _)) (Op.mul _ _ (.of_left (by decide +kernel)))) (fun _ h => nomatch h) (fun _ h => nomatch h) ?_
  have hcall : ∀ x y : List Nat, x.length ≤ 40 → y.length ≤ 40 → [w0, w1][odd]? = some x → [w0, w1][1 - odd]? = some y → lev x y (farI w0 w1 met - odd) = lev (if odd = 0 then w0 else w1) (if odd = 0 then w1 else w0) (farI w0 w1 met - odd) →
      Sm (model PW w) (A.deeper env) env (Fm s₀ env (paV lw lr met odd (some (.i (maxi w0.length w1.length))) (some (.i od)) (some (.r lt)) (some (.i (farI w0 w1 met)))) [(lt, Ls ([c1, c2].map D.i))]) (dPair.body.drop 5) (Post s₀ (.b (pairV w0 w1 r0 r1 met odd))) := by
    intro x y hx hy i1 i2 hl
    with_unfolding_all refine Sm.open ?_
    refine Sm.Ret (d := .b (pairV w0 w1 r0 r1 met odd)) (Gv.cast (Ev.cmp (Ev.callD (f := f2) (ds := [.s x, .s y, .i (farI w0 w1 met - odd)]) (d := .i (lev x y (farI w0 w1 met - odd))) (Fv.global K g h2 (kd hsc (by kernel_rfl))) (fn (df := dLev) (by unfold theDefs; simp) dLev_ok.nd (by rw [dLev_name]; exact h2))
        (Avs.cons (eW (j := odd) rfl (Ev.var (i := 3) K rfl) i1 (by intro _ _; with_unfolding_all rfl)) (Avs.cons (eW (j := 1 - odd) rfl (Gv.cast (Ev.bin (Ev.int (n := 1)) (Ev.var (i := 3) K rfl) (Op.sub _ _)) (by congr 1; omega)) i2 (by intro _ _; with_unfolding_all rfl)) (Avs.cons (Ev.bin (Ev.var (i := 7) K rfl) (Ev.var (i := 3) K rfl) (Op.sub _ _)) Avs.nil)))
        (fun s us Q E hs ga q => lev_walk h2 h3 (show A.depth + 1 + 1 < recursionLimit from hroom) hd0 x y hx hy _ s us Q E (g s hs) ga q)) (Ev.var (i := 7) K rfl) (Op.eq _ _)) ?_) fun v s' g n => ⟨g, n⟩
    unfold pairV
    rw [hc1, hc2, hod, if_neg hne, hl]
  have hcase : odd = 0 ∨ odd = 1 := by omega
  rcases hcase with h | h
  · with_unfolding_all exact hcall w0 w1 hz1 hz2 (by rw [h]; rfl) (by rw [h]; rfl) (by rw [if_pos h, if_pos h])
  · with_unfolding_all exact hcall w1 w0 hz2 hz1 (by rw [h]; rfl) (by rw [h]; rfl) (by rw [if_neg (by omega), if_neg (by omega)])
end Mine

open PySem PySem.W PyProof.Rows
namespace Mine
set_option Elab.async false
set_option maxRecDepth 100000
set_option linter.unusedVariables false

/- a call of a def of one argument with cells -/
theorem call_cells1 {prog : Program} {w : World} {A : Around} {d : DefItem} {a : Addr} (p0 : Str) (ls : List Str) {v : Value} {e : D} {s : Shared} {Q : Value → Shared → Prop} {E : Value → Shared → Prop}
    (hf : s.heap.NoLimit ∧ ∃ o pm c' doc, s.heap.get? a = some o ∧ o.data = .func (Calls.docDef d.name d.params d.body d.scope pm (.ref c') doc) ∧ s.heap.CodeRec (.ref c') d.name)
    (hroom : A.depth < recursionLimit) (hI : Is0 v e) (hnd : (p0 :: ls).Nodup)
    (hbind : ∀ pm c doc, bindArgs (Calls.docDef d.name d.params d.body d.scope pm c doc) ⟨[v], []⟩ = pure [(p0, v)])
    (hp : d.scope.names.lookup p0 = some .local)
    (hst : ∀ x ∈ p0 :: ls, d.scope.names.lookup x = some .local ∨ (d.scope.names.lookup x = some .cell ∧ ∀ L, ∃ c, (cellsFrom (L + 1) d.scope.names []).lookup x = some c))
    (hco : d.scope.isCoroutine = false) (hgen : d.scope.isGenerator = false) (hk : d.scope.kind = .function)
    (body : ∀ (env : Env) (s' : Shared), Ok env (p0 :: ls) → env.scope = d.scope → env.frame = some env.locals → env.cells = cellsFrom (env.locals + 1) d.scope.names [] → Fm s env (entry [p0] [e] ls) [] s' →
      wpAny (model prog w) (A.deeper env) (execs d.body env) (fun f s'' => Q (match f with | .ret v => v | _ => .none) s'') (fun _ _ => False) s') :
    wpAny (model prog w) A (PySem.call (.ref a) [v]) Q E s := by
  obtain ⟨hlim, o, pm, c', doc, ho, hd, hcd⟩ := hf
  refine wpAny_call (call_cells_ret (name := d.name) (params := d.params) (body := d.body) (scope := d.scope) (binds := [(p0, v)]) hroom ho hd hlim hcd (hbind pm _ doc) (fun x hx => .inl (by rw [List.mem_singleton.mp hx]; exact hp)) (fun h₁ tk F X => ?_) hco hgen hk)
  have hkp : (envOfC d.name d.scope s.heap.objs.size a (.ref c')).kindOf p0 = some .local := hp
  refine body _ _ ⟨hk, rfl, rfl, fun x hx => ?_⟩ rfl rfl rfl ?_
  · rcases hst x hx with h | ⟨h1, h2⟩
    · exact .inl h
    · exact .inr ⟨h1, h2 _⟩
  · refine ⟨⟨F.keep, rfl, fun _ _ e => e, fun e => e⟩, fresh_size _ _ (Nat.le_refl _), ⟨_, F.ns⟩, ?_, ?_, ?_, (fun p hp => nomatch hp), List.nodup_nil, by rw [entry_names rfl]; exact hnd⟩
    · intro i x dd h
      obtain ⟨h1, h2⟩ := entry_get h
      match i, h1, h2 with
      | 0, h1, h2 =>
        simp at h1 h2
        subst h1; subst h2
        refine .inl ⟨hp, _, v, F.ns, ?_, hI⟩
        simp [bindL, hkp]
      | i + 1, h1, h2 => simp at h1
    · intro x c h
      have hm := mem_of_lookup h
      have hlt := X.above x c hm
      exact ⟨Nat.ne_of_gt hlt, fresh_size _ _ (Nat.le_of_lt hlt), _, X.cell x c h⟩
    · intro x y c h1 h2
      exact name_of_addr X.apart (mem_of_lookup h1) (mem_of_lookup h2)

section
variable {M : Model} {A : Around} {env : Env} {s₀ : Shared} {vs : Vars} {os : Objs} {xs : List Str}

/- a comprehension's free name -/
theorem Ev.free {scope : Scope} {cl : List (Str × Addr)} {C c : Addr} {i : Nat} {x y : Str} {d dy : D} {p : Pos} (hi : vs[i]? = some (x, some d)) (hkc : env.kindOf x = some .cell) (hc : env.cells.lookup x = some c) (hcl : cl.lookup x = some c)
    (hrel : (relabel scope env).names.lookup x = some .cell) (hk : scope.kind = .function) (hd : (x == ("__debug__" : Str)) = false := by decide +kernel) : Ev M A (compEnvC scope cl C env) (CompH (FH s₀ env vs os) C y dy) (.Name x p) d := ⟨fun s hs Q E q => by
  have F : Fm s₀ env vs os s := hs.1
  rcases F.var i x d hi with ⟨h1, _⟩ | ⟨_, c', v, h1, h2, h3⟩
  · rw [hkc] at h1; cases h1
  · rw [hc] at h1
    cases h1
    exact wpAny_Name (wpAny_loadName_cell (env := compEnvC scope cl C env) hk hrel hcl h2 (q v s h3.got (Nx.refl s) hs)) hd⟩
end
end Mine

open PySem PySem.W PyProof.Rows
namespace Mine
set_option Elab.async false
set_option maxRecDepth 100000
set_option linter.unusedVariables false

end Mine

open PySem PySem.W PyProof.Rows
namespace Mine
set_option Elab.async false
set_option maxRecDepth 100000
set_option linter.unusedVariables false
set_option maxHeartbeats 1000000

/- a frame whose place was looked at -/
theorem Fm.slotted {s₀ s s' : Shared} {env : Env} {vs : Vars} {os : Objs} (F : Fm s₀ env vs os s) (k : ∀ b o, b ≠ env.locals → s.heap.get? b = some o → s'.heap.get? b = some o) (rz : Rz s s') : Fm s₀ env vs os s' where
  nx := ⟨fun b o e => k b o (by rintro rfl; rw [F.fresh] at e; cases e) (F.nx.up b o e), rz.os.trans F.nx.os, fun i g e => rz.gens i g (F.nx.gens i g e), fun h => rz.bare (F.nx.bare h)⟩
  fresh := F.fresh
  ns := let ⟨m, h⟩ := F.ns; ⟨m, rz.up.ns h⟩
  var := fun i x d h => by
    rcases F.var i x d h with ⟨hk, m, v, h1, h2, h3⟩ | ⟨hk, c, v, h1, ⟨o, h2, h4⟩, h3⟩
    · exact .inl ⟨hk, m, v, rz.up.ns h1, h2, h3⟩
    · exact .inr ⟨hk, c, v, h1, ⟨o, k c o (F.cells x c h1).1 h2, h4⟩, h3⟩
  cells := fun x c h => let ⟨h1, h2, v, o, h3, h4⟩ := F.cells x c h; ⟨h1, h2, v, o, k c o h1 h3, h4⟩
  apart := F.apart
  own := fun p hp => let ⟨h1, h2, h3, o, h4, h5⟩ := F.own p hp; ⟨h1, h2, h3, o, k _ o h1 h4, h5⟩
  nodup := F.nodup
  names := F.names

section
variable {w : World} {mg mb : Str → Option Value} {N : Nat} {A : Around} {s₀ : Shared} {env : Env} {vs : Vars} {os : Objs} {xs : List Str} {a f fr : Addr} {row : List Int}

/- if t1 or not _law_refused(e): .. : neither -/
theorem Sm.refused {t1 e : PySem.Expr} {body rest : List Stmt} {p1 p3 p4 p5 p6 : Pos} {Q : Flow → Shared → Prop} (K : Ok env xs) (hfr : env.frame = some env.locals) (hA : A.frames = some [env]) (hh : A.handled = none) (hroom : A.depth + 2 < recursionLimit)
    (hG : G w mg mb N s₀.heap) (ha : mg "_law_refused" = some (.ref a)) (hr : mg "_law_marks" = some (.ref fr)) (hf : mg "_grouping_intervals" = some (.ref f)) (ka : env.kindOf "_law_refused" = some .globalImplicit)
    (ht : Tr (model PW w) A env (FH s₀ env vs os) t1 false) (he : Ev (model PW w) A env (FH s₀ env vs os) e (.k (Lo (((0 : Int) :: row).map D.i)))) (h : Sm (model PW w) A env (Fm s₀ env vs os) rest Q)
    (hst : starEach [e] env = (false, eval e env) :: starEach [] env := by rfl) :
    Sm (model PW w) A env (Fm s₀ env vs os) (.If (.BoolOp .Or [t1, .UnaryOp .Not (.Call (.Name "_law_refused" p1) [e] [] p3) p4] p5) body [] p6 :: rest) Q :=
  .one fun s hs E => wpAny_If (isTrue_or (ht.run s hs _ _ fun s1 n1 (F1 : Fm s₀ env vs os s1) => by
    refine isTrue_or (wpAny_isTrue_Not (wpAny_isTrue_value ?_ rfl))
    refine Call_ (Fv.global (H := FH s₀ env vs os) K (FH.glob hG) ha ka (by decide +kernel) s1 F1 _ _ fun s2 n2 (F2 : Fm s₀ env vs os s2) => ?_) rfl
    obtain ⟨_, o, pm, c', doc, ho, hd, _⟩ := made_at (d := dRef) (by unfold theDefs; simp) dRef_ok.nd (by rw [dRef_name]; exact ha) s2 (FH.glob hG s2 F2)
    refine callWith_def hd ((Avs.cons he Avs.nil hst).run s2 F2 _ _ fun us s3 g3 n3 (F3 : Fm s₀ env vs os s3) => ⟨n3.up _ _ ho, ?_⟩) hst
    obtain ⟨v, rfl, l, ol, rfl, hol, hlo⟩ := g3.one
    obtain ⟨m, hns⟩ := F3.ns
    have hffs : ffs [env] = [env.locals] := by unfold ffs; rw [List.filterMap_cons, hfr]; rfl
    have hGB : G w mg mb N (bs s3.heap [env]) := hG.keeps fun b o e => bs_keep (by
      rw [hffs]
      intro hb
      rw [List.mem_singleton.mp hb, F3.fresh] at e; cases e) (F3.nx.up b o e)
    refine refused_walk ha hr hf hroom hh hA (row := 0 :: row) rfl hGB ⟨ol, hol, hlo⟩ (Fn.cons (fun _ h => nomatch h) (by rw [K.fn]; decide) hfr hns) fun s' hk rz => ?_
    refine wpAny_truthy_bool ?_
    have F' : Fm s₀ env vs os s' := F3.slotted (fun b o hb e => hk b o (by rw [hffs]; simpa using hb) e) rz
    exact isTrue_or_nil (wpAny_execs_nil fun E => h.run s' F' E)))
end

theorem Fm.perm {s₀ s : Shared} {env : Env} {vs : Vars} {os os' : Objs} (F : Fm s₀ env vs os s) (h : os.Perm os') : Fm s₀ env vs os' s :=
  ⟨F.nx, F.fresh, F.ns, F.var, F.cells, F.apart, fun p hp => F.own p (h.mem_iff.mpr hp), (h.map _).nodup_iff.mp F.nodup, F.names⟩

section
variable {prog : Program} {w : World} {A : Around} {env : Env} {s₀ : Shared} {vs : Vars} {os : Objs} {xs : List Str}

/- l.append(a new object) -/
theorem Sm.appendNew {o e : PySem.Expr} {ap p p' : Pos} {rest : List Stmt} {j : Nat} {l : Addr} {ds : List D} {T : Obj → Prop} {Q : Flow → Shared → Prop} (K : Ok env xs)
    (hj : os[j]? = some (l, Ls ds)) (ho : Ev (model prog w) A env (FH s₀ env vs os) o (.r l)) (he : Ev (model prog w) A env (FH s₀ env vs os) e (.o T)) (hz : ds.length ≤ 100000)
    (h : ∀ b, Sm (model prog w) A env (Fm s₀ env vs (os.set j (l, Ls (ds ++ [.r b])) ++ [(b, T)])) rest Q)
    (hbase : attributeBase o "append" env (eval o env) = eval o env := by rfl)
    (hfew : ((backTo p (starEach [e] env)).all (fun x => !x.1) && (backToKw p (keywordEach [] env)).all (fun x => x.1.isSome)
      && decide (([e] : List PySem.Expr).length + ([] : List Keyword).length + (if ([] : List Keyword).isEmpty then 0 else 1) < 30)) = true := by rfl)
    (hline : (ap.endLine == p.line) = true := by rfl) (htrees : backTo p (starEach [e] env) = [(false, eval e env)] := by rfl)
    (hs : swapsWith (.Call (.Attribute o "append" ap) [e] [] p) none p'.line env = pure false := by rfl) :
    Sm (model prog w) A env (Fm s₀ env vs os) (.Expr (.Call (.Attribute o "append" ap) [e] [] p) p' :: rest) Q :=
  .one fun s hs' E => wpAny_Expr (wpAny_Call_append hbase hfew hline htrees (ho.run s hs' _ _ fun ov s1 g1 n1 h1 => by
    cases (show ov = .ref l from g1)
    have F1 : Fm s₀ env vs os s1 := h1
    obtain ⟨_, _, _, ob, hob, items, n, rfl, hI⟩ := F1.own (l, Ls ds) (List.mem_of_getElem? hj)
    refine ⟨l, items, rfl, ⟨_, n, hob, rfl, rfl, rfl⟩, he.run s1 h1 _ _ fun y s2 g2 n2 (F2 : Fm s₀ env vs os s2) => ?_⟩
    obtain ⟨b, ob2, rfl, q0, q1, hT⟩ := g2
    have hsz : items.size = ds.length := by rw [← Array.length_toList]; exact hI.length
    have hsl : sizeLine = 2 ^ 24 := rfl
    have F3 : Fm s₀ env vs ((b, T) :: os) s2 := F1.made n2 q0 q1 hT
    refine append_at (n2.up _ _ hob) (fun h' hsb ho' E => ?_) (by omega)
    have hLs : Ls (ds ++ [D.r b]) { cls := Value.type "list", data := Data.seq (items.push (Value.ref b)) (n + 1) } := by
      refine ⟨_, _, rfl, ?_⟩
      rw [Array.toList_push]
      exact hI.append ⟨rfl, trivial⟩
    have F4 := F3.changed (j := j + 1) (tk := s2.toks) (T' := Ls (ds ++ [D.r b])) (by rw [List.getElem?_cons_succ]; exact hj) ho' hLs hsb.extBut
    rw [List.set_cons_succ] at F4
    exact (h b).run _ (F4.perm (List.perm_append_singleton _ _).symm) E)) (by unfold interactive; rw [K.fn]; rfl) hs

/- an item of three, counted round -/
theorem Ev.itemP {H : HP} {value slice : PySem.Expr} {pos : Pos} {ds : List D} {k : Nat} {d : D} (hv : Ev (model prog w) A env H value (.k (Lo ds))) (hi : Ev (model prog w) A env H slice (.i ((k : Int) - 1))) (hk : k < 3) (hl : ds.length = 3)
    (hd : ds[(k + 2) % 3]? = some d)
    (hs : ∀ l u, subscripted slice false (.ref l) (.int ((k : Int) - 1) u) = operate [.ref l, .int ((k : Int) - 1) u] (getItem (.ref l) (.int ((k : Int) - 1) u)) := by intro _ _; with_unfolding_all rfl)
    (ht : ∀ o r, letTemporaryGo value o r = pure () := by intro _ _; with_unfolding_all rfl) :
    Ev (model prog w) A env H (.Subscript value slice pos) d := by
  rcases Nat.eq_zero_or_pos k with rfl | h
  · exact Ev.itemN hv hi (by decide) (by rw [hl]; decide) (by decide) (by rw [hl]; exact hd) hs ht
  · refine Ev.item hv hi (by omega) (by omega) ?_ hs ht
    have : ((k : Int) - 1).toNat = (k + 2) % 3 := by omega
    rw [this]; exact hd
end
end Mine

open PySem PySem.W PyProof.Rows
namespace Mine
/- a ruler's places -/
noncomputable def placesL (e s f : Nat) : List Nat := (List.range e).filter fun x => x % s == f
noncomputable def wordL (e s f : Nat) : List Nat := (placesL e s f).map (97 + ·)
noncomputable def metN (e s f s' f' : Nat) : Nat := ((List.range e).filter fun x => x % s == f && x % s' == f').length
end Mine

open PySem PySem.W PyProof.Rows
namespace Mine
set_option Elab.async false
set_option maxRecDepth 100000
set_option linter.unusedVariables false
set_option maxHeartbeats 4000000

noncomputable def m10 (x : Int) : Int := x.fmod (10 ^ 40)
noncomputable def dflt : List Int := [45523176132962393, 528757023077145838080, 29901978, 9]
/- the four numbers -/
noncomputable def numsL (ns : List Int) : List Int := (ns.take 4).map m10 ++ dflt.drop (ns.take 4).length
noncomputable def stepN (n : Nat) : Nat := 2 + n % 8
noncomputable def firstN (n : Nat) : Nat := n / 8 % stepN n
noncomputable def endN (d : Nat) : Nat := 13 + d % 14
noncomputable def rulerL (s f : Nat) : List Int := [(f : Int) + 1, s, 0, 5]
noncomputable def castL (l : List Nat) : List Int := l.map fun x : Nat => (x : Int)

/- what the mathematics gives -/
structure Facts : Prop where
  marks : ∀ e s f, 13 ≤ e → e ≤ 26 → 2 ≤ s → s ≤ 9 → f < s → marksL (rulerL s f) e = castL (placesL e s f)
  told : ∀ s f, 2 ≤ s → s ≤ 9 → f < s → ∀ k x, told (rulerL s f) k = some x → 1 ≤ x
  read : ∀ e s f (seed : Nat), 13 ≤ e → e ≤ 26 → 2 ≤ s → s ≤ 9 → f < s → readL (typedL (wordL e s f) seed) = wordL e s f
  pair : ∀ e s f s' f' odd, 13 ≤ e → e ≤ 26 → 2 ≤ s → s ≤ 9 → f < s → 2 ≤ s' → s' ≤ 9 → f' < s' → odd < 2 → pairV (wordL e s f) (wordL e s' f') (castL (placesL e s f)) (castL (placesL e s' f')) (metN e s f s' f') odd = true
  great : ∀ e s f s' f' odd, 13 ≤ e → e ≤ 26 → 2 ≤ s → s ≤ 9 → f < s → 2 ≤ s' → s' ≤ 9 → f' < s' → odd < 2 → ∀ far, far = 2 * maxi (wordL e s f).length (wordL e s' f').length - (metN e s f s' f' : Nat) →
    lev (wordL e s f) (upL (wordL e s' f')) (far - (odd : Nat)) = far

noncomputable def lawLs : List Str := ["numbers", "end", "steps", "k", "firsts", "rows", "words", "row", "plain", "met", "odd", "far"]
noncomputable def lawV (l : Addr) (nu en st k fi ro wo rw pl me od fa : Option D) : Vars :=
  [("script", some (.r l)), ("numbers", nu), ("end", en), ("steps", st), ("k", k), ("firsts", fi), ("rows", ro), ("words", wo), ("row", rw), ("plain", pl), ("met", me), ("odd", od), ("far", fa)]

theorem range_getD (ns : List Int) (f : Int → Int) : (List.range ns.length).map (fun i => D.i (f (ns.getD i 0))) = (ns.map f).map D.i := by
  apply List.ext_getElem
  · rw [List.length_map, List.length_map, List.length_map, List.length_range]
  · intro i h1 h2
    have h3 : i < ns.length := by rw [List.length_map, List.length_range] at h1; exact h1
    rw [List.getElem_map, List.getElem_map, List.getElem_map, List.getElem_range, List.getD_eq_getElem?_getD, List.getElem?_eq_getElem h3]
    rfl

theorem picked_all (n : Nat) (res : Nat → D) : picked n (fun _ => true) res = (List.range n).map res := by unfold picked; rw [List.filter_eq_self.mpr (fun _ _ => rfl)]

theorem item_i {l : List Int} {i : Nat} {d : D} (h : (l.map D.i)[i]? = some d) : d = .i (l.getD i 0) := by
  rw [List.getElem?_map] at h
  cases hc : l[i]? with
  | none => rw [hc] at h; cases h
  | some c => rw [hc] at h; cases h; rw [List.getD_eq_getElem?_getD, hc]; rfl

structure Defs (mg : Str → Option Value) (fG fS fT fR fRu fRf fP fC fL fI fM : Addr) : Prop where
  in1 : mg "in_table_b1" = some (.ref fI)
  map3 : mg "map_table_b3" = some (.ref fM)
  grp : mg "_grouping_intervals" = some (.ref fG)
  sub : mg "_substitution_cost" = some (.ref fS)
  typed : mg "_law_typed" = some (.ref fT)
  read : mg "_law_read" = some (.ref fR)
  marks : mg "_law_marks" = some (.ref fRu)
  refu : mg "_law_refused" = some (.ref fRf)
  pair : mg "_law_pair" = some (.ref fP)
  coll : mg "_strcoll" = some (.ref fC)
  lev : mg "_levenshtein_distance" = some (.ref fL)

theorem nfd (m n : Nat) : (m : Int).fdiv n = ((m / n : Nat) : Int) := by
  rw [Int.fdiv_eq_ediv_of_nonneg _ (Int.natCast_nonneg n)]; exact (Int.natCast_ediv m n).symm
theorem nfm (m n : Nat) : (m : Int).fmod n = ((m % n : Nat) : Int) := by
  rw [Int.fmod_eq_emod_of_nonneg _ (Int.natCast_nonneg n)]; exact (Int.natCast_emod m n).symm

theorem env_eta2 {env : Env} {sc : Scope} {cs : List (Str × Addr)} (h : env.scope = sc) (h2 : env.cells = cs) : env = { env with scope := sc, cells := cs } := by subst h; subst h2; rfl

/- the cells of law -/
noncomputable def cellsL (L : Addr) : List (Str × Addr) := [("firsts", L + 1 + 1 + 1 + 1), ("k", L + 1 + 1 + 1), ("steps", L + 1 + 1), ("numbers", L + 1)]

theorem law_a {w : World} {mg mb : Str → Option Value} {N : Nat} {A : Around} {fG fS fT fR fRu fRf fP fC fL fI fM : Addr} (Z : Defs mg fG fS fT fR fRu fRf fP fC fL fI fM) (hh : A.handled = none)
    {s₀ : Shared} {env : Env} (hG : G w mg mb N s₀.heap) (K : Ok env ("script" :: lawLs)) (hsc : env.scope = dLaw.scope) (hc : env.cells = cellsL env.locals) {l : Addr} {ns : List Int} (hlen : ns.length ≤ 63) (hl : ∃ o, s₀.heap.get? l = some o ∧ Lo (ns.map D.i) o) {Q : Flow → Shared → Prop}
    (rest : ∀ lm os, Sm (model PW w) A env (Fm s₀ env (lawV l (some (.r lm)) none none none none none none none none none none none) ((lm, Ls ((numsL ns).map D.i)) :: os)) (dLaw.body.drop 2) Q) :
    Sm (model PW w) A env (Fm s₀ env (lawV l none none none none none none none none none none none none) []) dLaw.body Q := by
  have g : ∀ {vs os} s, (FH s₀ env vs os).P s → G w mg mb N s.heap := fun {vs os} => FH.glob hG
  have bLen : ∀ {vs os p}, Fv (model PW w) A env (FH s₀ env vs os) (.Name "len" p) (.builtin "len") := fun {vs os p} => Fv.builtin K g (by decide +kernel) (by decide +kernel) (by decide +kernel) (by decide +kernel) (kd hsc (by kernel_rfl)) (by decide +kernel)
  with_unfolding_all refine Sm.open ?_
  have hcut : cut Option.none (some 4) (ns.map D.i) = (ns.take 4).map D.i := (cut_upto (ns.map D.i) 4).trans List.map_take.symm
  have hpk : picked ((ns.take 4).map D.i).length (fun _ => true) (fun i => .i (m10 ((ns.take 4).getD i 0))) = ((ns.take 4).map m10).map D.i := by
    rw [picked_all, List.length_map]
    exact range_getD (ns.take 4) m10
  refine Sm.new (i := 1) (T := Ls (((ns.take 4).map m10).map D.i)) (hs := by rw [env_eta2 hsc hc]; kernel_rfl) K rfl (by decide +kernel) ?_ fun l1 => ?_
  · rw [← hpk]
    refine Ev.comp (cl := []) (items := (ns.take 4).map D.i) (fun _ => true) (fun i => .i (m10 ((ns.take 4).getD i 0))) (closureFor_none (by decide +kernel)) (by decide +kernel) (by kernel_rfl) (by decide +kernel) (by kernel_rfl)
      (Gv.lo (Gv.k (Gv.cast (Ev.lslice (lo := Option.none) (hi := some 4) (Ev.old (i := 0) K rfl hl) Evp.none (Evp.some (Ev.int (n := 4))) rfl rfl (by simp; omega)) (by rw [hcut])))) (Src.list hh) (by simp; omega) (fun C i d hd => Tv.nil) (fun C i d hd _ => ?_) (fun i => ⟨(fun _ h => nomatch h), (fun _ h => nomatch h)⟩)
    obtain rfl := item_i hd
    exact Ev.bin (Ev.own (by kernel_rfl) (by kernel_rfl)) (Ev.bin (Ev.int (n := 10)) (Ev.int (n := 40)) (Op.pow 10 40 (by decide) (by decide) (by decide))) (Op.mod _ _ (by decide +kernel))
  have hdrop : cut (some (((ns.take 4).map m10).map D.i).length) Option.none (dflt.map D.i) = (dflt.drop (ns.take 4).length).map D.i := by
    rw [cut_from]
    rw [List.length_map, List.length_map, List.map_drop]
  have hnums : (numsL ns).map D.i = ((ns.take 4).map m10).map D.i ++ (dflt.drop (ns.take 4).length).map D.i := by
    unfold numsL
    rw [List.map_append]
  refine Sm.new (i := 1) (T := Ls ((numsL ns).map D.i)) K rfl (by decide +kernel) ?_ fun lm => ?_
  rotate_left
  · with_unfolding_all exact rest lm _
  rw [hnums]
  refine Ev.bin (Ev.obj (i := 1) (j := 0) K rfl rfl) (Gv.k (Gv.cast (Ev.lsliceT (lo := some (((ns.take 4).map m10).map D.i).length) (hi := Option.none) (ds := dflt.map D.i) (Gv.lo (Gv.k (Ev.listInts (ns := dflt) (by kernel_rfl) (by decide)))) (Evp.some (Ev.callB bLen (Avs.cons (Gv.lo (Ev.obj (i := 1) (j := 0) K rfl rfl)) Avs.nil) (Cb.len_list _ (by simp; omega)).cr)) Evp.none rfl rfl (by decide)) (by rw [hdrop]))) (Op.ladd _ _ ?_)
  simp
  have : dflt.length = 4 := rfl
  omega
end Mine

open PySem PySem.W PyProof.Rows
namespace Mine
set_option Elab.async false
set_option maxRecDepth 100000
set_option linter.unusedVariables false
set_option maxHeartbeats 4000000

theorem Gv.cast_cl {M : Model} {A : Around} {f : Value} {ds : List D} {d d' : D} (h : Cl1 M A f ds d) (e : d = d') : Cl1 M A f ds d' := e ▸ h

noncomputable def numN (a b c k : Nat) : Nat := [a, b, c].getD k 0
theorem three {P : Nat → Prop} (h0 : P 0) (h1 : P 1) (h2 : P 2) : ∀ k, k < 3 → P k
  | 0, _ => h0
  | 1, _ => h1
  | 2, _ => h2
  | _ + 3, h => absurd h (by omega)
theorem num_at (a b c d : Nat) : ∀ k, k < 3 → ((castL [a, b, c, d]).map D.i)[k]? = some (.i ((numN a b c k : Nat) : Int)) := three rfl rfl rfl
noncomputable def stepsL (a b c : Nat) : List Nat := [stepN a, stepN b, stepN c]
noncomputable def firstsL (a b c : Nat) : List Nat := [firstN a, firstN b, firstN c]
theorem step_at (a b c : Nat) : ∀ k, k < 3 → ((castL (stepsL a b c)).map D.i)[k]? = some (.i ((stepN (numN a b c k) : Nat) : Int)) := three rfl rfl rfl
theorem first_at (a b c : Nat) : ∀ k, k < 3 → ((castL (firstsL a b c)).map D.i)[k]? = some (.i ((firstN (numN a b c k) : Nat) : Int)) := three rfl rfl rfl

theorem stepN_le (n : Nat) : 2 ≤ stepN n ∧ stepN n ≤ 9 ∧ firstN n < stepN n := by
  have h : 2 ≤ stepN n := by unfold stepN; omega
  exact ⟨h, by unfold stepN; omega, Nat.mod_lt _ (by omega)⟩
theorem endN_le (d : Nat) : 13 ≤ endN d ∧ endN d ≤ 26 := by unfold endN; omega

theorem range_i {n i : Nat} {d : D} (hd : ((List.range n).map fun (i : Nat) => D.i (0 + (i : Int) * 1))[i]? = some d) : i < n ∧ d = .i (i : Int) := by
  rw [List.getElem?_map] at hd
  rcases Nat.lt_or_ge i n with h | h
  · rw [List.getElem?_range h] at hd
    injection hd with hd
    exact ⟨h, hd.symm.trans (congrArg D.i (show (0 + (i : Int) * 1) = (i : Int) by omega))⟩
  · rw [List.getElem?_eq_none (by simpa using h)] at hd; cases hd

/- the constant objects of law -/
noncomputable def baseO (lf ls lm : Addr) (a b c d : Nat) (os : Objs) : Objs := (lf, Ls ((castL (firstsL a b c)).map D.i)) :: (ls, Ls ((castL (stepsL a b c)).map D.i)) :: (lm, Ls ((castL [a, b, c, d]).map D.i)) :: os

theorem law_b {w : World} {mg mb : Str → Option Value} {N : Nat} {A : Around} {fG fS fT fR fRu fRf fP fC fL fI fM : Addr} (Z : Defs mg fG fS fT fR fRu fRf fP fC fL fI fM) (hh : A.handled = none)
    {s₀ : Shared} {env : Env} (hG : G w mg mb N s₀.heap) (K : Ok env ("script" :: lawLs)) (hsc : env.scope = dLaw.scope) (hc : env.cells = cellsL env.locals) {l lm : Addr} {os : Objs} {a b c d : Nat} {Q : Flow → Shared → Prop}
    (rest : ∀ ls lf lr lw, Sm (model PW w) A env (Fm s₀ env (lawV l (some (.r lm)) (some (.i (endN d))) (some (.r ls)) none (some (.r lf)) (some (.r lr)) (some (.r lw)) none none none none none) ((lw, Ls []) :: (lr, Ls []) :: baseO lf ls lm a b c d os)) (dLaw.body.drop 7) Q) :
    Sm (model PW w) A env (Fm s₀ env (lawV l (some (.r lm)) none none none none none none none none none none none) ((lm, Ls ((castL [a, b, c, d]).map D.i)) :: os)) (dLaw.body.drop 2) Q := by
  have g : ∀ {vs os} s, (FH s₀ env vs os).P s → G w mg mb N s.heap := fun {vs os} => FH.glob hG
  have bRange : ∀ {vs os p}, Fv (model PW w) A env (FH s₀ env vs os) (.Name "range" p) (.type "range") := fun {vs os p} => Fv.builtin K g (by decide +kernel) (by decide +kernel) (by decide +kernel) (by decide +kernel) (kd hsc (by kernel_rfl)) (by decide +kernel)
  with_unfolding_all refine Sm.open ?_
  refine Sm.assign (i := 2) (d := .i (endN d)) K rfl (by decide +kernel) (Gv.cast (Ev.bin (Ev.int (n := 13)) (Ev.bin (Ev.item (k := 3) (d := .i d) (ds := (castL [a, b, c, d]).map D.i) (Gv.lo (Ev.obj (i := 1) (j := 0) K rfl rfl)) (Ev.int (n := 3)) (by decide) (by decide) rfl) (Ev.int (n := 14)) (Op.mod _ _ (by decide))) (Op.add _ _)) (by rw [show (d : Int).fmod 14 = _ from nfm d 14]; rfl)) (fun _ h => nomatch h) (fun _ h => nomatch h) ?_
  refine Sm.new (i := 3) (T := Ls ((castL (stepsL a b c)).map D.i)) (hs := by rw [env_eta2 hsc hc]; kernel_rfl) K rfl (by decide +kernel) ?_ fun ls => ?_
  · have hpk : (castL (stepsL a b c)).map D.i = picked ((castL [a, b, c]).map D.i).length (fun _ => true) (fun i => .i (2 + ((castL [a, b, c]).getD i 0).fmod 8)) := by
      have e : ∀ x : Nat, D.i (2 + (x : Int).fmod 8) = D.i ((stepN x : Nat) : Int) := fun x => by rw [show (x : Int).fmod 8 = _ from nfm x 8]; rfl
      show [D.i _, D.i _, D.i _] = [D.i (2 + (a : Int).fmod 8), D.i (2 + (b : Int).fmod 8), D.i (2 + (c : Int).fmod 8)]
      rw [e, e, e]
    rw [hpk]
    refine Ev.comp (cl := []) (items := (castL [a, b, c]).map D.i) (fun _ => true) (fun i => .i (2 + ((castL [a, b, c]).getD i 0).fmod 8)) (closureFor_none (by decide +kernel)) (by decide +kernel) (by kernel_rfl) (by decide +kernel) (by kernel_rfl)
      (Gv.lo (Gv.k (Gv.cast (Ev.lslice (lo := Option.none) (hi := some 3) (Gv.lo (Ev.obj (i := 1) (j := 0) K rfl rfl)) Evp.none (Evp.some (Ev.int (n := 3))) rfl rfl (by simp [castL])) (by rw [show cut Option.none (some 3) ((castL [a, b, c, d]).map D.i) = _ from cut_upto _ 3]; rfl)))) (Src.list hh) (by simp [castL]) (fun C i d hd => Tv.nil) (fun C i d hd _ => ?_) (fun i => ⟨(fun _ h => nomatch h), (fun _ h => nomatch h)⟩)
    obtain rfl := item_i hd
    exact Ev.bin (Ev.int (n := 2)) (Ev.bin (Ev.own (by kernel_rfl) (by kernel_rfl)) (Ev.int (n := 8)) (Op.mod _ _ (by decide))) (Op.add _ _)
  refine Sm.new (i := 5) (T := Ls ((castL (firstsL a b c)).map D.i)) (hs := by rw [env_eta2 hsc hc]; kernel_rfl) K rfl (by decide +kernel) ?_ fun lf => ?_
  · have hpk : (castL (firstsL a b c)).map D.i = picked ((List.range 3).map fun (i : Nat) => D.i (0 + (i : Int) * 1)).length (fun _ => true) (fun i => .i ((firstN (numN a b c i) : Nat) : Int)) := rfl
    rw [hpk]
    refine Ev.comp (cl := [("steps", env.locals + 1 + 1), ("numbers", env.locals + 1)]) (d0 := .o (Rg 0 3 1)) (items := (List.range 3).map fun (i : Nat) => D.i (0 + (i : Int) * 1)) (fun _ => true) (fun i => .i ((firstN (numN a b c i) : Nat) : Int)) (by rw [env_eta2 hsc hc]; kernel_rfl) (by decide +kernel) (by kernel_rfl) (by decide +kernel) (by kernel_rfl)
      (Ev.callT bRange (Avs.cons (Ev.int (n := 3)) Avs.nil) (Cb.range1 _).cr) (Src.range hh (small_range 3 (by decide)) (size_range 3)) (by decide) (fun C i d hd => Tv.nil) (fun C i d hd _ => ?_) (fun i => ⟨(fun _ h => nomatch h), (fun _ h => nomatch h)⟩)
    obtain ⟨hi, rfl⟩ := range_i hd
    have e1 : ((numN a b c i : Nat) : Int).fdiv 8 = ((numN a b c i / 8 : Nat) : Int) := nfd _ 8
    have e2 : ((numN a b c i / 8 : Nat) : Int).fmod ((stepN (numN a b c i) : Nat) : Int) = ((firstN (numN a b c i) : Nat) : Int) := nfm _ _
    have hs0 := (stepN_le (numN a b c i)).1
    refine Gv.cast (Ev.bin (Ev.bin (Ev.item (ds := (castL [a, b, c, d]).map D.i) (Gv.lo (Gv.know (Ev.free (i := 1) (d := .r lm) (c := env.locals + 1) rfl (kd hsc (by kernel_rfl)) (by rw [hc]; kernel_rfl) (by kernel_rfl) (by rw [env_eta2 hsc hc]; kernel_rfl) (by kernel_rfl)) ?_)) (Ev.own (by kernel_rfl) (by kernel_rfl)) (by omega) (by omega) (num_at a b c d i hi)) (Ev.int (n := 8)) (Op.fdiv _ _ (by decide) (by decide +kernel))) (Ev.item (ds := (castL (stepsL a b c)).map D.i) (Gv.lo (Gv.know (Ev.free (i := 3) (d := .r ls) (c := env.locals + 1 + 1) rfl (kd hsc (by kernel_rfl)) (by rw [hc]; kernel_rfl) (by kernel_rfl) (by rw [env_eta2 hsc hc]; kernel_rfl) (by kernel_rfl)) ?_)) (Ev.own (by kernel_rfl) (by kernel_rfl)) (by omega) (by omega) (step_at a b c i hi)) (Op.mod _ _ (by omega))) (by rw [e1, e2])
    · intro st hs
      obtain ⟨_, _, _, o, ho, hT⟩ := (show Fm s₀ env _ _ st from hs.1).own (lm, Ls ((castL [a, b, c, d]).map D.i)) (List.mem_cons_of_mem _ List.mem_cons_self)
      exact ⟨o, ho, hT⟩
    · intro st hs
      obtain ⟨_, _, _, o, ho, hT⟩ := (show Fm s₀ env _ _ st from hs.1).own (ls, Ls ((castL (stepsL a b c)).map D.i)) List.mem_cons_self
      exact ⟨o, ho, hT⟩
  refine Sm.new (i := 6) (T := Ls []) K rfl (by decide +kernel) (Ev.list Avs.nil trivial (by decide)) fun lr => ?_
  refine Sm.new (i := 7) (T := Ls []) K rfl (by decide +kernel) (Ev.list Avs.nil trivial (by decide)) fun lw => ?_
  with_unfolding_all exact rest ls lf lr lw
end Mine

open PySem PySem.W PyProof.Rows
namespace Mine
set_option Elab.async false
set_option maxRecDepth 100000
set_option linter.unusedVariables false
set_option maxHeartbeats 4000000

theorem fnD {w : World} {mg mb : Str → Option Value} {N : Nat} {s₀ : Shared} {env : Env} {vs : Vars} {os : Objs} (hG : G w mg mb N s₀.heap) {df : DefItem} {f : Addr} (h1 : df ∈ theDefs) (h2 : df.params.defaults = []) (h3 : mg df.name = some (.ref f)) :
    ∀ s, (FH s₀ env vs os).P s → ∃ o fd, s.heap.get? f = some o ∧ o.data = .func fd := fun s hs => by
  obtain ⟨_, o, pm, c', doc, q1, q2, _⟩ := made_at h1 h2 h3 s (FH.glob hG s hs)
  exact ⟨o, _, q1, q2⟩

theorem Ev.freeO {M : Model} {A : Around} {env : Env} {s₀ : Shared} {vs : Vars} {os : Objs} {scope : Scope} {cl : List (Str × Addr)} {C c a : Addr} {i j : Nat} {x y : Str} {T : Obj → Prop} {dy : D} {p : Pos} (hi : vs[i]? = some (x, some (.r a))) (hj : os[j]? = some (a, T)) (hkc : env.kindOf x = some .cell) (hc : env.cells.lookup x = some c) (hcl : cl.lookup x = some c)
    (hrel : (relabel scope env).names.lookup x = some .cell) (hk : scope.kind = .function) (hd : (x == ("__debug__" : Str)) = false := by decide +kernel) : Ev M A (compEnvC scope cl C env) (CompH (FH s₀ env vs os) C y dy) (.Name x p) (.k T) :=
  Gv.know (Ev.free hi hkc hc hcl hrel hk hd) fun st hs => by
    obtain ⟨_, _, _, o, ho, hT⟩ := (show Fm s₀ env vs os st from hs.1).own (a, T) (List.mem_of_getElem? hj)
    exact ⟨o, ho, hT⟩

noncomputable def plAt (a b c d k : Nat) : List Nat := placesL (endN d) (stepN (numN a b c k)) (firstN (numN a b c k))
noncomputable def woAt (a b c d k : Nat) : List Nat := wordL (endN d) (stepN (numN a b c k)) (firstN (numN a b c k))
noncomputable def markT (a b c d k : Nat) : Obj → Prop := Ls ((castL (plAt a b c d k)).map D.i)
noncomputable def marksO (a b c d : Nat) (la : List Addr) : Objs := (List.range la.length).map fun i => (la.getD i 0, markT a b c d i)
noncomputable def wordsD (a b c d n : Nat) : List D := (List.range n).map fun i => D.s (woAt a b c d i)

theorem marksO_add (a b c d : Nat) (la : List Addr) (x : Addr) : marksO a b c d (la ++ [x]) = marksO a b c d la ++ [(x, markT a b c d la.length)] := by
  unfold marksO
  rw [List.length_append, List.length_singleton, List.range_succ, List.map_append]
  congr 1
  · apply List.map_congr_left
    intro i hi
    have hi := List.mem_range.mp hi
    rw [List.getD_eq_getElem?_getD, List.getD_eq_getElem?_getD, List.getElem?_append_left hi]
  · show [((la ++ [x]).getD la.length 0, markT a b c d la.length)] = [(x, markT a b c d la.length)]
    rw [List.getD_eq_getElem?_getD, List.getElem?_append_right (Nat.le_refl _), Nat.sub_self]; rfl
theorem marksO_mem {a b c d i : Nat} {la : List Addr} {x : Addr} (h : la[i]? = some x) : (x, markT a b c d i) ∈ marksO a b c d la := by
  have hi := (List.getElem?_eq_some_iff.mp h).1
  refine List.mem_map.mpr ⟨i, List.mem_range.mpr hi, ?_⟩
  rw [List.getD_eq_getElem?_getD, h]; rfl
theorem wordsD_add (a b c d n : Nat) : wordsD a b c d n ++ [.s (woAt a b c d n)] = wordsD a b c d (n + 1) := by unfold wordsD; rw [List.range_succ, List.map_append]; rfl

theorem places_lt {e s f x : Nat} (h : x ∈ placesL e s f) : x < e := List.mem_range.mp (List.mem_filter.mp h).1
theorem places_len (e s f : Nat) : (placesL e s f).length ≤ e := by
  have := List.length_filter_le (fun x => x % s == f) (List.range e)
  rw [List.length_range] at this; exact this
theorem word_len (e s f : Nat) : (wordL e s f).length ≤ e := by unfold wordL; rw [List.length_map]; exact places_len e s f
theorem word_az {e s f : Nat} (he : e ≤ 26) : ∀ x ∈ wordL e s f, 97 ≤ x ∧ x ≤ 122 := by
  intro x hx
  obtain ⟨p, hp, rfl⟩ := List.mem_map.mp hx
  have := places_lt hp
  omega
theorem beq_cast (m n : Nat) : ((m : Int) == (n : Int)) = (m == n) := by rw [Bool.eq_iff_iff, beq_iff_eq, beq_iff_eq]; omega
theorem flat_map (l : List Nat) : (l.map fun p => [97 + p]).flatten = l.map (97 + ·) := by
  induction l with
  | nil => rfl
  | cons a l ih => rw [List.map_cons, List.flatten_cons, ih]; rfl
theorem picked_filter (n : Nat) (tst : Nat → Bool) (l : List Nat) (h : l = (List.range n).filter tst) : picked ((List.range n).map fun (i : Nat) => D.i (0 + (i : Int) * 1)).length tst (fun i => .i (i : Int)) = (castL l).map D.i := by
  unfold picked castL
  rw [List.length_map, List.length_range, List.map_map, h]; rfl

/- the names of law in its first loop -/
noncomputable def loopV (l lm ls lf lr lw : Addr) (d : Nat) (kk rw pl : Option D) : Vars := lawV l (some (.r lm)) (some (.i (endN d))) (some (.r ls)) kk (some (.r lf)) (some (.r lr)) (some (.r lw)) rw pl none none none

theorem law_c {w : World} {mg mb : Str → Option Value} {N : Nat} {A : Around} {fG fS fT fR fRu fRf fP fC fL fI fM : Addr} (Z : Defs mg fG fS fT fR fRu fRf fP fC fL fI fM) (Fc : Facts) (hh : A.handled = none) (hroom : A.depth + 2 < recursionLimit) (hu : A.units < cLine)
    {s₀ : Shared} {env : Env} (hG : G w mg mb N s₀.heap) (K : Ok env ("script" :: lawLs)) (hsc : env.scope = dLaw.scope) (hc : env.cells = cellsL env.locals) (hfr : env.frame = some env.locals) (hA : A.frames = some [env]) {l lm ls lf lr lw : Addr} {os : Objs} {a b c d : Nat} {Q : Flow → Shared → Prop}
    (rest : ∀ la kk rw pl, la.length = 3 → Sm (model PW w) A env (Fm s₀ env (loopV l lm ls lf lr lw d kk rw pl) ((lw, Ls (wordsD a b c d 3)) :: (lr, Ls (la.map D.r)) :: baseO lf ls lm a b c d (os ++ marksO a b c d la))) (dLaw.body.drop 8) Q) :
    Sm (model PW w) A env (Fm s₀ env (loopV l lm ls lf lr lw d none none none) ((lw, Ls []) :: (lr, Ls []) :: baseO lf ls lm a b c d os)) (dLaw.body.drop 7) Q := by
  have g : ∀ {vs os} s, (FH s₀ env vs os).P s → G w mg mb N s.heap := fun {vs os} => FH.glob hG
  have bRange : ∀ {vs os p}, Fv (model PW w) A env (FH s₀ env vs os) (.Name "range" p) (.type "range") := fun {vs os p} => Fv.builtin K g (by decide +kernel) (by decide +kernel) (by decide +kernel) (by decide +kernel) (kd hsc (by kernel_rfl)) (by decide +kernel)
  have he := endN_le d
  have eA : ∀ {vs : Vars} {os : Objs} {i j k m : Nat} {x : Str} {ad : Addr} {ds : List D}, Has vs i x (.r ad) → HasO os j ad (Ls ds) → Has vs 4 "k" (.i (k : Int)) → ds[k]? = some (.i (m : Int)) → k < 3 → (x == ("__debug__" : Str)) = false → ∀ {p1 p2 p3}, Ev (model PW w) A env (FH s₀ env vs os) (.Subscript (.Name x p1) (.Name "k" p2) p3) (.i (m : Int)) := fun {vs os i j k m x ad ds} h1 h2 h3 h4 h5 h6 {p1 p2 p3} =>
    Ev.item (k := (k : Int)) (ds := ds) (Gv.lo (Ev.obj K h1 h2 h6)) (Ev.var K h3) (by omega) (by omega) (by rw [Int.toNat_natCast]; exact h4)
  with_unfolding_all refine Sm.open ?_
  refine Sm.forRange (i := 4) (a := 0) (b := 3) (c := 1) 3 (fun k vs os' => ∃ la kk rw pl, la.length = k ∧ vs = loopV l lm ls lf lr lw d kk rw pl ∧ os' = (lw, Ls (wordsD a b c d k)) :: (lr, Ls (la.map D.r)) :: baseO lf ls lm a b c d (os ++ marksO a b c d la))
    K hh (Ev.callT bRange (Avs.cons (Ev.int (n := 3)) Avs.nil) (Cb.range1 _).cr) (small_range 3 (by decide)) (size_range 3) (by decide +kernel) ⟨[], none, none, none, rfl, rfl, by show _ = _ :: _ :: baseO lf ls lm a b c d (os ++ []); rw [List.append_nil]; rfl⟩ (by rintro k vs os' ⟨la, kk, rw, pl, _, rfl, _⟩; exact ⟨_, rfl⟩) ?_ ?_
  · rintro k vs os' I T hk ⟨la, kk, rw0, pl0, hla, rfl, rfl⟩
    rw [show (0 + (k : Int) * 1) = (k : Int) by omega]
    have hs := stepN_le (numN a b c k)
    have hsi := step_at a b c k hk
    have hfi := first_at a b c k hk
    have hni := num_at a b c d k hk
    have hpl : plAt a b c d k = placesL (endN d) (stepN (numN a b c k)) (firstN (numN a b c k)) := rfl
    have hwo : woAt a b c d k = wordL (endN d) (stepN (numN a b c k)) (firstN (numN a b c k)) := rfl
    have hmT : markT a b c d k = Ls ((castL (plAt a b c d k)).map D.i) := rfl
    have hmarks := Fc.marks (endN d) _ _ he.1 he.2 hs.1 hs.2.1 hs.2.2
    have htold := Fc.told _ _ hs.1 hs.2.1 hs.2.2
    have hread := Fc.read (endN d) _ _ (numN a b c k / 72) he.1 he.2 hs.1 hs.2.1 hs.2.2
    generalize stepN (numN a b c k) = S at *
    generalize firstN (numN a b c k) = F0 at *
    generalize numN a b c k = n0 at *
    rw [← hpl] at hmarks
    rw [← hwo] at hread
    have hplen : (plAt a b c d k).length ≤ 26 := by rw [hpl]; have := places_len (endN d) S F0; omega
    have hwlen : (woAt a b c d k).length ≤ 26 := by rw [hwo]; have := word_len (endN d) S F0; omega
    have hplt : ∀ x ∈ plAt a b c d k, x < 26 := by rw [hpl]; intro x hx; have := places_lt hx; omega
    have hwaz : ∀ x ∈ woAt a b c d k, 97 ≤ x ∧ x ≤ 122 := by rw [hwo]; exact word_az he.2
    have hwp : woAt a b c d k = (plAt a b c d k).map (97 + ·) := by rw [hwo, hpl]; rfl
    have hpf : plAt a b c d k = (List.range (endN d)).filter fun x => x % S == F0 := hpl
    generalize plAt a b c d k = P at *
    generalize hW : woAt a b c d k = W at hwo hread hwlen hwaz hwp
    refine Sm.new (i := 8) (T := Ls ((rulerL S F0).map D.i)) K rfl (by decide +kernel) ?_ fun lro => ?_
    · exact Ev.list (ds := (rulerL S F0).map D.i) (Avs.cons (Ev.bin (eA (i := 5) (j := 3) rfl rfl rfl hfi hk (by decide +kernel)) (Ev.int (n := 1)) (Op.add _ _)) (Avs.cons (eA (i := 3) (j := 4) rfl rfl rfl hsi hk (by decide +kernel)) (Avs.cons Ev.int (Avs.cons Ev.int Avs.nil)))) (plain_ints _) (by simp [rulerL])
    have hrow0 : (rulerL S F0)[0]? ≠ some 0 := by
      intro h
      have h : (F0 : Int) + 1 = 0 := Option.some.inj h
      omega
    refine Sm.appendNew (j := 3) (ds := la.map D.r) (T := markT a b c d k) K rfl (Ev.var (i := 6) K rfl) ?_ (by simp; omega) fun lk => ?_
    · rw [hmT, ← hmarks]
      exact Ev.callD (f := fRu) (Fv.global K g Z.marks (kd hsc (by kernel_rfl))) (fnD hG (df := dRuns) (by unfold theDefs; simp) dRuns_ok.nd (by rw [dRuns_name]; exact Z.marks)) (Avs.cons (Gv.lo (Ev.obj (i := 8) (j := 0) K rfl rfl)) (Avs.cons (Ev.var (i := 2) K rfl) Avs.nil))
        (fun s us Q E hs ga q => marks_walk Z.marks Z.grp (show A.depth + 1 < recursionLimit by omega) hh (rulerL S F0) hrow0 htold (endN d) (by omega) (by omega) s us Q E (g s hs) ga q)
    have hadd : os ++ marksO a b c d la ++ [(lk, markT a b c d k)] = os ++ marksO a b c d (la ++ [lk]) := by rw [marksO_add, List.append_assoc, hla]
    have hmr : la.map D.r ++ [D.r lk] = (la ++ [lk]).map D.r := by rw [List.map_append]; rfl
    have hget : (la ++ [lk])[k]? = some lk := by rw [List.getElem?_append_right (by omega), hla, Nat.sub_self]; rfl
    refine Sm.weak (G := Fm s₀ env (lawV l (some (.r lm)) (some (.i (endN d))) (some (.r ls)) (some (.i (k : Int))) (some (.r lf)) (some (.r lr)) (some (.r lw)) (some (.r lro)) pl0 none none none) ((lro, Ls ((rulerL S F0).map D.i)) :: (I, T) :: (lw, Ls (wordsD a b c d k)) :: (lr, Ls ((la ++ [lk]).map D.r)) :: baseO lf ls lm a b c d (os ++ marksO a b c d (la ++ [lk])))) ?_ (fun s F => by rw [← hadd, ← hmr]; exact F)
    clear hadd hmr
    have hmem : (lk, markT a b c d k) ∈ marksO a b c d (la ++ [lk]) := marksO_mem hget
    have hlen1 : (la ++ [lk]).length = k + 1 := by simp [hla]
    generalize la ++ [lk] = la1 at *
    have hgr : (la1.map D.r)[k]? = some (.r lk) := by rw [List.getElem?_map, hget]; rfl
    have eRow : ∀ {vs : Vars} {os1 : Objs} {j : Nat}, Has vs 6 "rows" (.r lr) → HasO os1 j lr (Ls (la1.map D.r)) → Has vs 4 "k" (.i (k : Int)) → (lk, markT a b c d k) ∈ os1 → ∀ {p1 p2 p3}, Ev (model PW w) A env (FH s₀ env vs os1) (.Subscript (.Name "rows" p1) (.Name "k" p2) p3) (.k (Lo ((castL P).map D.i))) := fun {vs os1 j} h1 h2 h3 h4 {p1 p2 p3} =>
      Gv.lo (Gv.know (Ev.item (k := (k : Int)) (ds := la1.map D.r) (Gv.lo (Ev.obj K h1 h2)) (Ev.var K h3) (by omega) (by omega) (by rw [Int.toNat_natCast]; exact hgr)) fun s (F : Fm s₀ env vs os1 s) => by
        obtain ⟨_, _, _, o, ho, hT⟩ := F.own _ h4
        rw [hmT] at hT
        exact ⟨o, ho, hT⟩)
    have hm2 : ∀ x y z : Addr × (Obj → Prop), ∀ u, (lk, markT a b c d k) ∈ x :: y :: z :: u :: baseO lf ls lm a b c d (os ++ marksO a b c d la1) := fun x y z u => by
      unfold baseO
      exact List.mem_cons_of_mem _ (List.mem_cons_of_mem _ (List.mem_cons_of_mem _ (List.mem_cons_of_mem _ (List.mem_cons_of_mem _ (List.mem_cons_of_mem _ (List.mem_cons_of_mem _ (List.mem_append_right _ hmem)))))))
    refine Sm.refused (A := A) (row := rulerL S F0) K hfr hA hh hroom hG Z.refu Z.marks Z.grp (kd hsc (by kernel_rfl)) (Tr.cast (Tr.cmp (d1 := .k (Lo ((castL P).map D.i))) (d2 := .k (Lo ((castL P).map D.i))) (eRow (j := 3) rfl rfl rfl (hm2 _ _ _ _)) (Gv.lo (Gv.k ?_)) (Op.lne _ _ hu)) (by simp))
      (Gv.imp (Gv.k (Ev.bin (Gv.k (Ev.listInts (ns := [0]) (by kernel_rfl) (by decide))) (Ev.obj (i := 8) (j := 0) K rfl rfl) (Op.ladd _ _ (by simp [rulerL])))) (fun s s' v g => ?_)) ?_
    · rw [← picked_filter (endN d) (fun x => x % S == F0) P hpf]
      refine Ev.comp (cl := [("steps", env.locals + 1 + 1), ("k", env.locals + 1 + 1 + 1), ("firsts", env.locals + 1 + 1 + 1 + 1)]) (d0 := .o (Rg 0 (endN d) 1)) (items := (List.range (endN d)).map fun (i : Nat) => D.i (0 + (i : Int) * 1)) (fun x => x % S == F0) (fun i => .i (i : Int)) (by rw [env_eta2 hsc hc]; kernel_rfl) (by decide +kernel) (by kernel_rfl) (by decide +kernel) (by kernel_rfl)
        (Ev.callT bRange (Avs.cons (Ev.var (i := 2) K rfl) Avs.nil) (Cb.range1 _).cr) (Src.range hh (small_range _ (by omega)) (size_range _)) (by simp; omega) (fun C i dd hd => ?_) (fun C i dd hd _ => ?_) (fun i => ⟨(fun _ h => nomatch h), (fun _ h => nomatch h)⟩)
      · obtain ⟨hi, rfl⟩ := range_i hd
        have e2 : ((i : Int).fmod (S : Int) == (F0 : Int)) = (i % S == F0) := by rw [nfm, beq_cast]
        rw [← e2]
        refine Tv.one (Tr.cmp (Ev.bin (Ev.own (by kernel_rfl) (by kernel_rfl)) (Ev.item (k := (k : Int)) (ds := (castL (stepsL a b c)).map D.i) (Gv.lo (Ev.freeO (i := 3) (j := 5) (c := env.locals + 1 + 1) rfl rfl (kd hsc (by kernel_rfl)) (by rw [hc]; kernel_rfl) (by kernel_rfl) (by rw [env_eta2 hsc hc]; kernel_rfl) (by kernel_rfl))) (Ev.free (i := 4) (d := .i (k : Int)) (c := env.locals + 1 + 1 + 1) rfl (kd hsc (by kernel_rfl)) (by rw [hc]; kernel_rfl) (by kernel_rfl) (by rw [env_eta2 hsc hc]; kernel_rfl) (by kernel_rfl)) (by omega) (by omega) hsi) (Op.mod _ _ (by omega)))
          (Ev.item (k := (k : Int)) (ds := (castL (firstsL a b c)).map D.i) (Gv.lo (Ev.freeO (i := 5) (j := 4) (c := env.locals + 1 + 1 + 1 + 1) rfl rfl (kd hsc (by kernel_rfl)) (by rw [hc]; kernel_rfl) (by kernel_rfl) (by rw [env_eta2 hsc hc]; kernel_rfl) (by kernel_rfl))) (Ev.free (i := 4) (d := .i (k : Int)) (c := env.locals + 1 + 1 + 1) rfl (kd hsc (by kernel_rfl)) (by rw [hc]; kernel_rfl) (by kernel_rfl) (by rw [env_eta2 hsc hc]; kernel_rfl) (by kernel_rfl)) (by omega) (by omega) hfi) (Op.eq _ _))
      · obtain ⟨hi, rfl⟩ := range_i hd
        exact Ev.own (by kernel_rfl) (by kernel_rfl)
    · obtain ⟨x, o, h1, h2, h3⟩ := g
      exact ⟨x, o, h1, h2, h3.lo⟩
    refine Sm.assign (i := 9) (d := .s W) K rfl (by decide +kernel) (Gv.cast (Ev.join (ls := P.map fun p => [97 + p]) rfl (Gv.lo (Gv.k ?_)) (by rw [flat_map, List.length_map]; omega)) (by rw [flat_map, hwp])) (fun _ h => nomatch h) (fun _ h => nomatch h) ?_
    · have hpk : (P.map fun p => [97 + p]).map D.s = picked ((castL P).map D.i).length (fun _ => true) (fun i => .s [97 + P.getD i 0]) := by
        rw [picked_all, List.length_map, show (castL P).length = P.length from List.length_map _]
        apply List.ext_getElem
        · simp
        · intro i h1 h2
          have h3 : i < P.length := by simpa using h1
          simp [h3]
      rw [hpk]
      have hG2 : ∀ {vs os C d} (st : Shared), (CompH (FH s₀ env vs os) C "place" d).P st → G w mg mb N st.heap := fun st hs => FH.glob hG st hs.1
      refine Ev.comp (cl := []) (d0 := .k (Lo ((castL P).map D.i))) (items := (castL P).map D.i) (fun _ => true) (fun i => .s [97 + P.getD i 0]) (closureFor_none (by decide +kernel)) (by decide +kernel) (by kernel_rfl) (by decide +kernel) (by kernel_rfl)
        (eRow (j := 3) rfl rfl rfl (hm2 _ _ _ _)) (Src.list hh) (by simp [castL]; omega) (fun C i d hd => Tv.nil) (fun C i d hd _ => ?_) (fun i => ⟨(fun _ h => nomatch h), (fun _ h => nomatch h)⟩)
      have hiP : i < P.length := by have := (List.getElem?_eq_some_iff.mp hd).1; simpa [castL] using this
      have hlt : P.getD i 0 < 26 := by rw [List.getD_eq_getElem?_getD, List.getElem?_eq_getElem hiP]; exact hplt _ (List.getElem_mem hiP)
      have hdd : d = .i ((P.getD i 0 : Nat) : Int) := by
        rw [item_i hd]
        unfold castL
        rw [List.getD_eq_getElem?_getD, List.getD_eq_getElem?_getD, List.getElem?_map, List.getElem?_eq_getElem hiP]; rfl
      subst hdd
      refine Gv.cast (Ev.callB (Fv.builtin (comp_ok K (by kernel_rfl)) hG2 (show bootBuiltins "chr" = some (.builtin "chr") by decide +kernel) (by decide +kernel) (by decide +kernel) (by decide +kernel) (comp_global (by kernel_rfl)) (by decide +kernel)) (Avs.cons (Ev.bin (Ev.int (n := 97)) (Ev.own (by kernel_rfl) (by kernel_rfl)) (Op.add _ _)) Avs.nil) (Cb.chr _ (by omega) (by omega)).cr) ?_
      congr 2
    have hty : (typedL W ((n0 / 72 : Nat) : Int)).length ≤ 2000 := by
      have := (titer_facts W ((n0 / 72 : Nat) : Int) W.length).1
      unfold typedL; omega
    refine Sm.append (j := 2) (ds := wordsD a b c d k) (d := .s W) K rfl (Ev.var (i := 7) K rfl) (Gv.cast (Ev.callD (f := fR) (ds := [.s (typedL W ((n0 / 72 : Nat) : Int))]) (d := .s (readL (typedL W ((n0 / 72 : Nat) : Int)))) (Fv.global K g Z.read (kd hsc (by kernel_rfl))) (fnD hG (df := dRead) (by unfold theDefs; simp) dRead_ok.nd (by rw [dRead_name]; exact Z.read))
      (Avs.cons (Ev.callD (f := fT) (ds := [.s W, .i ((n0 / 72 : Nat) : Int)]) (Fv.global K g Z.typed (kd hsc (by kernel_rfl))) (fnD hG (df := dTyped) (by unfold theDefs; simp) dTyped_ok.nd (by rw [dTyped_name]; exact Z.typed)) (Avs.cons (Ev.var (i := 9) K rfl) (Avs.cons (Gv.cast (Ev.bin (eA (i := 1) (j := 6) rfl rfl rfl hni hk (by decide +kernel)) (Ev.int (n := 72)) (Op.fdiv _ _ (by decide) (by decide +kernel))) (by rw [show (n0 : Int).fdiv 72 = _ from nfd n0 72])) Avs.nil))
        (fun s us Q E hs ga q => typed_walk Z.typed (show A.depth < recursionLimit by omega) hh W (by omega) hwaz ((n0 / 72 : Nat) : Int) s us Q E (g s hs) ga q)) Avs.nil)
      (fun s us Q E hs ga q => read_walk Z.read Z.in1 Z.map3 (show A.depth + 1 < recursionLimit by omega) hh (typedL W ((n0 / 72 : Nat) : Int)) hty (by rw [hread]; omega) s us Q E (g s hs) ga q)) (by rw [hread])) (fun _ h => nomatch h) (fun _ h => nomatch h) (by unfold wordsD; rw [List.length_map, List.length_range]; omega) ?_
    refine Sm.When (b := false) (Tr.cast (Tr.cmp (Ev.item (k := (k : Int)) (ds := wordsD a b c d k ++ [.s W]) (d := .s W) (Gv.lo (Ev.obj (i := 7) (j := 2) K rfl rfl)) (Ev.var (i := 4) K rfl) (by omega) (by omega) ?_) (Ev.var (i := 9) K rfl) (Op.sne _ _)) (by simp)) (fun h => nomatch h) (fun _ => ?_)
    · have : (wordsD a b c d k).length = k := by unfold wordsD; rw [List.length_map, List.length_range]
      rw [Int.toNat_natCast, List.getElem?_append_right (by omega), this, Nat.sub_self]; rfl
    have hwd : wordsD a b c d k ++ [D.s W] = wordsD a b c d (k + 1) := by rw [← hW]; exact wordsD_add a b c d k
    rw [hwd]
    exact Sm.nil fun s F => ⟨_, _, ⟨la1, _, _, _, hlen1, rfl, rfl⟩, F.weak (fun _ _ _ h => h) rfl (List.sublist_cons_self _ _)⟩
  · rintro vs os' ⟨la, kk, rw0, pl0, hla, rfl, rfl⟩
    with_unfolding_all exact rest la kk rw0 pl0 hla
end Mine

open PySem PySem.W PyProof.Rows
namespace Mine
set_option Elab.async false
set_option maxRecDepth 100000
set_option linter.unusedVariables false
set_option maxHeartbeats 4000000

theorem words_at (a b c d : Nat) : ∀ k, k < 3 → (wordsD a b c d 3)[k]? = some (.s (woAt a b c d k)) := three rfl rfl rfl
theorem pow_cast (k : Nat) : (2 : Int) ^ ((k : Int)).toNat = ((2 ^ k : Nat) : Int) := by rw [Int.toNat_natCast]; push_cast; rfl
theorem law_d {w : World} {mg mb : Str → Option Value} {N : Nat} {A : Around} {fG fS fT fR fRu fRf fP fC fL fI fM : Addr} (Z : Defs mg fG fS fT fR fRu fRf fP fC fL fI fM) (Fc : Facts) (hh : A.handled = none) (hroom : A.depth + 2 < recursionLimit) (hu : A.units + 3 < cLine)
    {s₀ : Shared} {env : Env} (hG : G w mg mb N s₀.heap) (K : Ok env ("script" :: lawLs)) (hsc : env.scope = dLaw.scope) (hc : env.cells = cellsL env.locals) {l lm ls lf lr lw : Addr} {os : Objs} {a b c d : Nat} {la : List Addr} (hla : la.length = 3) {kk0 rw pl : Option D} :
    Sm (model PW w) A env (Fm s₀ env (loopV l lm ls lf lr lw d kk0 rw pl) ((lw, Ls (wordsD a b c d 3)) :: (lr, Ls (la.map D.r)) :: baseO lf ls lm a b c d (os ++ marksO a b c d la))) (dLaw.body.drop 8) (Post s₀ (.b true)) := by
  have g : ∀ {vs os} s, (FH s₀ env vs os).P s → G w mg mb N s.heap := fun {vs os} => FH.glob hG
  have bRange : ∀ {vs os p}, Fv (model PW w) A env (FH s₀ env vs os) (.Name "range" p) (.type "range") := fun {vs os p} => Fv.builtin K g (by decide +kernel) (by decide +kernel) (by decide +kernel) (by decide +kernel) (kd hsc (by kernel_rfl)) (by decide +kernel)
  have bLen : ∀ {vs os p}, Fv (model PW w) A env (FH s₀ env vs os) (.Name "len" p) (.builtin "len") := fun {vs os p} => Fv.builtin K g (by decide +kernel) (by decide +kernel) (by decide +kernel) (by decide +kernel) (kd hsc (by kernel_rfl)) (by decide +kernel)
  have bMax : ∀ {vs os p}, Fv (model PW w) A env (FH s₀ env vs os) (.Name "max" p) (.builtin "max") := fun {vs os p} => Fv.builtin K g (by decide +kernel) (by decide +kernel) (by decide +kernel) (by decide +kernel) (kd hsc (by kernel_rfl)) (by decide +kernel)
  have he := endN_le d
  have e3 : ∀ {vs : Vars} {os1 : Objs} {j : Nat}, Has vs 1 "numbers" (.r lm) → HasO os1 j lm (Ls ((castL [a, b, c, d]).map D.i)) → ∀ {p1 p2 p3 cc}, Ev (model PW w) A env (FH s₀ env vs os1) (.Subscript (.Name "numbers" p1) (.Constant (.int 3) cc p2) p3) (.i d) := fun {vs os1 j} h1 h2 {p1 p2 p3 cc} =>
    Ev.item (Gv.lo (Ev.obj K h1 h2)) (Ev.int (n := 3)) (by decide) (by decide) rfl
  with_unfolding_all refine Sm.open ?_
  refine Sm.forRange (i := 4) (a := 0) (b := 3) (c := 1) 3 (fun k vs os' => ∃ kk me od fa, vs = lawV l (some (.r lm)) (some (.i (endN d))) (some (.r ls)) kk (some (.r lf)) (some (.r lr)) (some (.r lw)) rw pl me od fa ∧ os' = (lw, Ls (wordsD a b c d 3)) :: (lr, Ls (la.map D.r)) :: baseO lf ls lm a b c d (os ++ marksO a b c d la))
    K hh (Ev.callT bRange (Avs.cons (Ev.int (n := 3)) Avs.nil) (Cb.range1 _).cr) (small_range 3 (by decide)) (size_range 3) (by decide +kernel) ⟨kk0, none, none, none, rfl, rfl⟩ (by rintro k vs os' ⟨kk, me, od, fa, rfl, _⟩; exact ⟨_, rfl⟩) ?_ ?_
  · rintro k vs os' I T hk ⟨kk, me, od, fa, rfl, rfl⟩
    rw [show (0 + (k : Int) * 1) = (k : Int) by omega]
    have hk' : (k + 2) % 3 < 3 := Nat.mod_lt _ (by decide)
    generalize hj : (k + 2) % 3 = j at hk'
    have hs := stepN_le (numN a b c k)
    have hs' := stepN_le (numN a b c j)
    have hsi := step_at a b c k hk
    have hfi := first_at a b c k hk
    have hsj := step_at a b c j hk'
    have hfj := first_at a b c j hk'
    have hwk := words_at a b c d k hk
    have hwj := words_at a b c d j hk'
    have hmk : markT a b c d k = Ls ((castL (placesL (endN d) (stepN (numN a b c k)) (firstN (numN a b c k)))).map D.i) := rfl
    have hmj : markT a b c d j = Ls ((castL (placesL (endN d) (stepN (numN a b c j)) (firstN (numN a b c j)))).map D.i) := rfl
    have hwo : woAt a b c d k = wordL (endN d) (stepN (numN a b c k)) (firstN (numN a b c k)) := rfl
    have hwo' : woAt a b c d j = wordL (endN d) (stepN (numN a b c j)) (firstN (numN a b c j)) := rfl
    rw [hwo] at hwk
    rw [hwo'] at hwj
    have hpair := fun odd ho => Fc.pair (endN d) _ _ _ _ odd he.1 he.2 hs'.1 hs'.2.1 hs'.2.2 hs.1 hs.2.1 hs.2.2 ho
    have hgreat := fun odd ho => Fc.great (endN d) _ _ _ _ odd he.1 he.2 hs'.1 hs'.2.1 hs'.2.2 hs.1 hs.2.1 hs.2.2 ho
    generalize stepN (numN a b c k) = S at *
    generalize firstN (numN a b c k) = F0 at *
    generalize stepN (numN a b c j) = S' at *
    generalize firstN (numN a b c j) = F' at *
    have hwl := word_len (endN d) S F0
    have hwl' := word_len (endN d) S' F'
    have haz := word_az (e := endN d) (s := S) (f := F0) he.2
    obtain ⟨lk, hlk⟩ : ∃ x, la[k]? = some x := ⟨la[k], List.getElem?_eq_getElem _⟩
    obtain ⟨lj, hlj⟩ : ∃ x, la[j]? = some x := ⟨la[j], List.getElem?_eq_getElem _⟩
    have hOk : (lk, markT a b c d k) ∈ os ++ marksO a b c d la := List.mem_append_right _ (marksO_mem hlk)
    have hOj : (lj, markT a b c d j) ∈ os ++ marksO a b c d la := List.mem_append_right _ (marksO_mem hlj)
    rw [hmk] at hOk
    rw [hmj] at hOj
    have hrk : (la.map D.r)[k]? = some (.r lk) := by rw [List.getElem?_map, hlk]; rfl
    have hrj : (la.map D.r)[j]? = some (.r lj) := by rw [List.getElem?_map, hlj]; rfl
    have hrl : (la.map D.r).length = 3 := by rw [List.length_map, hla]
    have hwdl : (wordsD a b c d 3).length = 3 := rfl
    generalize os ++ marksO a b c d la = R at *
    generalize la.map D.r = rd at *
    generalize wordsD a b c d 3 = wd at *
    -- the met places
    generalize hme : metN (endN d) S' F' S F0 = me0 at *
    have hsj' : ((castL (stepsL a b c)).map D.i)[(k + 2) % 3]? = some (.i (S' : Int)) := by rw [hj]; exact hsj
    have hfj' : ((castL (firstsL a b c)).map D.i)[(k + 2) % 3]? = some (.i (F' : Int)) := by rw [hj]; exact hfj
    have hwj' : wd[(k + 2) % 3]? = some (.s (wordL (endN d) S' F')) := by rw [hj]; exact hwj
    have hrj' : rd[(k + 2) % 3]? = some (.r lj) := by rw [hj]; exact hrj
    refine Sm.assign (i := 10) (d := .i (me0 : Int)) K rfl (by decide +kernel) (Ev.callB bLen (Avs.cons (Gv.lo (Gv.k (T := Ls ((castL ((List.range (endN d)).filter fun x => x % S' == F' && x % S == F0)).map D.i)) ?_)) Avs.nil) (Gv.cast_cl (Cb.len_list _ ?_) ?_).cr) (fun _ h => nomatch h) (fun _ h => nomatch h) ?_
    · rw [← picked_filter (endN d) (fun x => x % S' == F' && x % S == F0) _ rfl]
      refine Ev.comp (cl := [("steps", env.locals + 1 + 1), ("k", env.locals + 1 + 1 + 1), ("firsts", env.locals + 1 + 1 + 1 + 1)]) (d0 := .o (Rg 0 (endN d) 1)) (items := (List.range (endN d)).map fun (i : Nat) => D.i (0 + (i : Int) * 1)) (fun x => x % S' == F' && x % S == F0) (fun i => .i (i : Int)) (by rw [env_eta2 hsc hc]; kernel_rfl) (by decide +kernel) (by kernel_rfl) (by decide +kernel) (by kernel_rfl)
        (Ev.callT bRange (Avs.cons (Ev.var (i := 2) K rfl) Avs.nil) (Cb.range1 _).cr) (Src.range hh (small_range _ (by omega)) (size_range _)) (by simp; omega) (fun C i dd hd => ?_) (fun C i dd hd _ => ?_) (fun i => ⟨(fun _ h => nomatch h), (fun _ h => nomatch h)⟩)
      · obtain ⟨hi, rfl⟩ := range_i hd
        have e2 : ((i : Int).fmod (S : Int) == (F0 : Int)) = (i % S == F0) := by rw [nfm, beq_cast]
        have e2' : ((i : Int).fmod (S' : Int) == (F' : Int)) = (i % S' == F') := by rw [nfm, beq_cast]
        rw [← e2, ← e2']
        refine Tv.one (Tr.and (Tr.cmp (Ev.bin (Ev.own (by kernel_rfl) (by kernel_rfl)) (Ev.itemP (k := k) (ds := (castL (stepsL a b c)).map D.i) (Gv.lo (Ev.freeO (i := 3) (j := 4) (c := env.locals + 1 + 1) rfl rfl (kd hsc (by kernel_rfl)) (by rw [hc]; kernel_rfl) (by kernel_rfl) (by rw [env_eta2 hsc hc]; kernel_rfl) (by kernel_rfl))) (Ev.bin (Ev.free (i := 4) (d := .i (k : Int)) (c := env.locals + 1 + 1 + 1) rfl (kd hsc (by kernel_rfl)) (by rw [hc]; kernel_rfl) (by kernel_rfl) (by rw [env_eta2 hsc hc]; kernel_rfl) (by kernel_rfl)) (Ev.int (n := 1)) (Op.sub _ _)) hk rfl hsj') (Op.mod _ _ (by omega)))
            (Ev.itemP (k := k) (ds := (castL (firstsL a b c)).map D.i) (Gv.lo (Ev.freeO (i := 5) (j := 3) (c := env.locals + 1 + 1 + 1 + 1) rfl rfl (kd hsc (by kernel_rfl)) (by rw [hc]; kernel_rfl) (by kernel_rfl) (by rw [env_eta2 hsc hc]; kernel_rfl) (by kernel_rfl))) (Ev.bin (Ev.free (i := 4) (d := .i (k : Int)) (c := env.locals + 1 + 1 + 1) rfl (kd hsc (by kernel_rfl)) (by rw [hc]; kernel_rfl) (by kernel_rfl) (by rw [env_eta2 hsc hc]; kernel_rfl) (by kernel_rfl)) (Ev.int (n := 1)) (Op.sub _ _)) hk rfl hfj') (Op.eq _ _))
          (fun _ => Tr.cmp (Ev.bin (Ev.own (by kernel_rfl) (by kernel_rfl)) (Ev.item (k := (k : Int)) (ds := (castL (stepsL a b c)).map D.i) (Gv.lo (Ev.freeO (i := 3) (j := 4) (c := env.locals + 1 + 1) rfl rfl (kd hsc (by kernel_rfl)) (by rw [hc]; kernel_rfl) (by kernel_rfl) (by rw [env_eta2 hsc hc]; kernel_rfl) (by kernel_rfl))) (Ev.free (i := 4) (d := .i (k : Int)) (c := env.locals + 1 + 1 + 1) rfl (kd hsc (by kernel_rfl)) (by rw [hc]; kernel_rfl) (by kernel_rfl) (by rw [env_eta2 hsc hc]; kernel_rfl) (by kernel_rfl)) (by omega) (by omega) hsi) (Op.mod _ _ (by omega)))
            (Ev.item (k := (k : Int)) (ds := (castL (firstsL a b c)).map D.i) (Gv.lo (Ev.freeO (i := 5) (j := 3) (c := env.locals + 1 + 1 + 1 + 1) rfl rfl (kd hsc (by kernel_rfl)) (by rw [hc]; kernel_rfl) (by kernel_rfl) (by rw [env_eta2 hsc hc]; kernel_rfl) (by kernel_rfl))) (Ev.free (i := 4) (d := .i (k : Int)) (c := env.locals + 1 + 1 + 1) rfl (kd hsc (by kernel_rfl)) (by rw [hc]; kernel_rfl) (by kernel_rfl) (by rw [env_eta2 hsc hc]; kernel_rfl) (by kernel_rfl)) (by omega) (by omega) hfi) (Op.eq _ _)))
      · obtain ⟨hi, rfl⟩ := range_i hd
        exact Ev.own (by kernel_rfl) (by kernel_rfl)
    · have := List.length_filter_le (fun x => x % S' == F' && x % S == F0) (List.range (endN d))
      rw [List.length_range] at this
      simp only [castL, List.length_map]; omega
    · rw [← hme]
      simp [castL, metN]
    generalize hod : d / 14 / 2 ^ k % 2 = od0
    have hod2 : od0 < 2 := by rw [← hod]; exact Nat.mod_lt _ (by decide)
    have hp2 : (2 ^ k : Nat) < 1073741824 ∧ 0 < (2 ^ k : Nat) := by
      refine ⟨?_, Nat.pow_pos (by decide)⟩
      have : 2 ^ k ≤ 2 ^ 3 := Nat.pow_le_pow_right (by decide) (by omega)
      omega
    refine Sm.assign (i := 11) (d := .i (od0 : Int)) K rfl (by decide +kernel) (Gv.cast (Ev.bin (Ev.bin (Ev.bin (e3 (j := 5) rfl rfl) (Ev.int (n := 14)) (Op.fdiv _ _ (by decide) (by decide +kernel))) (Ev.bin (Ev.int (n := 2)) (Ev.var (i := 4) K rfl) (Op.pow 2 k (by omega) (by omega) (by decide))) (Op.fdiv _ _ (by rw [pow_cast]; omega) (by rw [pow_cast]; omega))) (Ev.int (n := 2)) (Op.mod _ _ (by decide))) (by rw [pow_cast, show (d : Int).fdiv 14 = _ from nfd d 14, nfd, show ((d / 14 / 2 ^ k : Nat) : Int).fmod 2 = _ from nfm _ 2, hod])) (fun _ h => nomatch h) (fun _ h => nomatch h) ?_
    have eWk : ∀ {vs : Vars} {os1 : Objs} {i : Nat}, Has vs 7 "words" (.r lw) → HasO os1 i lw (Ls wd) → Has vs 4 "k" (.i (k : Int)) → ∀ {p1 p2 p3}, Ev (model PW w) A env (FH s₀ env vs os1) (.Subscript (.Name "words" p1) (.Name "k" p2) p3) (.s (wordL (endN d) S F0)) := fun {vs os1 i} h1 h2 h3 {p1 p2 p3} =>
      Ev.item (k := (k : Int)) (ds := wd) (Gv.lo (Ev.obj K h1 h2)) (Ev.var K h3) (by omega) (by omega) (by rw [Int.toNat_natCast]; exact hwk)
    have eWj : ∀ {vs : Vars} {os1 : Objs} {i : Nat}, Has vs 7 "words" (.r lw) → HasO os1 i lw (Ls wd) → Has vs 4 "k" (.i (k : Int)) → ∀ {p1 p2 p3 p4 p5 cc}, Ev (model PW w) A env (FH s₀ env vs os1) (.Subscript (.Name "words" p1) (.BinOp (.Name "k" p2) .Sub (.Constant (.int 1) cc p3) p4) p5) (.s (wordL (endN d) S' F')) := fun {vs os1 i} h1 h2 h3 {p1 p2 p3 p4 p5 cc} =>
      Ev.itemP (k := k) (ds := wd) (Gv.lo (Ev.obj K h1 h2)) (Ev.bin (Ev.var K h3) (Ev.int (n := 1)) (Op.sub _ _)) hk hwdl hwj'
    refine Sm.When (b := false) (Tr.cast (Tr.not (Tr.val (Ev.callD (f := fP) (ds := [.k (Lo ([wordL (endN d) S' F', wordL (endN d) S F0].map D.s)), .k (Lo [.r lj, .r lk]), .i (me0 : Int), .i (od0 : Int)]) (d := .b (pairV (wordL (endN d) S' F') (wordL (endN d) S F0) (castL (placesL (endN d) S' F')) (castL (placesL (endN d) S F0)) me0 od0)) (Fv.global K g Z.pair (kd hsc (by kernel_rfl))) (fnD hG (df := dPair) (by unfold theDefs; simp) dPair_ok.nd (by rw [dPair_name]; exact Z.pair))
      (Avs.cons (Gv.lo (Gv.k (Ev.list (Avs.cons (eWj (i := 1) rfl rfl rfl) (Avs.cons (eWk (i := 1) rfl rfl rfl) Avs.nil)) (plain_strs [_, _]) (by simp)))) (Avs.cons (Gv.lo (Gv.k (Ev.list (ds := [.r lj, .r lk]) (Avs.cons (Ev.itemP (k := k) (ds := rd) (Gv.lo (Ev.obj (i := 6) (j := 2) K rfl rfl)) (Ev.bin (Ev.var (i := 4) K rfl) (Ev.int (n := 1)) (Op.sub _ _)) hk hrl hrj') (Avs.cons (Ev.item (k := (k : Int)) (ds := rd) (Gv.lo (Ev.obj (i := 6) (j := 2) K rfl rfl)) (Ev.var (i := 4) K rfl) (by omega) (by omega) (by rw [Int.toNat_natCast]; exact hrk)) Avs.nil)) (plain_of rfl) (by simp)))) (Avs.cons (Ev.var (i := 10) K rfl) (Avs.cons (Ev.var (i := 11) K rfl) Avs.nil))))
      (fun s us Q E hs ga q => pair_walk Z.pair Z.coll Z.lev Z.sub hroom hh hu (wordL (endN d) S' F') (wordL (endN d) S F0) (by omega) (by omega) lj lk _ _ _ od0 hod2 s us Q E ⟨g s hs, ?_, ?_⟩ ga q)) (Truth.bool _))) ?_) (fun h => nomatch h) (fun _ => ?_)
    · obtain ⟨_, _, _, o, ho, hT⟩ := (show Fm s₀ env _ _ s from hs).own _ (List.mem_cons_of_mem _ (List.mem_cons_of_mem _ (List.mem_cons_of_mem _ (List.mem_cons_of_mem _ (List.mem_cons_of_mem _ (List.mem_cons_of_mem _ hOj))))))
      exact ⟨o, ho, hT.lo⟩
    · obtain ⟨_, _, _, o, ho, hT⟩ := (show Fm s₀ env _ _ s from hs).own _ (List.mem_cons_of_mem _ (List.mem_cons_of_mem _ (List.mem_cons_of_mem _ (List.mem_cons_of_mem _ (List.mem_cons_of_mem _ (List.mem_cons_of_mem _ hOk))))))
      exact ⟨o, ho, hT.lo⟩
    · rw [hpair od0 hod2]; rfl
    refine Sm.When (b := ((k : Int) == ((d / 112 % 3 : Nat) : Int))) (Tr.cmp (Ev.var (i := 4) K rfl) (Gv.cast (Ev.bin (Ev.bin (e3 (j := 5) rfl rfl) (Ev.int (n := 112)) (Op.fdiv _ _ (by decide) (by decide +kernel))) (Ev.int (n := 3)) (Op.mod _ _ (by decide))) (by rw [show (d : Int).fdiv 112 = _ from nfd d 112, show ((d / 112 : Nat) : Int).fmod 3 = _ from nfm _ 3])) (Op.eq _ _)) (fun _ => ?_) (fun _ => ?_)
    · have hul : (upL (wordL (endN d) S F0)).length = (wordL (endN d) S F0).length := by rw [up_az _ haz, List.length_map]
      refine Sm.assign (i := 12) (d := .i (2 * maxi (wordL (endN d) S' F').length (wordL (endN d) S F0).length - me0)) K rfl (by decide +kernel) (Ev.bin (Ev.bin (Ev.int (n := 2)) (Ev.callB bMax (Avs.cons (Ev.callB bLen (Avs.cons (eWj (i := 1) rfl rfl rfl) Avs.nil) (Cb.len_str _ (by omega)).cr) (Avs.cons (Ev.callB bLen (Avs.cons (eWk (i := 1) rfl rfl rfl) Avs.nil) (Cb.len_str _ (by omega)).cr) Avs.nil)) (Cb.max2 _ _ hh).cr) (Op.mul _ _ (.of_left (by decide +kernel)))) (Ev.var (i := 10) K rfl) (Op.sub _ _)) (fun _ h => nomatch h) (fun _ h => nomatch h) ?_
      refine Sm.When (b := false) (Tr.cast (Tr.cmp (Ev.callD (f := fL) (ds := [.s (wordL (endN d) S' F'), .s (upL (wordL (endN d) S F0)), .i (2 * maxi (wordL (endN d) S' F').length (wordL (endN d) S F0).length - me0 - od0)]) (d := .i (lev (wordL (endN d) S' F') (upL (wordL (endN d) S F0)) (2 * maxi (wordL (endN d) S' F').length (wordL (endN d) S F0).length - me0 - od0))) (Fv.global K g Z.lev (kd hsc (by kernel_rfl))) (fnD hG (df := dLev) (by unfold theDefs; simp) dLev_ok.nd (by rw [dLev_name]; exact Z.lev))
        (Avs.cons (eWj (i := 1) rfl rfl rfl) (Avs.cons (Ev.upper (eWk (i := 1) rfl rfl rfl) (by omega)) (Avs.cons (Ev.bin (Ev.var (i := 12) K rfl) (Ev.var (i := 11) K rfl) (Op.sub _ _)) Avs.nil)))
        (fun s us Q E hs ga q => lev_walk Z.lev Z.sub (show A.depth + 1 < recursionLimit by omega) hh _ _ (by omega) (by omega) _ s us Q E (g s hs) ga q)) (Ev.var (i := 12) K rfl) (Op.ne _ _)) ?_) (fun h => nomatch h) (fun _ => ?_)
      · rw [hgreat od0 hod2 _ rfl]; simp
      · exact Sm.end (Sm.nil fun s F => ⟨_, _, ⟨_, _, _, _, rfl, rfl⟩, F⟩)
    · exact Sm.nil fun s F => ⟨_, _, ⟨_, _, _, _, rfl, rfl⟩, F⟩
  · rintro vs os' ⟨kk, me, od, fa, rfl, rfl⟩
    refine Sm.Ret Ev.bool fun v s' g n => ⟨g, n⟩
end Mine

open PySem PySem.W PyProof.Rows
namespace Mine
set_option Elab.async false
set_option maxRecDepth 100000
set_option linter.unusedVariables false
set_option maxHeartbeats 4000000

theorem nums_nat (ns : List Int) : ∃ a b c d : Nat, numsL ns = castL [a, b, c, d] := by
  have h0 : ∀ x ∈ numsL ns, 0 ≤ x := by
    intro x hx
    unfold numsL at hx
    rcases List.mem_append.mp hx with hx | hx
    · obtain ⟨y, _, rfl⟩ := List.mem_map.mp hx
      exact Int.fmod_nonneg_of_pos _ (by decide)
    · have := List.mem_of_mem_drop hx
      unfold dflt at this
      simp at this
      rcases this with rfl | rfl | rfl | rfl <;> decide
  have h4 : (numsL ns).length = 4 := by
    unfold numsL
    have : dflt.length = 4 := rfl
    rw [List.length_append, List.length_map, List.length_drop, this, List.length_take]
    omega
  match numsL ns, h0, h4 with
  | [a, b, c, d], h0, _ =>
    refine ⟨a.toNat, b.toNat, c.toNat, d.toNat, ?_⟩
    unfold castL
    simp only [List.map_cons, List.map_nil]
    rw [Int.toNat_of_nonneg (h0 a (by simp)), Int.toNat_of_nonneg (h0 b (by simp)), Int.toNat_of_nonneg (h0 c (by simp)), Int.toNat_of_nonneg (h0 d (by simp))]

theorem ints_is0 : ∀ {vs : List Value} {ns : List Int}, IntsAre vs ns → Is0s vs (ns.map D.i)
  | _, _, .nil => trivial
  | _, _, .cons n t h => ⟨⟨t, rfl⟩, ints_is0 h⟩

theorem call_goal (fx : Facts) : CallGoal := by
  intro w mg mb N s l its ns hG hl hI hlen hlay hgens
  have m : ∀ {d : DefItem}, d ∈ theDefs → d.params.defaults = [] → ∃ a, mg d.name = some (.ref a) := fun h1 h2 => let ⟨a, h, _⟩ := made h1 h2 hG; ⟨a, h⟩
  obtain ⟨fLaw, z0⟩ := m (d := dLaw) (by unfold theDefs; simp) dLaw_ok.nd
  obtain ⟨fG, z1⟩ := m (d := dGrp) (by unfold theDefs; simp) dGrp_ok.nd
  obtain ⟨fS, z2⟩ := m (d := dSub) (by unfold theDefs; simp) dSub_ok.nd
  obtain ⟨fT, z3⟩ := m (d := dTyped) (by unfold theDefs; simp) dTyped_ok.nd
  obtain ⟨fR, z4⟩ := m (d := dRead) (by unfold theDefs; simp) dRead_ok.nd
  obtain ⟨fRu, z5⟩ := m (d := dRuns) (by unfold theDefs; simp) dRuns_ok.nd
  obtain ⟨fRf, z6⟩ := m (d := dRef) (by unfold theDefs; simp) dRef_ok.nd
  obtain ⟨fP, z7⟩ := m (d := dPair) (by unfold theDefs; simp) dPair_ok.nd
  obtain ⟨fC, z8⟩ := m (d := dColl) (by unfold theDefs; simp) dColl_ok.nd
  obtain ⟨fL, z9⟩ := m (d := dLev) (by unfold theDefs; simp) dLev_ok.nd
  obtain ⟨fI, z10⟩ := m (d := dIn) (by unfold theDefs; simp) dIn_ok.nd
  obtain ⟨fM, z11⟩ := m (d := dMap) (by unfold theDefs; simp) dMap_ok.nd
  rw [dLaw_name] at z0
  have Z : Defs mg fG fS fT fR fRu fRf fP fC fL fI fM := ⟨dIn_name ▸ z10, dMap_name ▸ z11, dGrp_name ▸ z1, dSub_name ▸ z2, dTyped_name ▸ z3, dRead_name ▸ z4, dRuns_name ▸ z5, dRef_name ▸ z6, dPair_name ▸ z7, dColl_name ▸ z8, dLev_name ▸ z9⟩
  refine ⟨_, z0, ?_⟩
  have hlo : ∃ o, s.heap.get? l = some o ∧ Lo (ns.map D.i) o := by
    obtain ⟨o, ho, hc, n, hd⟩ := hl
    exact ⟨o, ho, hc, its, n, hd, ints_is0 hI⟩
  refine call_cells1 (d := dLaw) "script" lawLs (e := .r l) (made_at (d := dLaw) (by unfold theDefs; simp) dLaw_ok.nd (by rw [dLaw_name]; exact z0) s hG) (by decide +kernel) rfl (by decide +kernel) (fun pm c doc => by kernel_rfl) (by kernel_rfl) ?_ (by kernel_rfl) (by kernel_rfl) (by kernel_rfl) ?_
  · intro x hx
    unfold lawLs at hx
    simp only [List.mem_cons, List.not_mem_nil, or_false] at hx
    rcases hx with rfl | rfl | rfl | rfl | rfl | rfl | rfl | rfl | rfl | rfl | rfl | rfl | rfl
    · exact .inl (by kernel_rfl)
    · exact .inr ⟨by kernel_rfl, fun L => ⟨L + 1, by kernel_rfl⟩⟩
    · exact .inl (by kernel_rfl)
    · exact .inr ⟨by kernel_rfl, fun L => ⟨L + 1 + 1, by kernel_rfl⟩⟩
    · exact .inr ⟨by kernel_rfl, fun L => ⟨L + 1 + 1 + 1, by kernel_rfl⟩⟩
    · exact .inr ⟨by kernel_rfl, fun L => ⟨L + 1 + 1 + 1 + 1, by kernel_rfl⟩⟩
    · exact .inl (by kernel_rfl)
    · exact .inl (by kernel_rfl)
    · exact .inl (by kernel_rfl)
    · exact .inl (by kernel_rfl)
    · exact .inl (by kernel_rfl)
    · exact .inl (by kernel_rfl)
    · exact .inl (by kernel_rfl)
  · intro env s' K hsc hfr hc F0
    have hc2 : env.cells = cellsL env.locals := by rw [hc]; kernel_rfl
    obtain ⟨a, b, c, d, hN⟩ := nums_nat ns
    have hroom : (callerA.deeper env).depth + 2 < recursionLimit := by show 1 + claimMargin + 1 + 2 < recursionLimit; decide +kernel
    have hA : (callerA.deeper env).frames = some [env] := rfl
    have hu : (callerA.deeper env).units + 3 < cLine := by show 4 + 3 + 3 < cLine; decide
    have go : Sm (model PW w) (callerA.deeper env) env (Fm s env (lawV l none none none none none none none none none none none none) []) dLaw.body (Post s (.b true)) := by
      refine law_a Z rfl hG K hsc hc2 hlen hlo fun lm os => ?_
      rw [hN]
      refine law_b Z rfl hG K hsc hc2 fun ls lf lr lw => ?_
      refine law_c Z fx rfl hroom (by omega) hG K hsc hc2 hfr hA fun la kk rw pl hla => ?_
      exact law_d Z fx rfl hroom hu hG K hsc hc2 hla
    refine wpAny_mono (go.run s' F0 _) (fun f s'' h => ?_) fun _ _ e => e
    obtain ⟨h1, h2⟩ := h
    exact ⟨h1, OldK.of_keep h2.up, h2.os, h2.bare (by rw [hgens]; exact AllBare.empty)⟩
end Mine

open PySem PySem.W PyProof.Rows
namespace Mine
set_option Elab.async false
set_option linter.unusedVariables false

theorem pmin_comm (m n : Int) : pmin m n = pmin n m := by unfold pmin; split <;> split <;> omega
theorem pmin_l {m n : Int} (h : m ≤ n) : pmin m n = m := by unfold pmin; rw [if_neg (by omega)]
theorem pmin_r {m n : Int} (h : n ≤ m) : pmin m n = n := by unfold pmin; split <;> omega

theorem Dk_lip1 (κ : Nat → Nat → Int) (h0 : ∀ i j, 0 ≤ κ i j) (i : Nat) : ∀ j, Dk κ i j ≤ Dk κ (i + 1) j + 2
  | 0 => by rw [Dk_0, Dk_0]; omega
  | j + 1 => by
    have ih := Dk_lip1 κ h0 i j
    have r := Dk_right κ i j
    have k := h0 i j
    rw [Dk_ss]
    have : Dk κ i (j + 1) - 4 ≤ pmin (Dk κ (i + 1) j) (Dk κ i (j + 1)) := le_pmin (by omega) (by omega)
    have := le_pmin (k := Dk κ i (j + 1) - 2) (m := pmin (Dk κ (i + 1) j) (Dk κ i (j + 1)) + 2) (n := Dk κ i j + κ i j) (by omega) (by omega)
    omega
theorem Dk_lip2 (κ : Nat → Nat → Int) (h0 : ∀ i j, 0 ≤ κ i j) (j : Nat) : ∀ i, Dk κ i j ≤ Dk κ i (j + 1) + 2
  | 0 => by rw [Dk_00, Dk_00]; omega
  | i + 1 => by
    have ih := Dk_lip2 κ h0 j i
    have r := Dk_down κ i j
    have k := h0 i j
    rw [Dk_ss]
    have : Dk κ (i + 1) j - 4 ≤ pmin (Dk κ (i + 1) j) (Dk κ i (j + 1)) := le_pmin (by omega) (by omega)
    have := le_pmin (k := Dk κ (i + 1) j - 2) (m := pmin (Dk κ (i + 1) j) (Dk κ i (j + 1)) + 2) (n := Dk κ i j + κ i j) (by omega) (by omega)
    omega
/- a match at the end -/
theorem Dk_suffix (κ : Nat → Nat → Int) (h0 : ∀ i j, 0 ≤ κ i j) (i j : Nat) (h : κ i j = 0) : Dk κ (i + 1) (j + 1) = Dk κ i j := by
  have h1 := Dk_lip1 κ h0 i j
  have h2 := Dk_lip2 κ h0 j i
  rw [Dk_ss, h, Int.add_zero]
  have : Dk κ i j - 2 ≤ pmin (Dk κ (i + 1) j) (Dk κ i (j + 1)) := le_pmin (by omega) (by omega)
  exact pmin_r (by omega)
/- a match at the beginning -/
theorem Dk_prefix (κ : Nat → Nat → Int) (h0 : ∀ i j, 0 ≤ κ i j) (h : κ 0 0 = 0) : ∀ i j, Dk κ (i + 1) (j + 1) = Dk (fun i j => κ (i + 1) (j + 1)) i j
  | 0, 0 => by rw [Dk_suffix κ h0 0 0 h]; rfl
  | 0, j + 1 => by
    have ih := Dk_prefix κ h0 h 0 j
    have k := h0 0 (j + 1)
    rw [Dk_00] at ih
    rw [Dk_ss, ih, Dk_00, Dk_00, Dk_00, pmin_l (m := 2 * (j : Int)) (by omega), pmin_l (by omega)]
    omega
  | i + 1, 0 => by
    have ih := Dk_prefix κ h0 h i 0
    have k := h0 (i + 1) 0
    rw [Dk_0] at ih
    rw [Dk_ss, ih, Dk_0, Dk_0, Dk_0, pmin_r (n := 2 * (i : Int)) (by omega), pmin_l (by omega)]
    omega
  | i + 1, j + 1 => by
    rw [Dk_ss κ (i + 1) (j + 1), Dk_prefix κ h0 h (i + 1) j, Dk_prefix κ h0 h i (j + 1), Dk_prefix κ h0 h i j, Dk_ss]
theorem Dk_flip (κ : Nat → Nat → Int) : ∀ i j, Dk (fun i j => κ j i) j i = Dk κ i j
  | 0, 0 => rfl
  | 0, j + 1 => by rw [Dk_00, Dk_0]
  | i + 1, 0 => by rw [Dk_00, Dk_0]
  | i + 1, j + 1 => by rw [Dk_ss, Dk_ss, Dk_flip κ (i + 1) j, Dk_flip κ i (j + 1), Dk_flip κ i j, pmin_comm (Dk κ i (j + 1))]
theorem Dk_congr (κ μ : Nat → Nat → Int) (n m : Nat) (h : ∀ i j, i < n → j < m → κ i j = μ i j) : ∀ i j, i ≤ n → j ≤ m → Dk κ i j = Dk μ i j
  | 0, j, _, _ => by rw [Dk_00, Dk_00]
  | i + 1, 0, _, _ => by rw [Dk_0, Dk_0]
  | i + 1, j + 1, hi, hj => by rw [Dk_ss, Dk_ss, Dk_congr κ μ n m h (i + 1) j hi (by omega), Dk_congr κ μ n m h i (j + 1) (by omega) hj, Dk_congr κ μ n m h i j (by omega) (by omega), h i j hi hj]

theorem cost_comm (x y : Nat) : cost x y = cost y x := by
  unfold cost
  by_cases h : x = y
  · rw [if_pos h, if_pos h.symm]
  · have h' : ¬ y = x := fun e => h e.symm
    rw [if_neg h, if_neg h']
    by_cases h2 : lowL [x] = lowL [y]
    · rw [if_pos h2, if_pos h2.symm]
    · have h2' : ¬ lowL [y] = lowL [x] := fun e => h2 e.symm
      rw [if_neg h2, if_neg h2']
theorem kap_0 (a b : List Nat) : ∀ i j, 0 ≤ kap a b i j := fun i j => cost_0 _ _

theorem dist_comm (a b : List Nat) : dist a b = dist b a := by
  unfold dist
  rw [← Dk_flip (kap b a)]
  exact Dk_congr _ _ b.length a.length (fun i j _ _ => cost_comm _ _) _ _ (Nat.le_refl _) (Nat.le_refl _)
theorem dist_nil (a : List Nat) : dist [] a = 2 * (a.length : Int) := by unfold dist; exact Dk_0 _ _
theorem dist_cons (x : Nat) (a b : List Nat) : dist (x :: a) (x :: b) = dist a b := by
  unfold dist
  rw [List.length_cons, List.length_cons, Dk_prefix (kap (x :: a) (x :: b)) (kap_0 _ _) (cost_self x)]
  exact Dk_congr _ _ b.length a.length (fun i j _ _ => rfl) _ _ (Nat.le_refl _) (Nat.le_refl _)
theorem dist_app (a b : List Nat) : ∀ P : List Nat, dist (P ++ a) (P ++ b) = dist a b
  | [] => rfl
  | x :: P => by rw [List.cons_append, List.cons_append, dist_cons, dist_app a b P]
theorem getD_snoc (l : List Nat) (z : Nat) : (l ++ [z]).getD l.length 0 = z := by rw [List.getD_eq_getElem?_getD, List.getElem?_append_right (Nat.le_refl _), Nat.sub_self]; rfl
theorem getD_front (l : List Nat) (z k : Nat) (h : k < l.length) : (l ++ [z]).getD k 0 = l.getD k 0 := by rw [List.getD_eq_getElem?_getD, List.getD_eq_getElem?_getD, List.getElem?_append_left h]
theorem dist_snoc (a b : List Nat) (z : Nat) : dist (a ++ [z]) (b ++ [z]) = dist a b := by
  unfold dist
  rw [List.length_append, List.length_append, List.length_singleton, Dk_suffix _ (kap_0 _ _) _ _ (by unfold kap; rw [getD_snoc, getD_snoc]; exact cost_self z)]
  exact Dk_congr _ _ b.length a.length (fun i j hi hj => by unfold kap; rw [getD_front _ _ _ hi, getD_front _ _ _ hj]) _ _ (Nat.le_refl _) (Nat.le_refl _)
theorem dist_back : ∀ (S a b : List Nat), dist (a ++ S) (b ++ S) = dist a b
  | [], a, b => by rw [List.append_nil, List.append_nil]
  | x :: S, a, b => by
    have := dist_back S (a ++ [x]) (b ++ [x])
    rw [List.append_assoc, List.append_assoc] at this
    exact this.trans (dist_snoc a b x)
theorem dist_self (a : List Nat) : dist a a = 0 := by
  have := dist_back a [] []
  rw [List.nil_append] at this
  exact this

/- the program's distance within the bound, or one more -/
theorem lev_dist (X Y : List Nat) : lev X Y (dist X Y) = dist X Y ∧ lev X Y (dist X Y - 1) = dist X Y := by
  by_cases hne : X = Y
  · subst hne
    rw [dist_self]
    unfold lev
    rw [if_pos rfl, if_pos rfl]; exact ⟨rfl, rfl⟩
  · have e1 : dist X Y = dist (X.drop (preLen X Y)) (Y.drop (preLen X Y)) := by
      have h1 := List.take_append_drop (preLen X Y) X
      have h2 := List.take_append_drop (preLen X Y) Y
      have := dist_app (X.drop (preLen X Y)) (Y.drop (preLen X Y)) (X.take (preLen X Y))
      rw [h1, pre_take X Y, h2] at this
      exact this
    have e0 : ∀ m, lev X Y m = lev1 (X.drop (preLen X Y)) (Y.drop (preLen X Y)) m := fun m => by unfold lev; rw [if_neg hne]
    rw [e0, e0, e1]
    generalize X.drop (preLen X Y) = A
    generalize Y.drop (preLen X Y) = B
    have e2 : dist A B = dist (A.take (A.length - sufLen A B)) (B.take (B.length - sufLen A B)) := by
      have h1 := List.take_append_drop (A.length - sufLen A B) A
      have h2 := List.take_append_drop (B.length - sufLen A B) B
      have h3 : A.drop (A.length - sufLen A B) = B.drop (B.length - sufLen A B) := by
        have := pre_take A.reverse B.reverse
        have e3 : preLen A.reverse B.reverse = sufLen A B := rfl
        rw [e3, List.take_reverse, List.take_reverse] at this
        exact List.reverse_inj.mp this
      have := dist_back (A.drop (A.length - sufLen A B)) (A.take (A.length - sufLen A B)) (B.take (B.length - sufLen A B))
      rw [h1, h3, h2] at this
      exact this
    unfold lev1
    rw [e2]
    generalize A.take (A.length - sufLen A B) = C
    generalize B.take (B.length - sufLen A B) = E
    have both : ∀ a b : List Nat, 0 < a.length → 0 < b.length → rows a b (dist a b) = dist a b ∧ rows a b (dist a b - 1) = dist a b := fun a b ha hb => by
      refine ⟨rows_eq a b _ ha hb (Int.le_refl _), ?_⟩
      rcases rows_or a b (dist a b - 1) ha hb with e | e <;> rw [e]
      omega
    unfold lev2
    by_cases hn : C = [] ∨ E = []
    · rw [if_pos hn, if_pos hn]
      have : 2 * ((C.length : Int) + E.length) = dist C E := by
        rcases hn with rfl | rfl
        · rw [dist_nil]; simp
        · rw [dist_comm, dist_nil]; simp
      exact ⟨this, this⟩
    · rw [if_neg hn, if_neg hn]
      have hC : 0 < C.length := List.length_pos_iff.mpr fun h => hn (.inl h)
      have hE : 0 < E.length := List.length_pos_iff.mpr fun h => hn (.inr h)
      by_cases hl : E.length < C.length
      · rw [if_pos hl, if_pos hl, dist_comm C E]
        exact both E C hE hC
      · rw [if_neg hl, if_neg hl]
        exact both C E hC hE
end Mine

open PySem PySem.W PyProof.Rows
namespace Mine
set_option Elab.async false
set_option linter.unusedVariables false

/- a ruler's step and its first mark -/
noncomputable def Rul (s f : Nat) : Prop := 2 ≤ s ∧ s ≤ 9 ∧ f < s
noncomputable def len (e s f : Nat) : Nat := (placesL e s f).length

theorem places_succ (e s f : Nat) : placesL (e + 1) s f = placesL e s f ++ if e % s == f then [e] else [] := by
  unfold placesL
  rw [List.range_succ, List.filter_append]
  congr 1
  by_cases h : (e % s == f) = true
  · rw [if_pos h, List.filter_cons_of_pos (p := fun x => x % s == f) h]; rfl
  · rw [if_neg h, List.filter_cons_of_neg (p := fun x => x % s == f) h]; rfl
theorem len_succ (e s f : Nat) : len (e + 1) s f = len e s f + if e % s = f then 1 else 0 := by
  unfold len
  rw [places_succ, List.length_append]
  congr 1
  by_cases h : e % s = f
  · rw [if_pos h, if_pos (beq_iff_eq.mpr h)]; rfl
  · rw [if_neg h, if_neg (by simpa using h)]; rfl
theorem met_succ (e s f s' f' : Nat) : metN (e + 1) s f s' f' = metN e s f s' f' + if e % s = f ∧ e % s' = f' then 1 else 0 := by
  unfold metN
  rw [List.range_succ, List.filter_append, List.length_append]
  congr 1
  by_cases h : e % s = f ∧ e % s' = f'
  · rw [if_pos h, List.filter_cons_of_pos (by simp [h.1, h.2])]; rfl
  · rw [if_neg h, List.filter_cons_of_neg (by simpa using h)]; rfl

theorem len_of {s f : Nat} (h : f < s) : ∀ e q r, e = s * q + r → r < s → len e s f = q + if f < r then 1 else 0
  | 0, q, r, he, hr => by
    have h1 : r = 0 := by omega
    have h2 : q = 0 := by
      have h3 : s * q = 0 := by omega
      rcases Nat.mul_eq_zero.mp h3 with h4 | h4
      · omega
      · exact h4
    rw [h1, h2]; rfl
  | e + 1, q, 0, he, hr => by
    cases q with
    | zero => rw [Nat.mul_zero] at he; cases he
    | succ q =>
      rw [Nat.mul_succ] at he
      have he2 : e = s * q + (s - 1) := by omega
      rw [len_succ, len_of h e q (s - 1) he2 (by omega), he2, Nat.mul_add_mod, Nat.mod_eq_of_lt (show s - 1 < s by omega), if_neg (Nat.not_lt_zero f)]
      by_cases hc : s - 1 = f
      · rw [if_pos hc, if_neg (by omega)]
      · rw [if_neg hc, if_pos (by omega)]
  | e + 1, q, r + 1, he, hr => by
    have he2 : e = s * q + r := Nat.succ.inj he
    rw [len_succ, len_of h e q r he2 (Nat.lt_of_succ_lt hr), he2, Nat.mul_add_mod, Nat.mod_eq_of_lt (Nat.lt_of_succ_lt hr), Nat.add_assoc]
    congr 1
    by_cases h1 : f < r
    · rw [if_pos h1, if_neg (Nat.ne_of_gt h1), if_pos (Nat.lt_succ_of_lt h1)]
    · rw [if_neg h1]
      by_cases h2 : r = f
      · rw [if_pos h2, if_pos (by omega)]
      · rw [if_neg h2, if_neg (by omega)]
theorem len_mark {s f e : Nat} (h : Rul s f) (he : e % s = f) : len e s f = e / s := by
  rw [len_of h.2.2 e (e / s) f (by rw [← he]; exact (Nat.div_add_mod e s).symm) h.2.2, if_neg (Nat.lt_irrefl f)]; rfl
theorem len_behind {s f c e : Nat} (h : Rul s f) (hc : c % s = f) (hce : c < e) : len e s f = c / s + 1 + (e - 1 - c) / s := by
  obtain ⟨h1, h2, h3⟩ := h
  have a1 := Nat.div_add_mod c s
  have a2 := Nat.div_add_mod (e - 1 - c) s
  have a3 := Nat.mod_lt (e - 1 - c) (show 0 < s by omega)
  rw [hc] at a1
  generalize (e - 1 - c) / s = u at *
  generalize (e - 1 - c) % s = v at *
  generalize c / s = q at *
  have m1 : s * (q + u) = s * q + s * u := Nat.mul_add s q u
  have m2 : s * (q + u + 1) = s * (q + u) + s := Nat.mul_succ s (q + u)
  rcases Nat.lt_or_ge (f + 1 + v) s with hv | hv
  · rw [len_of h3 e (q + u) (f + 1 + v) (by omega) hv, if_pos (by omega)]; omega
  · rw [len_of h3 e (q + u + 1) (f + 1 + v - s) (by omega) (by omega), if_neg (by omega)]; omega
theorem places_get {s f : Nat} (h : Rul s f) : ∀ e i, i < len e s f → (placesL e s f).getD i 0 = f + s * i
  | 0, i, hi => absurd hi (Nat.not_lt_zero _)
  | e + 1, i, hi => by
    rw [len_succ] at hi
    rw [places_succ, List.getD_eq_getElem?_getD]
    rcases Nat.lt_or_ge i (len e s f) with hlt | hge
    · have ih := places_get h e i hlt
      rw [List.getD_eq_getElem?_getD] at ih
      rw [List.getElem?_append_left hlt]
      exact ih
    · by_cases he : e % s = f
      · rw [if_pos he] at hi
        have hi2 : i = len e s f := by omega
        have hl : len e s f = e / s := len_mark h he
        rw [if_pos (beq_iff_eq.mpr he), List.getElem?_append_right hge]
        show ([e][i - len e s f]?).getD 0 = _
        rw [hi2, Nat.sub_self, hl]
        show e = f + s * (e / s)
        rw [← he, Nat.mod_add_div]
      · rw [if_neg he] at hi; omega

theorem cnt_mono {p q : Nat → Bool} (h : ∀ k, p k = true → q k = true) : ∀ i, cnt p i ≤ cnt q i
  | 0 => Nat.le_refl _
  | i + 1 => by
    have ih := cnt_mono h i
    unfold cnt
    by_cases hp : p i = true
    · rw [if_pos hp, if_pos (h i hp)]; omega
    · rw [if_neg hp]; omega
theorem cnt_list (q : Nat → Bool) (B : List Nat) : ∀ i, i ≤ B.length → cnt (fun k => q (B.getD k 0)) i = ((B.take i).filter q).length
  | 0, _ => rfl
  | i + 1, hi => by
    have ih := cnt_list q B i (by omega)
    rw [take_succ_getD B i (by omega), List.filter_append, List.length_append, ← ih]
    show cnt _ i + _ = _
    congr 1
    by_cases h : q (B.getD i 0) = true
    · rw [if_pos h, List.filter_cons_of_pos h]; rfl
    · rw [if_neg h, List.filter_cons_of_neg h]; rfl

theorem mx (i j : Nat) : max (i + 1) (j + 1) = max i j + 1 ∧ max (i + 1) (j + 1) ≤ max (i + 1) j + 1 ∧ max (i + 1) (j + 1) ≤ max i (j + 1) + 1 := by omega

/- no path is cheaper -/
theorem Dk_lower (κ : Nat → Nat → Int) (A B : List Nat) (w : Int) (hw : 0 ≤ w ∧ w ≤ 2) (h : ∀ i j, i < B.length → j < A.length → (if B.getD i 0 = A.getD j 0 then 2 - w else 2) ≤ κ i j) :
    ∀ i, i ≤ B.length → ∀ j, j ≤ A.length → 2 * ((max i j : Nat) : Int) - w * cnt (fun k => (A.take j).contains (B.getD k 0)) i ≤ Dk κ i j := by
  intro i
  induction i with
  | zero =>
    intro _ j _
    rw [Dk_00]
    show 2 * ((max 0 j : Nat) : Int) - w * ((0 : Nat) : Int) ≤ _
    rw [Nat.zero_max]; simp
  | succ i ih =>
    intro hi j
    induction j with
    | zero =>
      intro _
      rw [Dk_0, Nat.max_zero]
      have : 0 ≤ w * (cnt (fun k => (A.take 0).contains (B.getD k 0)) (i + 1) : Int) := Int.mul_nonneg hw.1 (Int.natCast_nonneg _)
      omega
    | succ j ihj =>
      intro hj
      have a1 := ihj (by omega)
      have a2 := ih (by omega) (j + 1) hj
      have a3 := ih (by omega) j (by omega)
      have a4 := h i j (by omega) (by omega)
      have hin : ∀ x, (A.take j).contains x = true → (A.take (j + 1)).contains x = true := fun x hx => by
        rw [take_succ_getD A j (by omega)]
        simp at hx ⊢
        exact .inl hx
      have m1 := cnt_mono (p := fun k => (A.take j).contains (B.getD k 0)) (q := fun k => (A.take (j + 1)).contains (B.getD k 0)) (fun k hk => hin _ hk) (i + 1)
      have m2 := cnt_mono (p := fun k => (A.take j).contains (B.getD k 0)) (q := fun k => (A.take (j + 1)).contains (B.getD k 0)) (fun k hk => hin _ hk) i
      have m3 : cnt (fun k => (A.take (j + 1)).contains (B.getD k 0)) (i + 1) = cnt (fun k => (A.take (j + 1)).contains (B.getD k 0)) i + if (A.take (j + 1)).contains (B.getD i 0) = true then 1 else 0 := rfl
      have m4 : B.getD i 0 = A.getD j 0 → cnt (fun k => (A.take (j + 1)).contains (B.getD k 0)) (i + 1) = cnt (fun k => (A.take (j + 1)).contains (B.getD k 0)) i + 1 := fun e => by
        rw [m3, if_pos]
        rw [take_succ_getD A j (by omega), e]
        simp
      have m5 : cnt (fun k => (A.take (j + 1)).contains (B.getD k 0)) i ≤ cnt (fun k => (A.take (j + 1)).contains (B.getD k 0)) (i + 1) := by rw [m3]; omega
      clear m3
      generalize cnt (fun k => (A.take (j + 1)).contains (B.getD k 0)) (i + 1) = c11 at *
      generalize cnt (fun k => (A.take (j + 1)).contains (B.getD k 0)) i = c01 at *
      generalize cnt (fun k => (A.take j).contains (B.getD k 0)) (i + 1) = c10 at *
      generalize cnt (fun k => (A.take j).contains (B.getD k 0)) i = c00 at *
      have p1 : w * c10 ≤ w * c11 := Int.mul_le_mul_of_nonneg_left (Int.ofNat_le.mpr m1) hw.1
      have p2 : w * c00 ≤ w * c01 := Int.mul_le_mul_of_nonneg_left (Int.ofNat_le.mpr m2) hw.1
      have p5 : w * c01 ≤ w * c11 := Int.mul_le_mul_of_nonneg_left (Int.ofNat_le.mpr m5) hw.1
      have p4 : B.getD i 0 = A.getD j 0 → w * c11 = w * c01 + w := fun e => by rw [m4 e, Int.natCast_add, Int.mul_add]; simp
      have hw2 := hw.2
      clear m1 m2 m4 m5 ih ihj h hin hw
      obtain ⟨x0, x1, x2⟩ := mx i j
      generalize max (i + 1) (j + 1) = y at *
      generalize max (i + 1) j = y1 at *
      generalize max i (j + 1) = y2 at *
      generalize max i j = y3 at *
      generalize w * c11 = w11 at *
      generalize w * c10 = w10 at *
      generalize w * c01 = w01 at *
      generalize w * c00 = w00 at *
      rw [Dk_ss]
      have q : 2 * (y : Int) - w11 - 2 ≤ pmin (Dk κ (i + 1) j) (Dk κ i (j + 1)) := le_pmin (by omega) (by omega)
      refine le_pmin ?_ ?_
      · clear a1 a2 a3 a4; omega
      · by_cases e : B.getD i 0 = A.getD j 0
        · rw [if_pos e] at a4
          have := p4 e
          clear p4 a1 a2 e q
          omega
        · rw [if_neg e] at a4
          clear p4 a1 a2 e q
          omega

theorem Dk_from (κ : Nat → Nat → Int) (h2 : ∀ i j, κ i j ≤ 2) (i j : Nat) : ∀ u v, Dk κ (i + u) (j + v) ≤ Dk κ i j + 2 * ((max u v : Nat) : Int)
  | 0, 0 => by simp
  | 0, v + 1 => by
    have ih := Dk_from κ h2 i j 0 v
    have := Dk_right κ (i + 0) (j + v)
    show Dk κ (i + 0) (j + v + 1) ≤ _
    omega
  | u + 1, 0 => by
    have ih := Dk_from κ h2 i j u 0
    have := Dk_down κ (i + u) (j + 0)
    show Dk κ (i + u + 1) (j + 0) ≤ _
    omega
  | u + 1, v + 1 => by
    have ih := Dk_from κ h2 i j u v
    have := Dk_diag κ (i + u) (j + v)
    have := h2 (i + u) (j + v)
    show Dk κ (i + u + 1) (j + v + 1) ≤ _
    omega

section
variable {κ : Nat → Nat → Int} {w : Int} {s f s' f' : Nat}

/- the last place where the rulers met -/
noncomputable def Base (κ : Nat → Nat → Int) (w : Int) (s f s' f' E : Nat) : Prop := ∃ i0 j0, Dk κ i0 j0 ≤ 2 * ((max i0 j0 : Nat) : Int) - w * metN E s f s' f' ∧ ((i0 = 0 ∧ j0 = 0) ∨ ∃ c, c < E ∧ c % s = f ∧ c % s' = f' ∧ i0 = c / s' + 1 ∧ j0 = c / s + 1)

theorem Base.fin (h2 : ∀ i j, κ i j ≤ 2) (r : Rul s f) (r' : Rul s' f') {E : Nat} (b : Base κ w s f s' f' E) : Dk κ (len E s' f') (len E s f) ≤ 2 * ((max (len E s' f') (len E s f) : Nat) : Int) - w * metN E s f s' f' := by
  obtain ⟨i0, j0, hd, ⟨rfl, rfl⟩ | ⟨c, hc, h3, h4, rfl, rfl⟩⟩ := b
  · have := Dk_from κ h2 0 0 (len E s' f') (len E s f)
    rw [Nat.zero_add, Nat.zero_add] at this
    omega
  · have e1 := len_behind r' h4 hc
    have e2 := len_behind r h3 hc
    have := Dk_from κ h2 (c / s' + 1) (c / s + 1) ((E - 1 - c) / s') ((E - 1 - c) / s)
    rw [← e1, ← e2] at this
    have hs : 0 < s := by have := r.1; omega
    have hs' : 0 < s' := by have := r'.1; omega
    have mm : max (c / s' + 1) (c / s + 1) + max ((E - 1 - c) / s') ((E - 1 - c) / s) ≤ max (len E s' f') (len E s f) := by
      rw [e1, e2]
      rcases Nat.le_total s s' with h | h
      · rw [Nat.max_eq_right (Nat.div_le_div_left h hs), Nat.max_eq_right (Nat.succ_le_succ (Nat.div_le_div_left h hs))]; exact Nat.le_max_right _ _
      · rw [Nat.max_eq_left (Nat.div_le_div_left h hs'), Nat.max_eq_left (Nat.succ_le_succ (Nat.div_le_div_left h hs'))]; exact Nat.le_max_left _ _
    generalize max (c / s' + 1) (c / s + 1) = y1 at *
    generalize max ((E - 1 - c) / s') ((E - 1 - c) / s) = y2 at *
    generalize max (len E s' f') (len E s f) = y at *
    clear e1 e2
    omega

theorem bases (h2 : ∀ i j, κ i j ≤ 2) (r : Rul s f) (r' : Rul s' f') (hw : w = 1 ∨ w = 2) {N : Nat} (hm : ∀ i j, i < len N s' f' → j < len N s f → f' + s' * i = f + s * j → κ i j ≤ 2 - w) : ∀ E, E ≤ N → Base κ w s f s' f' E
  | 0, _ => ⟨0, 0, by rw [Dk_00]; show _ ≤ 2 * ((max 0 0 : Nat) : Int) - w * ((0 : Nat) : Int); simp, .inl ⟨rfl, rfl⟩⟩
  | E + 1, hE => by
    have ih := bases h2 r r' hw hm E (by omega)
    by_cases h : E % s = f ∧ E % s' = f'
    · have hd := ih.fin h2 r r'
      rw [len_mark r h.1, len_mark r' h.2] at hd
      have l1 := len_behind r' h.2 (show E < N by omega)
      have l2 := len_behind r h.1 (show E < N by omega)
      have hk := hm (E / s') (E / s) (by rw [l1]; exact Nat.lt_of_lt_of_le (Nat.lt_succ_self _) (Nat.le_add_right _ _)) (by rw [l2]; exact Nat.lt_of_lt_of_le (Nat.lt_succ_self _) (Nat.le_add_right _ _)) (by
        have a1 := Nat.mod_add_div E s'
        have a2 := Nat.mod_add_div E s
        rw [h.2] at a1
        rw [h.1] at a2
        omega)
      have hg := Dk_diag κ (E / s') (E / s)
      refine ⟨E / s' + 1, E / s + 1, ?_, .inr ⟨E, Nat.lt_succ_self _, h.1, h.2, rfl, rfl⟩⟩
      rw [met_succ, if_pos h]
      rcases hw with rfl | rfl <;> omega
    · obtain ⟨i0, j0, hd, hb⟩ := ih
      refine ⟨i0, j0, ?_, ?_⟩
      · rw [met_succ, if_neg h]; exact hd
      · rcases hb with hb | ⟨c, hc, hr⟩
        · exact .inl hb
        · exact .inr ⟨c, by omega, hr⟩

theorem met_count (e : Nat) : cnt (fun k => ((placesL e s f).take (len e s f)).contains ((placesL e s' f').getD k 0)) (len e s' f') ≤ metN e s f s' f' := by
  unfold len
  rw [List.take_of_length_le (Nat.le_refl _)]
  rw [cnt_list (fun x => (placesL e s f).contains x) (placesL e s' f') _ (Nat.le_refl _), List.take_of_length_le (Nat.le_refl _)]
  have h : ∀ x ∈ List.range e, ((placesL e s f).contains x && x % s' == f') = true → (x % s == f && x % s' == f') = true := fun x _ hx => by
    rw [Bool.and_eq_true] at hx ⊢
    refine ⟨?_, hx.2⟩
    have := List.contains_iff_mem.mp hx.1
    exact (List.mem_filter.mp this).2
  have := List.countP_mono_left h
  rw [List.countP_eq_length_filter, List.countP_eq_length_filter] at this
  have e2 : (placesL e s' f').filter (fun x => (placesL e s f).contains x) = (List.range e).filter (fun x => (placesL e s f).contains x && x % s' == f') := by
    conv => lhs; arg 2; unfold placesL
    rw [List.filter_filter]
  rw [e2]
  exact this

/- the distance of two rulers -/
theorem ruler_dist (h2 : ∀ i j, κ i j ≤ 2) (r : Rul s f) (r' : Rul s' f') (hw : w = 1 ∨ w = 2) (e : Nat) (hk : ∀ i j, i < len e s' f' → j < len e s f → κ i j = if (placesL e s' f').getD i 0 = (placesL e s f).getD j 0 then 2 - w else 2) :
    Dk κ (len e s' f') (len e s f) = 2 * ((max (len e s' f') (len e s f) : Nat) : Int) - w * metN e s f s' f' := by
  have up := (bases h2 r r' hw (N := e) (fun i j hi hj he => by
    rw [hk i j hi hj, places_get r' e i hi, places_get r e j hj, if_pos he]; exact Int.le_refl _) e (Nat.le_refl _)).fin h2 r r'
  have low := Dk_lower κ (placesL e s f) (placesL e s' f') w (by omega) (fun i j hi hj => by rw [hk i j hi hj]; exact Int.le_refl _) (len e s' f') (Nat.le_refl _) (len e s f) (Nat.le_refl _)
  have m := met_count (s := s) (f := f) (s' := s') (f' := f') e
  rcases hw with rfl | rfl <;> omega
end
end Mine

open PySem PySem.W PyProof.Rows
namespace Mine
set_option Elab.async false
set_option linter.unusedVariables false

theorem lt_map {β : Type} [LT β] (g : Nat → β) (h1 : ∀ x y, g x < g y ↔ x < y) (h2 : ∀ x y, g x = g y → x = y) : ∀ l m : List Nat, l.map g < m.map g ↔ l < m
  | [], [] => by simp
  | [], y :: m => by rw [List.map_cons, List.map_nil]; exact ⟨fun _ => List.nil_lt_cons _ _, fun _ => List.nil_lt_cons _ _⟩
  | x :: l, [] => by rw [List.map_cons, List.map_nil]; exact ⟨fun h => absurd h (List.not_lt_nil _), fun h => absurd h (List.not_lt_nil _)⟩
  | x :: l, y :: m => by
    rw [List.map_cons, List.map_cons, List.cons_lt_cons_iff, List.cons_lt_cons_iff, h1, lt_map g h1 h2 l m]
    exact ⟨fun h => h.elim .inl fun h => .inr ⟨h2 _ _ h.1, h.2⟩, fun h => h.elim .inl fun h => .inr ⟨congrArg g h.1, h.2⟩⟩

theorem order_word (e s f s' f' : Nat) : collI (wordL e s f) (wordL e s' f') = orderL (castL (placesL e s f)) (castL (placesL e s' f')) := by
  have k1 : ∀ l m : List Nat, l.map (97 + ·) < m.map (97 + ·) ↔ l < m := lt_map (97 + ·) (fun x y => by omega) (fun x y h => by omega)
  have k2 : ∀ l m : List Nat, castL l < castL m ↔ l < m := lt_map (fun x : Nat => (x : Int)) (fun x y => by omega) (fun x y h => by omega)
  unfold collI orderL wordL
  rw [decide_eq_decide.mpr ((k1 (placesL e s' f') (placesL e s f)).trans (k2 _ _).symm), decide_eq_decide.mpr ((k1 (placesL e s f) (placesL e s' f')).trans (k2 _ _).symm)]
theorem order_back (x y : List Int) : orderL y x = -orderL x y := by unfold orderL; omega

theorem word_length (e s f : Nat) : (wordL e s f).length = len e s f := List.length_map _
theorem word_get {e s f i : Nat} (h : i < len e s f) : (wordL e s f).getD i 0 = 97 + (placesL e s f).getD i 0 := by
  have h' : i < (placesL e s f).length := h
  unfold wordL
  rw [List.getD_eq_getElem?_getD, List.getElem?_map, List.getElem?_eq_getElem h', List.getD_eq_getElem?_getD, List.getElem?_eq_getElem h']; rfl
theorem place_small {e s f i : Nat} (he : e ≤ 26) (h : i < len e s f) : (placesL e s f).getD i 0 < 26 := by
  have h' : i < (placesL e s f).length := h
  rw [List.getD_eq_getElem?_getD, List.getElem?_eq_getElem h']
  have := List.mem_range.mp (List.mem_filter.mp (List.getElem_mem h')).1
  show (placesL e s f)[i] < 26
  omega
theorem kap_2 (a b : List Nat) : ∀ i j, kap a b i j ≤ 2 := fun i j => cost_2 _ _
theorem maxi_nat (m n : Nat) : maxi (m : Int) n = ((max n m : Nat) : Int) := by unfold maxi; split <;> omega

section
variable {e s f s' f' : Nat}
theorem dist_small (he : e ≤ 26) (r : Rul s f) (r' : Rul s' f') : dist (wordL e s f) (wordL e s' f') = farI (wordL e s f) (wordL e s' f') (metN e s f s' f') := by
  unfold dist farI
  rw [word_length, word_length, maxi_nat, ruler_dist (w := 2) (kap_2 _ _) r r' (.inr rfl) e]
  · omega
  · intro i j hi hj
    unfold kap
    have h1 := place_small he hi
    have h2 := place_small he hj
    rw [word_get hi, word_get hj, cost_az (by omega) (by omega)]
    by_cases h : (placesL e s' f').getD i 0 = (placesL e s f).getD j 0
    · rw [if_pos h, if_pos (by omega)]; rfl
    · rw [if_neg h, if_neg (by omega)]
theorem word_small (he : e ≤ 26) : ∀ x ∈ wordL e s f, 97 ≤ x ∧ x ≤ 122 := by
  intro x hx
  obtain ⟨p, hp, rfl⟩ := List.mem_map.mp hx
  have := List.mem_range.mp (List.mem_filter.mp hp).1
  omega
theorem dist_large (he : e ≤ 26) (r : Rul s f) (r' : Rul s' f') : dist (wordL e s f) (upL (wordL e s' f')) = 2 * maxi (wordL e s f).length (wordL e s' f').length - metN e s f s' f' := by
  rw [up_az _ (word_small he)]
  unfold dist
  rw [List.length_map, word_length, word_length, maxi_nat, ruler_dist (w := 1) (kap_2 _ _) r r' (.inl rfl) e]
  · omega
  · intro i j hi hj
    unfold kap
    have h1 := place_small he hi
    have h2 := place_small he hj
    have hg : ((wordL e s' f').map fun x => x - 32).getD i 0 = 97 + (placesL e s' f').getD i 0 - 32 := by
      have h' : i < (wordL e s' f').length := by rw [word_length]; exact hi
      rw [← word_get hi, List.getD_eq_getElem?_getD, List.getElem?_map, List.getElem?_eq_getElem h', List.getD_eq_getElem?_getD, List.getElem?_eq_getElem h']; rfl
    rw [hg, word_get hj, (cost_up (by omega) (by omega)).1]
    by_cases h : (placesL e s' f').getD i 0 = (placesL e s f).getD j 0
    · rw [if_pos h, if_pos (by omega)]; rfl
    · rw [if_neg h, if_neg (by omega)]

theorem odd_lev (X Y : List Nat) (odd : Nat) (ho : odd < 2) : lev X Y (dist X Y - odd) = dist X Y := by
  have := lev_dist X Y
  have hc : odd = 0 ∨ odd = 1 := by omega
  rcases hc with rfl | rfl
  · simpa using this.1
  · exact this.2

theorem fact_pair (he : e ≤ 26) (r : Rul s f) (r' : Rul s' f') (odd : Nat) (ho : odd < 2) : pairV (wordL e s f) (wordL e s' f') (castL (placesL e s f)) (castL (placesL e s' f')) (metN e s f s' f') odd = true := by
  unfold pairV
  rw [order_word, order_word, order_back (castL (placesL e s f)) (castL (placesL e s' f')), if_neg (by simp), ← dist_small he r r']
  have hc : odd = 0 ∨ odd = 1 := by omega
  rcases hc with rfl | rfl
  · rw [if_pos rfl, if_pos rfl, odd_lev _ _ 0 (by decide)]; simp
  · rw [if_neg (by decide), if_neg (by decide), dist_comm, odd_lev _ _ 1 (by decide)]; simp
theorem fact_great (he : e ≤ 26) (r : Rul s f) (r' : Rul s' f') (odd : Nat) (ho : odd < 2) (far : Int) (hf : far = 2 * maxi (wordL e s f).length (wordL e s' f').length - (metN e s f s' f' : Nat)) : lev (wordL e s f) (upL (wordL e s' f')) (far - (odd : Nat)) = far := by
  rw [hf, ← dist_large he r r']
  exact odd_lev _ _ odd ho
end
end Mine

open PySem PySem.W PyProof.Rows
namespace Mine
set_option Elab.async false
set_option maxRecDepth 100000
set_option linter.unusedVariables false

theorem readL_append (a b : List Nat) : readL (a ++ b) = readL a ++ readL b := by unfold readL; rw [List.filter_append, List.map_append, List.flatten_append]
theorem readL_in {x : Nat} (h : inB1 x = true) : readL [x] = [] := by
  unfold readL
  rw [List.filter_cons_of_neg (by rw [h]; decide)]; rfl
theorem readL_out {x : Nat} (h : inB1 x = false) : readL [x] = fold3 x := by
  unfold readL
  rw [List.filter_cons_of_pos (by rw [h]; decide)]
  simp

theorem b1_in : ∀ k, k < 27 → inB1 (b1.getD k 0).toNat = true := by decide +kernel
/- a sign that is read as these letters -/
noncomputable def reads (x : Nat) (l : List Nat) : Bool := !inB1 x && fold3 x == l
theorem reads_ok {x : Nat} {l : List Nat} (h : reads x l = true) : readL [x] = l := by
  unfold reads at h
  rw [Bool.and_eq_true, Bool.not_eq_true', beq_iff_eq] at h
  exact (readL_out h.1).trans h.2
theorem b3_above : b3.all (fun p => decide (122 < p.1)) = true := by decide +kernel
theorem b1_above : b1.all (fun x => decide (122 < x) && decide (x < 119808)) = true := by decide +kernel
/- a small sign is in no table -/
theorem low_reads {c : Nat} (h : c ≤ 122) : readL [c] = lowL [c] := by
  have h1 : inB1 c = false := by
    rw [Bool.eq_false_iff]
    intro hc
    obtain ⟨x, hx, e⟩ := List.any_eq_true.mp hc
    have := List.all_eq_true.mp b1_above x hx
    simp at this e
    omega
  rw [readL_out h1]
  unfold fold3
  have h2 : b3at c = none := by
    unfold b3at
    rw [Option.map_eq_none_iff, List.find?_eq_none]
    intro p hp e
    have := List.all_eq_true.mp b3_above p hp
    simp at this e
    omega
  rw [h2]
theorem low_all : ∀ k, k < 26 → lowL [97 + k] = [97 + k] ∧ lowL [65 + k] = [97 + k] := by decide +kernel
/- these pairs lie in a table, in its order -/
noncomputable def within : List (Int × List Nat) → List (Int × Str) → Bool
  | [], _ => true
  | _ :: _, [] => false
  | a :: as, b :: bs => if a.1 = b.1 then a.2 == b.2.cps.toList && within as bs else within (a :: as) bs
theorem within_mem : ∀ {as : List (Int × List Nat)} {bs : List (Int × Str)}, within as bs = true → ∀ a ∈ as, ∃ v, (a.1, v) ∈ bs ∧ v.cps.toList = a.2
  | [], _, _, a, ha => nomatch ha
  | _ :: _, [], h, _, _ => nomatch h
  | a :: as, b :: bs, h, x, hx => by
    unfold within at h
    by_cases e : a.1 = b.1
    · rw [if_pos e, Bool.and_eq_true, beq_iff_eq] at h
      rcases List.mem_cons.mp hx with rfl | hx
      · exact ⟨b.2, by rw [e]; exact List.mem_cons_self, h.1.symm⟩
      · obtain ⟨v, hv, hw⟩ := within_mem h.2 x hx
        exact ⟨v, List.mem_cons_of_mem _ hv, hw⟩
    · rw [if_neg e] at h
      obtain ⟨v, hv, hw⟩ := within_mem h x hx
      exact ⟨v, List.mem_cons_of_mem _ hv, hw⟩
theorem find_mem : ∀ {l : List (Int × Str)} {c : Int} {v : Str}, (l.map (·.1)).Nodup → (c, v) ∈ l → l.find? (fun p => p.1 == c) = some (c, v)
  | [], _, _, _, h => nomatch h
  | p :: l, c, v, hn, h => by
    rw [List.map_cons, List.nodup_cons] at hn
    rcases List.mem_cons.mp h with rfl | h
    · exact List.find?_cons_of_pos (beq_self_eq_true c)
    · rw [List.find?_cons_of_neg]
      · exact find_mem hn.2 h
      · intro e
        exact hn.1 (by rw [beq_iff_eq.mp e]; exact List.mem_map_of_mem h)
noncomputable def greatT : List (Int × List Nat) := (great.drop 1).flatMap fun g => (List.range 26).map fun (k : Nat) => (g + (k : Int), [97 + k])
theorem great_in : within greatT b3 = true := by decide +kernel
theorem great_far : (great.drop 1).all (fun g => decide (119808 ≤ g)) = true := by decide +kernel
theorem small_reads (k : Nat) (h : k < 26) : readL [97 + k] = [97 + k] := (low_reads (by omega)).trans (low_all k h).1
theorem great_reads (g : Nat) (hg : g < 11) (k : Nat) (hk : k < 26) : readL [(great.getD g 0 + ((97 + k : Nat) : Int) - 97).toNat] = [97 + k] := by
  cases g with
  | zero =>
    have : (great.getD 0 0 + ((97 + k : Nat) : Int) - 97).toNat = 65 + k := by
      show ((65 : Int) + ((97 + k : Nat) : Int) - 97).toNat = 65 + k
      omega
    rw [this]
    exact (low_reads (by omega)).trans (low_all k hk).2
  | succ g =>
    have hm : great.getD (g + 1) 0 ∈ great.drop 1 := by
      have hl : g < (great.drop 1).length := by show g < 10; omega
      have : great.getD (g + 1) 0 = (great.drop 1)[g] := by rw [List.getElem_drop, List.getD_eq_getElem?_getD, Nat.add_comm, List.getElem?_eq_getElem (by show 1 + g < 11; omega)]; rfl
      rw [this]; exact List.getElem_mem hl
    have hb := List.all_eq_true.mp great_far _ hm
    rw [decide_eq_true_eq] at hb
    generalize great.getD (g + 1) 0 = c at *
    obtain ⟨v, hv, hw⟩ := within_mem great_in (c + (k : Int), [97 + k]) (List.mem_flatMap.mpr ⟨c, hm, List.mem_map.mpr ⟨k, List.mem_range.mpr hk, rfl⟩⟩)
    have e1 : (c + ((97 + k : Nat) : Int) - 97).toNat = (c + k).toNat := by omega
    have e2 : (((c + k).toNat : Nat) : Int) = c + k := by omega
    rw [e1]
    have h1 : inB1 (c + k).toNat = false := by
      rw [Bool.eq_false_iff]
      intro hc
      obtain ⟨x, hx, e⟩ := List.any_eq_true.mp hc
      have := List.all_eq_true.mp b1_above x hx
      rw [e2] at e
      simp at this e
      omega
    rw [readL_out h1]
    unfold fold3
    have h2 : b3at ((c + k).toNat : Nat) = some v := by
      unfold b3at
      rw [e2, find_mem b3_nodup hv]; rfl
    rw [h2]
    exact hw
theorem join_reads : joinT.all (fun p => reads p.2.toNat p.1.cps.toList && p.1.cps.toList.length == 2) = true := by decide +kernel
theorem like_reads : likeT.all (fun p => reads p.2.toNat p.1.cps.toList) = true := by decide +kernel

theorem atS_mem {ps : List (Str × Int)} {k : Str} {v : Int} (h : atS ps k = some v) : (k, v) ∈ ps := by
  unfold atS at h
  obtain ⟨p, h1, rfl⟩ := Option.map_eq_some_iff.mp h
  have h2 : p.1 = k := beq_iff_eq.mp (List.find?_some (p := fun p : Str × Int => p.1 == k) h1)
  rw [← h2]
  exact List.mem_of_find?_eq_some h1

noncomputable def Sm26 (W : List Nat) : Prop := ∀ x ∈ W, 97 ≤ x ∧ x ≤ 122

theorem read_pre (S : TS) : readL (tpre S) = readL S.typed := by
  unfold tpre
  split
  · rename_i h
    have h1 : thid S < 28 := Int.fmod_lt_of_pos _ (by decide)
    rw [readL_append, readL_in (b1_in (thid S - 1).toNat (by omega)), List.append_nil]
  · rfl

theorem tlet_read {W : List Nat} (hW : Sm26 W) (S : TS) (hp : S.pl < W.length) : readL [tlet W S] = [W.getD S.pl 0] := by
  have hc : 97 ≤ W.getD S.pl 0 ∧ W.getD S.pl 0 ≤ 122 := by
    rw [List.getD_eq_getElem?_getD, List.getElem?_eq_getElem hp]
    exact hW _ (List.getElem_mem hp)
  obtain ⟨k, hk⟩ : ∃ k, W.getD S.pl 0 = 97 + k := ⟨W.getD S.pl 0 - 97, by omega⟩
  have hk26 : k < 26 := by omega
  unfold tlet
  by_cases h : tplain S = true
  · rw [if_pos h, hk]
    unfold tplain at h
    rw [Bool.and_eq_true, decide_eq_true_eq, decide_eq_true_eq] at h
    exact great_reads (tform S - 1).toNat (by omega) k hk26
  · rw [if_neg h]
    by_cases h2 : tlike W S = true
    · rw [if_pos h2]
      unfold tlike at h2
      rw [Bool.and_eq_true] at h2
      obtain ⟨v, hv⟩ := Option.isSome_iff_exists.mp h2.2
      have := List.all_eq_true.mp like_reads _ (atS_mem hv)
      rw [hv]
      exact reads_ok this
    · rw [if_neg h2, hk]
      exact small_reads k hk26

theorem tpair_is (W : List Nat) (S : TS) : tpair W S = (W.drop S.pl).take 2 := by
  unfold tpair cut
  simp only [Option.elim]
  rw [show ((S.pl : Int) + 2) = ((S.pl + 2 : Nat) : Int) by omega, clipAt_nat, clipAt_nat]
  rcases Nat.le_total (S.pl + 2) W.length with h | h
  · rw [Nat.min_eq_left h, Nat.min_eq_left (show S.pl ≤ W.length by omega), Nat.add_sub_cancel_left]
  · rcases Nat.le_total S.pl W.length with h2 | h2
    · rw [Nat.min_eq_left h2, Nat.min_eq_right h, List.take_of_length_le (by simp), List.take_of_length_le (by simp; omega)]
    · rw [Nat.min_eq_right h2, Nat.min_eq_right h, List.drop_of_length_le (Nat.le_refl _), List.drop_of_length_le h2]; simp

theorem tnext_read {W : List Nat} (hW : Sm26 W) (S : TS) (hp : S.pl < W.length) (h : readL S.typed = W.take S.pl) : (tnext W S).pl ≤ W.length ∧ readL (tnext W S).typed = W.take (tnext W S).pl := by
  unfold tnext
  split
  · rename_i hl
    unfold tlig at hl
    rw [Bool.and_eq_true] at hl
    obtain ⟨v, hv⟩ := Option.isSome_iff_exists.mp hl.2
    have hr := List.all_eq_true.mp join_reads _ (atS_mem hv)
    rw [Bool.and_eq_true, beq_iff_eq] at hr
    have hlen : (tpair W S).length = 2 := hr.2
    have hpl : S.pl + 2 ≤ W.length := by rw [tpair_is] at hlen; simp at hlen; omega
    refine ⟨hpl, ?_⟩
    rw [hv]
    show readL (tpre S ++ [v.toNat]) = _
    rw [readL_append, read_pre, h, reads_ok hr.1]
    show W.take S.pl ++ tpair W S = _
    rw [tpair_is, List.take_add]
  · refine ⟨hp, ?_⟩
    rw [readL_append, read_pre, h, tlet_read hW S hp]
    exact (take_succ_getD W S.pl hp).symm

theorem titer_read {W : List Nat} (hW : Sm26 W) (seed : Int) : ∀ k, (titer W ⟨0, seed, []⟩ k).pl ≤ W.length ∧ readL (titer W ⟨0, seed, []⟩ k).typed = W.take (titer W ⟨0, seed, []⟩ k).pl
  | 0 => ⟨Nat.zero_le _, rfl⟩
  | k + 1 => by
    have ih := titer_read hW seed k
    unfold titer
    split
    · rename_i h
      exact tnext_read hW _ h ih.2
    · exact ih

theorem read_typed {W : List Nat} (hW : Sm26 W) (seed : Int) : readL (typedL W seed) = W := by
  have h1 := titer_read hW seed W.length
  have h2 := (titer_facts W seed W.length).2
  have h3 : (titer W ⟨0, seed, []⟩ W.length).pl = W.length := by rcases h2 with h | h <;> omega
  unfold typedL
  rw [h1.2, h3, List.take_of_length_le (Nat.le_refl _)]
end Mine

open PySem PySem.W PyProof.Rows
namespace Mine
set_option Elab.async false
set_option maxRecDepth 100000
set_option linter.unusedVariables false

theorem marks_all : ∀ e, e < 14 → ∀ s, s < 8 → ∀ f, f < s + 2 → marksL (rulerL (s + 2) f) (e + 13 : Nat) = castL (placesL (e + 13) (s + 2) f) := by decide +kernel
theorem lead_ruler {s f : Nat} (h : s ≤ 9) (h2 : 2 ≤ s) (hf : f < s) : lead (rulerL s f) = 2 := by
  unfold lead rulerL
  rw [List.takeWhile_cons_of_pos, List.takeWhile_cons_of_pos, List.takeWhile_cons_of_neg]
  · rfl
  · simp
  · simp; omega
  · simp; omega
theorem told_ruler {s f : Nat} (h2 : 2 ≤ s) (h : s ≤ 9) (hf : f < s) (k : Nat) (x : Int) (ht : told (rulerL s f) k = some x) : 1 ≤ x := by
  unfold told at ht
  rw [lead_ruler h h2 hf] at ht
  unfold rulerL at ht
  by_cases hk : k < 2
  · rw [if_pos hk] at ht
    have hc : k = 0 ∨ k = 1 := by omega
    rcases hc with rfl | rfl
    · simp at ht; omega
    · simp at ht; omega
  · rw [if_neg hk] at ht
    simp at ht; omega

theorem all_facts : Facts where
  marks e s f h1 h2 h3 h4 h5 := by
    have := marks_all (e - 13) (by omega) (s - 2) (by omega) f (by omega)
    rw [show e - 13 + 13 = e by omega, show s - 2 + 2 = s by omega] at this
    exact this
  told s f h2 h3 h4 := told_ruler h2 h3 h4
  read e s f seed h1 h2 h3 h4 h5 := read_typed (word_small h2) seed
  pair e s f s' f' odd h1 h2 h3 h4 h5 h6 h7 h8 h9 := fact_pair h2 ⟨h3, h4, h5⟩ ⟨h6, h7, h8⟩ odd h9
  great e s f s' f' odd h1 h2 h3 h4 h5 h6 h7 h8 h9 := fact_great h2 ⟨h3, h4, h5⟩ ⟨h6, h7, h8⟩ odd h9
theorem law_holds : RW.Holds := holds_of (call_goal all_facts)
end Mine

set_option maxRecDepth 100000 in
theorem PySem.Challenge.cw_sw0069_02_holds : PySem.Challenge.rw_sw0069_02.Holds :=
  Mine.law_holds
