import PyProof.Rows.All
import Wide.All
import OpenK.AllK
import Wide.FinOn
import PySem.Challenge.RW_wc0011_01
set_option Elab.async false
set_option autoImplicit false

/-! part HA -/
section
open PySem PySem.W PyProof.Rows PySem.Calls
namespace Mine

theorem runN_halts_once {den : Code → Sem Fin} {p : Program} {w : World} : ∀ {n k : Nat} {s : Shared} {t : Thread} {o o' : Outcome} {s' s'' : Shared},
    runN den p w n s t = .halted o s' → runN den p w k s t = .halted o' s'' → o = o'
  | 0, _, _, _, _, _, _, _, h, _ => by simp [runN] at h
  | _ + 1, 0, _, _, _, _, _, _, _, h => by simp [runN] at h
  | n + 1, k + 1, s, t, o, o', s', s'', h, h' => by
    simp only [runN] at h h'
    cases hs : step den p w s t with
    | go s₁ t₁ => simp only [hs] at h h'; exact runN_halts_once h h'
    | halt x y =>
      simp only [hs] at h h'
      cases h; cases h'; rfl

theorem top_through {p : Program} {w : World} {s : Shared} {t : Sem Fin} {P : Shared → Prop} (hr : s.asleep)
    (h : wpAny (model p w) callerA t (fun fin s' => ∃ f, fin = .done f ∧ P s' ∧ s'.gens = #[]) (fun _ _ => False) s) :
    ∃ n s₁ t₁, schedN (denote table) p w n (.single s ⟨t, .builtin "claim.caller" {}, default, []⟩) = .running (.single s₁ t₁) ∧ through t₁ = true ∧ s₁.heap.life = s.heap.life ∧ P s₁ ∧ s₁.gens = #[] := by
  have hw : Sem.wp (model p w) ⟨.builtin "claim.caller" {}, none, none, [], none⟩ t (fun fin _ s' => ∃ f, fin = .done f ∧ P s' ∧ s'.gens = #[]) (fun _ _ _ => False) default s := h _ _ caller_in
  have hH := (wp_iff_halts (M := model p w) t (fun _ _ => True) default s).mp (Sem.wp_mono _ _ _ (fun fin p' s' x => by
    obtain ⟨f, rfl, _, hg⟩ := x
    exact ⟨trivial, by rw [hg]; simp [leftWithCleanup]⟩) (fun _ _ _ x => x.elim) _ _ hw)
  obtain ⟨n, r, s', hn, _⟩ := hH
  obtain ⟨s'', h1, h2, hc⟩ := runNI_real (denote table) p w hn (outcomeOf_ends r)
  obtain ⟨m, s₂, σ, p', leaf, hm, hf, hl⟩ := wp_reaches (M := model p w) hw
  rcases hl with ⟨a, rfl, f, rfl, hP, hg⟩ | ⟨_, _, x⟩
  · obtain rfl := Shared.eq_of_forget_eq hf hg
    have sq : Sequential (denote table) p w s ⟨t, .builtin "claim.caller" {}, default, []⟩ := by
      refine ⟨hc, fun k s₃ hk => ?_⟩
      have := runN_halts_once h1 hk
      cases r <;> cases this
    have e := schedN_eq_runN (denote table) p w s _ hr sq m
    rw [show runN (denote table) p w m s ⟨t, .builtin "claim.caller" {}, default, []⟩ = _ from hm] at e
    exact ⟨m, _, _, e, rfl, runN_life_running hm, hP, hg⟩
  · exact x.elim
end Mine
end

/-! part HD -/
section
open PySem PySem.W PyProof.Rows PySem.Calls
namespace Mine

/-! a dict display of written ints and texts, of any length -/
section
variable {prog : Program} {w : World} {A : Around} {E : Value → Shared → Prop} {s : Shared}

theorem dict_iter : typeLookup (.type "dict") "__iter__" = pure (some (.builtin "dict.__iter__")) := by rw [typeLookup_type, builtinLookup_eq_fast]; kernel_rfl
theorem dict_sub : isSubtype (.type "dict") (.type "dict") = pure true := by rw [isSubtype_type]; kernel_rfl

theorem put_new {K : Type} [DecidableEq K] {knd : KeyKind prog w K} {d : Addr} {kvs : List (K × Value)} {k : K} {key v : Value} {Q : Unit → Shared → Prop} (hkey : knd.is k key = true) (hm : s.heap.DictOf knd d kvs)
    (hnot : k ∉ kvs.map (·.1)) (hsz : kvs.length ≤ sizeLine)
    (hQ : ∀ h', h'.DictOf knd d (kvs ++ [(k, v)]) → Heap.SameBut d s.heap h' → Q () { s with heap := h' }) :
    wpAny (model prog w) A (dictPut d (knd.hash k) key v) Q E s := by
  obtain ⟨o, es, ep, ho, hc, hd, hk, hp, hn⟩ := hm
  have hes : es.size ≤ sizeLine := by
    have e1 := hp.length
    have e2 : es.toList.length = es.size := by simp
    omega
  unfold dictPut
  refine wpAny_bind (wpAny_dictFind_of hkey ho hd hk ?_)
  have hidx : (es.findIdx? fun e => knd.is k e.key) = kvs.findIdx? fun kv => decide (kv.1 = k) := by
    rw [← hp.findIdx k]; obtain ⟨l⟩ := es; simp
  have hnone : (es.findIdx? fun e => knd.is k e.key) = none := by
    rw [hidx, List.findIdx?_eq_none_iff]
    intro x hx
    rw [decide_eq_false_iff_not]
    exact fun e => hnot (List.mem_map.mpr ⟨x, hx, e⟩)
  rw [hnone]
  refine wpAny_updateDictKeys (hz := hes) ho hd (hQ _ ⟨_, _, ep + 1, Heap.get?_update_self _ ho (Obj.isFreed_of_dict (Obj.data_mapDictKeys hd _)),
      hc.mapDictKeys _, Obj.data_mapDictKeys hd _, hk.push hkey _, ?_, ?_⟩ (Heap.SameBut.update ..))
  · have := hp.append hkey (knd.hash k) v
    obtain ⟨l⟩ := es
    simpa using this
  · rw [List.map_append, List.nodup_append]
    refine ⟨hn, by simp, ?_⟩
    intro a ha b hb
    simp only [List.map_cons, List.map_nil, List.mem_singleton] at hb
    subst hb
    exact fun e => hnot (e ▸ ha)

theorem stored_new {K : Type} [DecidableEq K] {kvs : List (K × Value)} {k : K} {v : Value} (h : k ∉ kvs.map (·.1)) : stored kvs k v = kvs ++ [(k, v)] := by
  unfold stored
  rw [if_neg]
  rw [List.any_eq_true]
  rintro ⟨kv, hkv, he⟩
  exact h (List.mem_map.mpr ⟨kv, hkv, of_decide_eq_true he⟩)

theorem pairs_at {K : Type} [DecidableEq K] {knd : KeyKind prog w K} : ∀ {es : List DictEntry} {kvs : List (K × Value)}, Pairs knd es kvs → ∀ {i : Nat} {e : DictEntry}, es[i]? = some e → ∃ k, knd.is k e.key = true ∧ kvs[i]? = some (k, e.val)
  | _, _, .nil, _, _, h => by simp at h
  | _, _, .cons h1 h2 r, 0, e, h => by
    simp only [List.getElem?_cons_zero, Option.some.injEq] at h
    subst h
    exact ⟨_, h1, by simp [h2]⟩
  | _, _, .cons h1 h2 r, i + 1, e, h => by
    simp only [List.getElem?_cons_succ] at h ⊢
    exact pairs_at r h
theorem not_in_take {K : Type} {l : List K} {i : Nat} {k : K} (hn : l.Nodup) (h : l[i]? = some k) : k ∉ l.take i := by
  intro hm
  obtain ⟨j, hj⟩ := List.getElem?_of_mem hm
  rw [List.getElem?_take] at hj
  split at hj
  · rename_i hlt
    obtain ⟨a1, a2⟩ := List.getElem?_eq_some_iff.mp h
    obtain ⟨b1, b2⟩ := List.getElem?_eq_some_iff.mp hj
    have := (List.getElem_inj hn).mp (b2.trans a2.symm)
    omega
  · cases hj

theorem merge_new {K : Type} [DecidableEq K] {knd : KeyKind prog w K} {d o : Addr} {kvs more : List (K × Value)} {Q : Unit → Shared → Prop} (hdo : d ≠ o) (hoS : (o == sysModules) = false)
    (hd : s.heap.DictOf knd d kvs) (ho : s.heap.DictOf knd o more) (hne : kvs ≠ []) (hnot : ∀ k ∈ more.map (·.1), k ∉ kvs.map (·.1)) (hsz : kvs.length + more.length ≤ sizeLine)
    (hQ : ∀ h', h'.DictOf knd d (kvs ++ more) → Heap.SameBut d s.heap h' → Q () { s with heap := h' }) :
    wpAny (model prog w) A (mergeMapping d (.ref o) false) Q E s := by
  obtain ⟨od, esd, epd, hod, hcd, hdd, hkd, hpd, hnd⟩ := id hd
  obtain ⟨oo, eso, epo, hoo, hco, hdo', hko, hpo, hno⟩ := id ho
  have hty : s.TypeIs (.ref o) "dict" := ⟨oo, hoo, hco.1⟩
  have hesd : esd.isEmpty = false := by
    have e1 := hpd.length
    have e2 : esd.toList.length = esd.size := by simp
    cases hz : kvs with
    | nil => exact absurd hz hne
    | cons a l =>
      rw [hz, List.length_cons] at e1
      rw [Array.isEmpty, decide_eq_false_iff_not]; omega
  unfold mergeMapping
  dsimp only
  refine wpAny_bind (wpAny_isInstance hty dict_sub ?_)
  rw [if_pos rfl]
  refine wpAny_bind (wpAny_specialOf hty dict_iter ?_)
  show wpAny _ _ (if (o == sysModules) = true then _ else _) _ _ _
  rw [if_neg (by rw [hoS]; exact Bool.false_ne_true)]
  refine wpAny_bind (wpAny_dictEntries hod hdd ?_)
  rw [hesd, if_neg Bool.false_ne_true]
  refine wpAny_bind (wpAny_dictEntries hoo hdo' ?_)
  refine wpAny_bind (wpAny_dictEpoch hoo hdo' ?_)
  refine wpAny_bind ?_
  have hlen : more.length = eso.size := by rw [← hpo.length]; simp
  rw [List.range_eq_range']
  refine wpAny_forIn_list _
    (fun rest _ s' => ∃ h' i, s' = { s with heap := h' } ∧ rest = List.range' i (eso.size - i) ∧ i ≤ eso.size ∧ h'.DictOf knd d (kvs ++ more.take i) ∧ h'.get? o = some oo ∧ Heap.SameBut d s.heap h')
    _ ?_ ?_ _ _ ⟨s.heap, 0, rfl, by simp, Nat.zero_le _, by simpa using hd, hoo, Heap.SameBut.refl _ _⟩
  · rintro x rest b s' ⟨h', i, rfl, hr, hi, hd', hoo', hs'⟩
    have hlt : i < eso.size := by
      apply Nat.lt_of_not_le
      intro q
      rw [Nat.sub_eq_zero_of_le q] at hr
      cases hr
    have hr2 : x = i ∧ rest = List.range' (i + 1) (eso.size - (i + 1)) := by
      rw [show eso.size - i = (eso.size - (i + 1)) + 1 by omega, List.range'_succ] at hr
      injection hr with a b
      exact ⟨a, b⟩
    obtain ⟨rfl, rfl⟩ := hr2
    have he : eso[x]? = some eso[x] := Array.getElem?_eq_getElem hlt
    obtain ⟨k, hk1, hk2⟩ := hko eso[x] (Array.getElem_mem hlt)
    have hm : more[x]? = some (k, eso[x].val) := by
      obtain ⟨k', e1, e2⟩ := pairs_at hpo (i := x) (e := eso[x]) (by rw [Array.getElem?_toList]; exact he)
      rw [e2, knd.inj _ _ _ hk1 e1]
    refine wpAny_bind (wpAny_dictEntries hoo' hdo' ?_)
    rw [he]
    dsimp only
    refine wpAny_bind (wpAny_holding ?_)
    rw [if_neg Bool.false_ne_true, hk2]
    have hmem : k ∈ more.map (·.1) := List.mem_map.mpr ⟨_, List.mem_of_getElem? hm, rfl⟩
    refine put_new hk1 hd' ?_ ?_ fun h₂ hd₂ hs₂ => ?_
    · rw [List.map_append, List.mem_append, not_or]
      refine ⟨hnot k hmem, ?_⟩
      rw [List.map_take]
      exact not_in_take hno (by rw [List.getElem?_map, hm]; rfl)
    · rw [List.length_append, List.length_take]; omega
    · refine wpAny_bind (wpAny_dictEpoch (o := oo) ?_ hdo' ?_)
      · exact (hs₂.2 o (Ne.symm hdo)).trans hoo'
      · rw [if_neg (by simp)]
        refine wpAny_pure ⟨h₂, x + 1, rfl, rfl, hlt, ?_, (hs₂.2 o (Ne.symm hdo)).trans hoo', hs'.trans hs₂⟩
        rw [List.take_add_one, hm]
        simpa using hd₂
  · rintro b s' ⟨h', i, rfl, hr, hi, hd', _, hs'⟩
    have hz : eso.size - i = 0 := by
      have := congrArg List.length hr
      simpa using this.symm
    rw [List.take_of_length_le (by omega)] at hd'
    exact wpAny_pure (hQ h' hd' hs')

def kvP (kv : Int × Value) : Int × Option Str := (kv.1, match kv.2 with | .str x _ => some x | _ => none)
def kxP (kx : Int × Str) : Int × Option Str := (kx.1, some kx.2)
theorem keys_of_proj {kvs : List (Int × Value)} {kxs : List (Int × Str)} (h : kvs.map kvP = kxs.map kxP) : kvs.map (·.1) = kxs.map (·.1) := by
  have e1 : (kvs.map kvP).map (·.1) = kvs.map (·.1) := by rw [List.map_map]; rfl
  have e2 : (kxs.map kxP).map (·.1) = kxs.map (·.1) := by rw [List.map_map]; rfl
  rw [← e1, ← e2, h]

structure PairIs (prog : Program) (w : World) (p : Sem Value × Sem Value) (kx : Int × Str) : Prop where
  key : ∀ (A : Around) (E : Value → Shared → Prop) (s : Shared) (Q : Value → Shared → Prop), Q (.int kx.1 s.toks) { s with toks := s.toks + 1 } → wpAny (model prog w) A p.1 Q E s
  val : ∀ (A : Around) (E : Value → Shared → Prop) (s : Shared) (Q : Value → Shared → Prop), Q (.str kx.2 s.toks) { s with toks := s.toks + 1 } → wpAny (model prog w) A p.2 Q E s
inductive Alike {α β : Type} (R : α → β → Prop) : List α → List β → Prop
  | nil : Alike R [] []
  | cons {a : α} {b : β} {l : List α} {m : List β} : R a b → Alike R l m → Alike R (a :: l) (b :: m)
theorem Alike.length {α β : Type} {R : α → β → Prop} : ∀ {l : List α} {m : List β}, Alike R l m → l.length = m.length
  | _, _, .nil => rfl
  | _, _, .cons _ r => by rw [List.length_cons, List.length_cons, r.length]

def VsIs (v : Value × Value) (kx : Int × Str) : Prop := ∃ t u, v = (.int kx.1 t, .str kx.2 u)

theorem eval_pairs : ∀ {pairs : List (Sem Value × Sem Value)} {kxs : List (Int × Str)}, Alike (PairIs prog w) pairs kxs → ∀ {s : Shared} {Q : List (Value × Value) → Shared → Prop},
    (∀ vs tk, Alike VsIs vs kxs → Q vs { s with toks := tk }) → wpAny (model prog w) A (evalPairs pairs) Q E s
  | _, _, .nil, s, Q, hQ => by
    rw [evalPairs]
    exact wpAny_pure (hQ [] s.toks .nil)
  | _, _, .cons (a := p) (b := kx) hp r, s, Q, hQ => by
    rw [evalPairs]
    refine wpAny_bind (hp.key _ _ _ _ ?_)
    refine wpAny_bind (wpAny_holding (hp.val _ _ _ _ ?_))
    refine wpAny_bind (wpAny_holding (eval_pairs r fun vs tk hvs => wpAny_pure ?_))
    exact hQ _ tk (.cons ⟨_, _, rfl⟩ hvs)

theorem store_vs {d : Addr} : ∀ {vs : List (Value × Value)} {kxs : List (Int × Str)}, Alike VsIs vs kxs → ∀ {done : List (Int × Str)} {kvs : List (Int × Value)} {s : Shared} {Q : PUnit → Shared → Prop},
    kvs.map kvP = done.map kxP → ((done ++ kxs).map (·.1)).Nodup → (done ++ kxs).length ≤ sizeLine → s.heap.DictOf (intKind prog w) d kvs →
    (∀ kvs' h' tk, kvs'.map kvP = (done ++ kxs).map kxP → h'.DictOf (intKind prog w) d kvs' → Heap.SameBut d s.heap h' → Q PUnit.unit { s with heap := h', toks := tk }) →
    wpAny (model prog w) A (forIn vs PUnit.unit fun (x : Value × Value) (_ : PUnit) => (do dictSet d x.1 x.2; pure (ForInStep.yield PUnit.unit) : Sem (ForInStep PUnit))) Q E s
  | _, _, .nil, done, kvs, s, Q, hp, _, _, hm, hQ => by
    rw [List.forIn_nil]
    exact wpAny_pure (hQ kvs s.heap s.toks (by simpa using hp) hm (Heap.SameBut.refl _ _))
  | _, _, .cons (b := kx) (m := kxs) hv r, done, kvs, s, Q, hp, hn, hz, hm, hQ => by
    obtain ⟨t, u, rfl⟩ := hv
    rw [List.forIn_cons]
    have hnot : kx.1 ∉ kvs.map (·.1) := by
      rw [keys_of_proj hp]
      rw [List.map_append, List.nodup_append] at hn
      exact fun hm' => hn.2.2 _ hm' _ (by simp) rfl
    have hlen : kvs.length = done.length := by have := congrArg List.length hp; simpa using this
    refine wpAny_bind (wpAny_bind (wpAny_dictSet_pairs (knd := intKind prog w) (k := kx.1) (hsz := ?z) ?k hm fun h₁ hm₁ hs₁ => wpAny_pure ?r))
    case z => rw [List.length_append, List.length_cons] at hz; omega
    case k => simp [intKind, Value.isInt]
    dsimp only at hm₁
    rw [stored_new hnot] at hm₁
    refine store_vs r (done := done ++ [kx]) (kvs := kvs ++ [(kx.1, .str kx.2 u)]) ?_ (by simpa using hn) (by simpa using hz) hm₁ fun kvs' h' tk h1 h2 h3 => ?_
    · rw [List.map_append, List.map_append, hp]; rfl
    · exact hQ kvs' h' tk (by simpa using h1) h2 (hs₁.trans h3)

theorem store_long {d : Addr} (f : (Sem Value × Sem Value) → PUnit → Sem (ForInStep PUnit))
    (hf : ∀ p b, f p b = (do let kv ← p.1; let vv ← holding [kv] p.2; holding [kv, vv] (dictSet d kv vv); pure (ForInStep.yield PUnit.unit))) :
    ∀ {pairs : List (Sem Value × Sem Value)} {kxs : List (Int × Str)}, Alike (PairIs prog w) pairs kxs → ∀ {done : List (Int × Str)} {kvs : List (Int × Value)} {s : Shared} {Q : PUnit → Shared → Prop},
    kvs.map kvP = done.map kxP → ((done ++ kxs).map (·.1)).Nodup → (done ++ kxs).length ≤ sizeLine → s.heap.DictOf (intKind prog w) d kvs →
    (∀ kvs' h' tk, kvs'.map kvP = (done ++ kxs).map kxP → h'.DictOf (intKind prog w) d kvs' → Heap.SameBut d s.heap h' → Q PUnit.unit { s with heap := h', toks := tk }) →
    wpAny (model prog w) A (forIn pairs PUnit.unit f) Q E s
  | _, _, .nil, done, kvs, s, Q, hp, _, _, hm, hQ => by
    rw [List.forIn_nil]
    exact wpAny_pure (hQ kvs s.heap s.toks (by simpa using hp) hm (Heap.SameBut.refl _ _))
  | _, _, .cons (b := kx) (m := kxs) hv r, done, kvs, s, Q, hp, hn, hz, hm, hQ => by
    rw [List.forIn_cons, hf]
    have hnot : kx.1 ∉ kvs.map (·.1) := by
      rw [keys_of_proj hp]
      rw [List.map_append, List.nodup_append] at hn
      exact fun hm' => hn.2.2 _ hm' _ (by simp) rfl
    have hlen : kvs.length = done.length := by have := congrArg List.length hp; simpa using this
    refine wpAny_bind (wpAny_bind (hv.key _ _ _ _ (wpAny_bind (wpAny_holding (hv.val _ _ _ _ (wpAny_bind (wpAny_holding (wpAny_dictSet_pairs (knd := intKind prog w) (k := kx.1) (hsz := ?z) ?k hm fun h₁ hm₁ hs₁ => wpAny_pure ?r))))))))
    case z => rw [List.length_append, List.length_cons] at hz; omega
    case k => simp [intKind, Value.isInt]
    rw [stored_new hnot] at hm₁
    refine store_long f hf r (done := done ++ [kx]) (kvs := kvs ++ [(kx.1, .str kx.2 _)]) ?_ (by simpa using hn) (by simpa using hz) hm₁ fun kvs' h' tk h1 h2 h3 => ?_
    · rw [List.map_append, List.map_append, hp]; rfl
    · exact hQ kvs' h' tk (by simpa using h1) h2 (hs₁.trans h3)

theorem sub_consts {pairs : List (Sem Value × Sem Value)} {kxs : List (Int × Str)} {Q : Addr → Shared → Prop} (h : Alike (PairIs prog w) pairs kxs) (hn : (kxs.map (·.1)).Nodup) (hz : kxs.length ≤ sizeLine)
    (hQ : ∀ kvs h' tk, kvs.map kvP = kxs.map kxP → h'.DictOf (intKind prog w) s.heap.objs.size kvs → (∀ b o, s.heap.get? b = some o → h'.get? b = some o) → s.heap.objs.size < h'.objs.size → Q s.heap.objs.size { s with heap := h', toks := tk }) :
    wpAny (model prog w) A (subDict pairs) Q E s := by
  have hnew : (s.heap.push { cls := .type "dict", data := .dict #[] }).DictOf (intKind prog w) s.heap.objs.size [] :=
    ⟨_, #[], 0, Heap.get?_push_size _ rfl, ⟨rfl, rfl, rfl⟩, rfl, fun e he => by simp at he, .nil, List.nodup_nil⟩
  have fin : ∀ kvs' h' tk, kvs'.map kvP = ([] ++ kxs).map kxP → h'.DictOf (intKind prog w) s.heap.objs.size kvs' → Heap.SameBut s.heap.objs.size (s.heap.push { cls := .type "dict", data := .dict #[] }) h' → Q s.heap.objs.size { s with heap := h', toks := tk } := fun kvs' h' tk h1 h2 h3 =>
    hQ kvs' h' tk (by simpa using h1) h2 (fun b o e => (h3.2 b (Nat.ne_of_lt (Heap.lt_size e))).trans (Heap.get?_push_of_some _ e)) (by rw [h3.1, Heap.size_push]; exact Nat.lt_succ_self _)
  unfold subDict
  refine wpAny_bind (wpAny_alloc ?_)
  refine wpAny_bind (wpAny_holding ?_)
  by_cases hl : pairs.length ≤ 15
  · rw [if_pos hl]
    refine wpAny_bind (eval_pairs h fun vs tk hvs => wpAny_holding (wpAny_bind (store_vs hvs (done := []) (kvs := []) rfl (by simpa using hn) (by simpa using hz) hnew fun kvs' h' tk h1 h2 h3 => ?_)))
    exact wpAny_pure (wpAny_pure (fin kvs' h' tk h1 h2 h3))
  · rw [if_neg hl]
    refine wpAny_bind (wpAny_rule (wpAny_bind (store_long _ (fun p b => rfl) h (done := []) (kvs := []) rfl (by simpa using hn) (by simpa using hz) hnew fun kvs' h' tk h1 h2 h3 => ?_)))
    exact wpAny_pure (wpAny_pure (fin kvs' h' tk h1 h2 h3))

structure Base (h₀ h : Heap) : Prop where
  keep : ∀ b o, h₀.get? b = some o → h.get? b = some o
  size : h₀.objs.size ≤ h.objs.size
theorem Base.refl (h : Heap) : Base h h := ⟨fun _ _ e => e, Nat.le_refl _⟩
theorem Base.trans {h₀ h₁ h₂ : Heap} (a : Base h₀ h₁) (b : Base h₁ h₂) : Base h₀ h₂ := ⟨fun x o e => b.keep x o (a.keep x o e), Nat.le_trans a.size b.size⟩
theorem Base.but {h₀ h h' : Heap} {d : Addr} (a : Base h₀ h) (hs : Heap.SameBut d h h') (hd : h₀.objs.size ≤ d) : Base h₀ h' :=
  ⟨fun b o e => (hs.2 b (Nat.ne_of_lt (Nat.lt_of_lt_of_le (Heap.lt_size e) hd))).trans (a.keep b o e), by rw [hs.1]; exact a.size⟩

inductive MainIs (prog : Program) (w : World) (h₀ h : Heap) : Option Addr → List (Int × Str) → Prop
  | no : MainIs prog w h₀ h none []
  | yes {d : Addr} {kvs : List (Int × Value)} {done : List (Int × Str)} : kvs.map kvP = done.map kxP → done ≠ [] → h.DictOf (intKind prog w) d kvs → h₀.objs.size ≤ d → MainIs prog w h₀ h (some d) done

/-- what the flush of a run of pairs is to do -/
def FlushOk (prog : Program) (w : World) (A : Around) (E : Value → Shared → Prop) (h₀ : Heap) (F : List (Sem Value × Sem Value) → Option Addr → Sem (Option Addr)) : Prop :=
  ∀ (s : Shared) (run : List (Sem Value × Sem Value)) (main : Option Addr) (done kr : List (Int × Str)) (Q : Option Addr → Shared → Prop), Base h₀ s.heap → MainIs prog w h₀ s.heap main done → Alike (PairIs prog w) run kr → kr ≠ [] →
    ((done ++ kr).map (·.1)).Nodup → (done ++ kr).length ≤ sizeLine → (∀ main' h' tk, Base h₀ h' → MainIs prog w h₀ h' main' (done ++ kr) → Q main' { s with heap := h', toks := tk }) → wpAny (model prog w) A (F run main) Q E s

theorem display_loop {h₀ : Heap} {F : List (Sem Value × Sem Value) → Option Addr → Sem (Option Addr)} (hF : FlushOk prog w A E h₀ F) (f : (Option (Sem Value) × Sem Value) → (Option Addr × List (Sem Value × Sem Value)) → Sem (ForInStep (Option Addr × List (Sem Value × Sem Value))))
    (hf : ∀ (p : Sem Value × Sem Value) (main : Option Addr) (run : List (Sem Value × Sem Value)), f (some p.1, p.2) (main, run) =
      if (run ++ [p]).length == 17 then (do let m ← F (run ++ [p]) main; pure (.yield (m, []))) else pure (.yield (main, run ++ [p]))) :
    ∀ {pairs : List (Sem Value × Sem Value)} {kxs : List (Int × Str)}, Alike (PairIs prog w) pairs kxs → ∀ {main : Option Addr} {run : List (Sem Value × Sem Value)} {done kr : List (Int × Str)} {s : Shared} {Q : (Option Addr × List (Sem Value × Sem Value)) → Shared → Prop},
      Base h₀ s.heap → MainIs prog w h₀ s.heap main done → Alike (PairIs prog w) run kr → ((done ++ kr ++ kxs).map (·.1)).Nodup → (done ++ kr ++ kxs).length ≤ sizeLine →
      (∀ main' run' done' kr' h' tk, Base h₀ h' → MainIs prog w h₀ h' main' done' → Alike (PairIs prog w) run' kr' → done' ++ kr' = done ++ kr ++ kxs → Q (main', run') { s with heap := h', toks := tk }) →
      wpAny (model prog w) A (forIn (pairs.map fun p => (some p.1, p.2)) (main, run) f) Q E s
  | _, _, .nil, main, run, done, kr, s, Q, B, M, R, hn, hz, hQ => by
    rw [List.map_nil, List.forIn_nil]
    exact wpAny_pure (hQ main run done kr s.heap s.toks B M R (by simp))
  | _, _, .cons (a := p) (b := kx) (m := kxs) hp r, main, run, done, kr, s, Q, B, M, R, hn, hz, hQ => by
    rw [List.map_cons, List.forIn_cons, hf]
    have R' : Alike (PairIs prog w) (run ++ [p]) (kr ++ [kx]) := by
      clear hQ hn hz
      induction R with
      | nil => exact .cons hp .nil
      | cons a _ ih => exact .cons a ih
    have e : done ++ kr ++ kx :: kxs = done ++ (kr ++ [kx]) ++ kxs := by simp
    rw [e] at hn hz
    split
    · refine wpAny_bind (wpAny_bind (hF _ _ _ _ _ _ B M R' (by simp) ?_ ?_ fun main' h' tk B' M' => wpAny_pure ?_))
      · rw [List.map_append, List.nodup_append] at hn; exact hn.1
      · rw [List.length_append] at hz; omega
      · refine display_loop hF f hf r (main := main') (run := []) (done := done ++ (kr ++ [kx])) (kr := []) B' M' .nil (by simpa using hn) (by simpa using hz) fun m2 r2 d2 k2 h2 t2 b2 mm rr ee => ?_
        exact hQ m2 r2 d2 k2 h2 t2 b2 mm rr (by rw [ee]; simp)
    · refine wpAny_bind (wpAny_pure ?_)
      refine display_loop hF f hf r (main := main) (run := run ++ [p]) (done := done) (kr := kr ++ [kx]) B M R' hn hz fun m2 r2 d2 k2 h2 t2 b2 mm rr ee => ?_
      exact hQ m2 r2 d2 k2 h2 t2 b2 mm rr (by rw [ee]; simp)

theorem display_consts {pairs : List (Sem Value × Sem Value)} {kxs : List (Int × Str)} {Q : Value → Shared → Prop} (h : Alike (PairIs prog w) pairs kxs) (hn : (kxs.map (·.1)).Nodup) (hne : kxs ≠ []) (hz : kxs.length ≤ sizeLine)
    (hlow : sysModules < s.heap.objs.size)
    (hQ : ∀ d kvs h' tk, kvs.map kvP = kxs.map kxP → h'.DictOf (intKind prog w) d kvs → s.heap.objs.size ≤ d → Base s.heap h' → Q (.ref d) { s with heap := h', toks := tk }) :
    wpAny (model prog w) A (dictDisplay (pairs.map fun p => (some p.1, p.2))) Q E s := by
  unfold dictDisplay
  extract_lets F
  have hF : FlushOk prog w A E s.heap F := by
    intro s run main done kr Q B M R hr hn hz hQ
    have hrun : run.isEmpty = false := by
      cases R with
      | nil => exact absurd rfl hr
      | cons _ _ => rfl
    have hn2 : (kr.map (·.1)).Nodup := by rw [List.map_append, List.nodup_append] at hn; exact hn.2.1
    have hz2 : kr.length ≤ sizeLine := by rw [List.length_append] at hz; omega
    show wpAny (model prog w) A (F run main) Q E s
    unfold F
    rw [hrun, if_neg Bool.false_ne_true]
    cases M with
    | no =>
      refine wpAny_bind (sub_consts R hn2 hz2 fun kvs h' tk h1 h2 h3 h4 => wpAny_pure ?_)
      exact hQ _ h' tk (B.trans ⟨h3, Nat.le_of_lt h4⟩) (.yes (by simpa using h1) (by simpa using hr) h2 B.size)
    | yes m1 m2 m3 m4 =>
      rename_i d kvs
      refine wpAny_bind (wpAny_holding (sub_consts R hn2 hz2 fun kvs' h' tk h1 h2 h3 h4 => ?_))
      have hdo : d < s.heap.objs.size := by obtain ⟨o, _, _, ho, _⟩ := m3; exact Heap.lt_size ho
      have hd' : h'.DictOf (intKind prog w) d kvs := by
        obtain ⟨o, es, ep, ho, r⟩ := m3
        exact ⟨o, es, ep, h3 _ _ ho, r⟩
      have hne : kvs ≠ [] := by
        rintro rfl
        have := congrArg List.length m1
        cases done with
        | nil => exact m2 rfl
        | cons _ _ => simp at this
      have hl1 : kvs.length = done.length := by have := congrArg List.length m1; simpa using this
      have hl2 : kvs'.length = kr.length := by have := congrArg List.length h1; simpa using this
      refine wpAny_bind (wpAny_onRaise (wpAny_holding (merge_new (Nat.ne_of_lt hdo) ?_ hd' h2 hne ?_ ?_ fun h₂ e1 e2 => wpAny_pure ?_)))
      · rw [beq_eq_false_iff_ne]
        exact Nat.ne_of_gt (Nat.lt_of_lt_of_le hlow B.size)
      · rw [keys_of_proj h1, keys_of_proj m1]
        rw [List.map_append, List.nodup_append] at hn
        exact fun k hk hk' => hn.2.2 _ hk' _ hk rfl
      · rw [List.length_append] at hz; omega
      · refine hQ _ h₂ tk (Base.but (B.trans ⟨h3, Nat.le_of_lt h4⟩) e2 m4) (.yes ?_ (by simp [m2]) e1 m4)
        rw [List.map_append, List.map_append, m1, h1]
  refine wpAny_bind (display_loop (h₀ := s.heap) hF _ (fun p main run => ?_) h (main := none) (run := []) (done := []) (kr := []) (Base.refl _) .no .nil (by simpa using hn) (by simpa using hz) fun main' run' done' kr' h' tk B M R e => ?_)
  · rfl
  · dsimp only
    have fin : ∀ main'' h'' tk'', Base s.heap h'' → MainIs prog w s.heap h'' main'' kxs → wpAny (model prog w) A (match main'' with | some d => pure (Value.ref d) | none => newDict) Q E { s with heap := h'', toks := tk'' } := by
      intro main'' h'' tk'' B' M'
      cases M' with
      | no => exact absurd rfl hne
      | yes a b c d => exact wpAny_pure (hQ _ _ h'' tk'' a c d B')
    have e' : done' ++ kr' = kxs := by simpa using e
    show wpAny _ _ (F run' main' >>= fun m => match m with | some d => pure (Value.ref d) | none => newDict) _ _ _
    cases R with
    | nil =>
      have e2 : done' = kxs := by simpa using e'
      subst e2
      refine wpAny_bind ?_
      unfold F
      rw [if_pos (show ([] : List (Sem Value × Sem Value)).isEmpty = true from rfl)]
      exact wpAny_pure (fin main' h' tk B M)
    | cons a r =>
      refine wpAny_bind (hF _ _ _ _ _ _ B M (.cons a r) (by simp) (by rw [e']; exact hn) (by rw [e']; exact hz) fun main'' h'' tk'' B' M' => ?_)
      rw [e'] at M'
      exact fin main'' h'' tk'' B' M'

def constsOf : List (Option Expr) → List Expr → Option (List (Int × Str))
  | [], [] => some []
  | some (.Constant (.int k) _ _) :: ks, .Constant (.str x) _ _ :: vs => (constsOf ks vs).map ((k, x) :: ·)
  | _, _ => none
theorem consts_pairs {env : Env} {pos : Pos} : ∀ {keys : List (Option Expr)} {values : List Expr} {kxs : List (Int × Str)}, constsOf keys values = some kxs →
    ∃ pairs : List (Sem Value × Sem Value), (evalEachOpt keys env).zip ((evalEach values env).map fun v => do let x ← v; standAt pos; pure x) = pairs.map (fun p => (some p.1, p.2)) ∧ Alike (PairIs prog w) pairs kxs
  | [], [], kxs, h => by
    cases h
    exact ⟨[], rfl, .nil⟩
  | some (.Constant (.int k) kk kp) :: ks, .Constant (.str x) vk vp :: vs, kxs, h => by
    unfold constsOf at h
    obtain ⟨r, h1, rfl⟩ := Option.map_eq_some_iff.mp h
    obtain ⟨pairs, e, al⟩ := consts_pairs (env := env) (pos := pos) h1
    refine ⟨((eval (.Constant (.int k) kk kp) env, do let x ← eval (.Constant (.str x) vk vp) env; standAt pos; pure x)) :: pairs, ?_, .cons ⟨fun A E s Q hq => wpAny_Constant_int (env := env) (k := kk) (pos := kp) hq, fun A E s Q hq => wpAny_bind (wpAny_Constant_str (env := env) (k := vk) (pos := vp) (wpAny_bind (wpAny_standAt (wpAny_pure hq))))⟩ al⟩
    show (some (eval (.Constant (.int k) kk kp) env), _) :: ((evalEachOpt ks env).zip ((evalEach vs env).map fun v => do let x ← v; standAt pos; pure x)) = _
    rw [e]
    rfl

theorem eval_dict_consts {env : Env} {keys : List (Option Expr)} {values : List Expr} {pos : Pos} {kxs : List (Int × Str)} {Q : Value → Shared → Prop} (hc : constsOf keys values = some kxs) (hn : (kxs.map (·.1)).Nodup) (hne : kxs ≠ []) (hz : kxs.length ≤ sizeLine)
    (hlow : sysModules < s.heap.objs.size)
    (hQ : ∀ d kvs h' tk, kvs.map kvP = kxs.map kxP → h'.DictOf (intKind prog w) d kvs → s.heap.objs.size ≤ d → Base s.heap h' → Q (.ref d) { s with heap := h', toks := tk }) :
    wpAny (model prog w) A (eval (.Dict keys values pos) env) Q E s := by
  obtain ⟨pairs, e, al⟩ := consts_pairs (prog := prog) (w := w) (env := env) (pos := pos) hc
  rw [arm_eval_Dict, e]
  exact wpAny_bind (wpAny_standAt (display_consts al hn hne hz hlow hQ))
end
end Mine
end

/-! part BASE -/
section
set_option maxRecDepth 100000
open PySem PySem.W PyProof.Rows PySem.Calls
namespace Mine

/-! arguments and displays without a star -/
def noStar : List Expr → Bool
  | [] => true
  | .Starred .. :: _ => false
  | _ :: r => noStar r
def plains (es : List Expr) (env : Env) : List (Bool × Sem Value) := es.map fun e => (false, eval e env)
theorem starEach_plain (env : Env) : ∀ es : List Expr, noStar es = true → starEach es env = plains es env
  | [], _ => rfl
  | e :: r, h => by
    have hr : noStar r = true := by cases e <;> first | exact h | cases h
    have ih := starEach_plain env r hr
    cases e <;> first | (show (false, _) :: starEach r env = (false, _) :: plains r env; rw [ih]) | cases h
theorem back_plain (env : Env) (pos : Pos) (es : List Expr) (h : noStar es = true) : backTo pos (starEach es env) = plains es env := by
  rw [starEach_plain env es h]
  unfold backTo plains
  rw [List.map_map]
  rfl

section
variable {M : Model} {A : Around} {E : Value → Shared → Prop} {s : Shared} {env : Env} {pos : Pos}
theorem sp_nil {Q : List Value → Shared → Prop} (h : Q [] s) : wpAny M A (spliced (plains [] env)) Q E s := spliced_nil h
theorem sp_cons {e : Expr} {es : List Expr} {Q : List Value → Shared → Prop} (h : wpAny M A (eval e env) (fun v s₁ => wpAny M A (spliced (plains es env)) (fun vs s₂ => Q (v :: vs) s₂) E s₁) E s) :
    wpAny M A (spliced (plains (e :: es) env)) Q E s := spliced_cons h

theorem e_list {es : List Expr} {Q : Value → Shared → Prop} (h : wpAny M A (spliced (plains es env)) (fun vs s₁ => vs.length ≤ sizeLine ∧ Q (.ref s₁.heap.objs.size) { s₁ with heap := s₁.heap.push { cls := .type "list", data := .seq vs.toArray } }) E s)
    (hs : noStar es = true := by rfl) : wpAny M A (eval (.List es pos) env) Q E s := by
  refine wpAny_List ?_
  rw [back_plain env pos es hs]; exact h
theorem e_tuple {es : List Expr} {k : Nat} {Q : Value → Shared → Prop} (h : wpAny M A (spliced (plains es env)) (fun vs s₁ => vs.length ≤ sizeLine ∧ Q (.ref s₁.heap.objs.size) { s₁ with heap := s₁.heap.push { cls := .type "tuple", data := .seq vs.toArray } }) E s)
    (hs : noStar es = true := by rfl) : wpAny M A (eval (.Tuple es k pos) env) Q E s := by
  refine wpAny_Tuple ?_
  rw [back_plain env pos es hs]; exact h

theorem args_plain {f : Value} {es : List Expr} {Q : Args → Shared → Prop} (h : wpAny M A (spliced (plains es env)) (fun vs s' => Q ⟨vs, []⟩ s') E s) : wpAny M A (evalArgs f true (plains es env) []) Q E s := by
  unfold evalArgs
  have key : ∀ {K : List Value × Option Value → Sem Args}, wpAny M A (spliced (plains es env) >>= fun vs => pure (vs, none) >>= K) Q E s →
      wpAny M A (match true, plains es env with | true, [(true, x)] => x >>= fun v => pure ([], some v) >>= K | _, _ => spliced (plains es env) >>= fun vs => pure (vs, none) >>= K) Q E s := by
    intro K hk
    cases es with
    | nil => exact hk
    | cons e r => exact hk
  refine key ?_
  refine wpAny_bind (wpAny_mono h (fun vs s' h' => ?_) fun _ _ x => x)
  refine wpAny_holding ?_
  exact wpAny_bind (wpAny_pure (wpAny_bind (wpAny_pure (wpAny_pure h'))))
theorem any_plains (es : List Expr) : (plains es env).any (·.1) = false := by
  unfold plains
  rw [List.any_map]
  induction es with
  | nil => rfl
  | cons e r ih => rw [List.any_cons, ih]; rfl

theorem e_call_type {x : Str} {p : Pos} {es : List Expr} {T : String} {Q : Value → Shared → Prop} (hn : ∀ Q' : Value → Shared → Prop, Q' (.type T) s → wpAny M A (eval (.Name x p) env) Q' E s)
    (h : wpAny M A (spliced (plains es env)) (fun vs s₁ => wpAny M A (call (.type T) vs) Q E s₁) E s) (hs : noStar es = true := by rfl) :
    wpAny M A (eval (.Call (.Name x p) es [] pos) env) Q E s := by
  refine wpAny_Call_NameR (hn _ ?_)
  rw [back_plain env pos es hs]
  exact PySem.callWith_type (any_plains es) (args_plain h)
theorem e_call_builtin {x : Str} {p : Pos} {es : List Expr} {id : String} {Q : Value → Shared → Prop} (hn : ∀ Q' : Value → Shared → Prop, Q' (.builtin id) s → wpAny M A (eval (.Name x p) env) Q' E s)
    (h : wpAny M A (spliced (plains es env)) (fun vs s₁ => wpAny M A (call (.builtin id) vs) Q E s₁) E s) (hs : noStar es = true := by rfl) :
    wpAny M A (eval (.Call (.Name x p) es [] pos) env) Q E s := by
  refine wpAny_Call_NameR (hn _ ?_)
  rw [back_plain env pos es hs]
  exact callWith_builtin (any_plains es) (args_plain h)
theorem e_call_fn {x : Str} {p : Pos} {es : List Expr} {a : Addr} {Q : Value → Shared → Prop} (hn : ∀ Q' : Value → Shared → Prop, Q' (.ref a) s → wpAny M A (eval (.Name x p) env) Q' E s)
    (h : wpAny M A (spliced (plains es env)) (fun vs s₁ => (∃ o fd, s₁.heap.get? a = some o ∧ o.data = .func fd) ∧ wpAny M A (call (.ref a) vs) Q E s₁) E s) (hs : noStar es = true := by rfl) :
    wpAny M A (eval (.Call (.Name x p) es [] pos) env) Q E s := by
  refine wpAny_Call_NameR (hn _ ?_)
  rw [back_plain env pos es hs]
  unfold callWith
  refine wpAny_bind (wpAny_holding (wpAny_mono (args_plain (f := .ref a) (Q := fun x s₁ => (∃ o fd, s₁.heap.get? a = some o ∧ o.data = .func fd) ∧ wpAny M A (call (.ref a) x.pos x.kw) Q E s₁) h) (fun x s₁ h₁ => wpAny_bind (wpAny_standAt ?_)) fun _ _ x => x))
  obtain ⟨⟨o, fd, ho, hd⟩, h₁⟩ := h₁
  simp only [any_plains, List.any_nil, Bool.or_false]
  refine wpAny_bind (m := keeperOf (.ref a)) ?_
  unfold keeperOf
  refine wpAny_bind (wpAny_load ho ?_)
  rw [hd]
  refine wpAny_pure ?_
  have tail : ∀ {t : Sem Value}, wpAny M A t Q E s₁ → wpAny M A (t >>= fun r => holding [r] point >>= fun _ => pure r) Q E s₁ :=
    fun ht => wpAny_bind (wpAny_mono ht (fun r s₂ hr => wpAny_bind (wpAny_holding (wpAny_point (wpAny_pure hr)))) fun _ _ x => x)
  show wpAny M A (if _ > 30 then _ else _) Q E s₁
  split
  · exact tail h₁
  · refine tail ?_
    unfold callMarked
    exact wpAny_keep h₁
end
end Mine
end

/-! part HB -/
section
set_option maxRecDepth 100000
open PySem PySem.W PyProof.Rows PySem.Calls
namespace Mine
abbrev PR : Program := PySem.Challenge.pw_wc0011_01
def noDef : DefRec := ⟨Str.empty, ⟨[], [], none, [], [], none, []⟩, [], ⟨.function, [], false, false, []⟩, ⟨0, 0, 0, 0⟩⟩
def D (i : Nat) : DefRec := (PySem.defsOf PR).getD i noDef
def A (i : Nat) : Stmt := PR.main.body.getD i (.Pass ⟨0, 0, 0, 0⟩)
theorem body_eq : PR.main.body = A 0 :: ([D 0, D 1, D 2].map (·.stmt) ++ A 4 :: ([D 3, D 4, D 5, D 6, D 7].map (·.stmt) ++ A 10 :: A 11 :: ([D 8].map (·.stmt) ++ A 13 :: ([D 9].map (·.stmt) ++ A 15 :: [D 10, D 11, D 12, D 13].map (·.stmt))))) := by
  rfl
theorem plainD (i : Nat) (hi : i < 14) : (D i).Plain PR := by
  have : i = 0 ∨ i = 1 ∨ i = 2 ∨ i = 3 ∨ i = 4 ∨ i = 5 ∨ i = 6 ∨ i = 7 ∨ i = 8 ∨ i = 9 ∨ i = 10 ∨ i = 11 ∨ i = 12 ∨ i = 13 := by omega
  rcases this with rfl | rfl | rfl | rfl | rfl | rfl | rfl | rfl | rfl | rfl | rfl | rfl | rfl | rfl
  all_goals exact ⟨fun _ => rfl, by decide +kernel, by decide +kernel, by decide +kernel, by decide +kernel⟩
end Mine
end

/-! part HC -/
section
set_option maxRecDepth 100000
open PySem PySem.W PyProof.Rows PySem.Calls
namespace Mine
section
variable {prog : Program} {w : World} {A : Around} {E : Value → Shared → Prop} {s : Shared}
theorem cat_lists {l b : Addr} {xs ys : Array Value} {Q : Value → Shared → Prop} (hl : s.heap.IsList l xs) (hb : s.heap.IsList b ys) (hsz : xs.size + ys.size ≤ sizeLine)
    (h : Q (.ref s.heap.objs.size) { s with heap := s.heap.push { cls := .type "list", data := .seq (xs ++ ys) } }) :
    wpAny (model prog w) A (binaryOp .Add (.ref l) (.ref b)) Q E s := by
  obtain ⟨⟨cls, dd, data, sl⟩, ho, hc, n, hd⟩ := id hl
  obtain ⟨⟨cls2, dd2, data2, sl2⟩, ho2, hc2, n2, hd2⟩ := id hb
  simp only at hc hd hc2 hd2
  subst hc hd hc2 hd2
  exact concat_meets ⟨_, ho, rfl⟩ ⟨_, ho2, rfl⟩ noFill_list_add seq_list_add PySem.F.slot_list_add PySem.F.entry_list_add (PySem.F.args_list_add_2 _ _) (list_addW l b xs ys n n2 dd dd2 sl sl2 hsz) ⟨ho, ho2, h⟩

def setE : Expr := match Mine.A 13 with | .Assign _ v _ => v | _ => .Constant .none 0 ⟨0, 0, 0, 0⟩
def c8 (k : Int) : Bool := k == 832 || k == 833 || k == 8206 || k == 8207 || (8234 ≤ k && k ≤ 8238) || (8298 ≤ k && k ≤ 8303)

theorem ints_of_range {vs : Array Value} {a : Int} {n : Nat} (h : ItemsOf (fun i v => ∃ t, v = .int (a + i * 1) t) vs n) : IntsAre vs.toList ((List.range n).map fun (i : Nat) => a + (i : Int)) := by
  obtain ⟨h1, h2⟩ := h
  have key : ∀ (l : List Value) (k : Nat), (∀ j v, l[j]? = some v → ∃ t, v = Value.int (a + ((k + j : Nat) : Int)) t) → IntsAre l ((List.range' k l.length).map fun (i : Nat) => a + (i : Int)) := by
    intro l
    induction l with
    | nil => intro k _; exact .nil
    | cons v l ih =>
      intro k h
      obtain ⟨t, rfl⟩ := h 0 v rfl
      rw [List.length_cons, List.range'_succ, List.map_cons]
      refine .cons _ t (ih (k + 1) fun j v hj => ?_)
      obtain ⟨t, e⟩ := h (j + 1) v hj
      exact ⟨t, by rw [e, show k + 1 + j = k + (j + 1) by omega]⟩
  have := key vs.toList 0 (fun j v hj => by
    obtain ⟨t, e⟩ := h2 j v (by rw [← Array.getElem?_toList]; exact hj)
    exact ⟨t, by rw [e]; simp⟩)
  rw [Array.length_toList, h1, ← List.range_eq_range'] at this
  exact this

theorem eval_lr {mg mb : Str → Option Value} {c F : Addr} {x y : Int} {n : Nat} {k1 k2 : Nat} {p1 p2 p3 p4 q1 q2 : Pos} {Q : Value → Shared → Prop} (hh : A.handled = none) (hg : s.heap.Ns mainGlobals mg) (hb : s.heap.Ns builtinsNs mb)
    (m2 : mg "list" = none) (m3 : mg "range" = none) (b2 : mb "list" = some (.type "list")) (b3 : mb "range" = some (.type "range")) (hy : y = x + n) (hx : 0 ≤ x) (hx2 : x < 2 ^ 32) (hn : n ≤ 100)
    (hQ : ∀ a vs h' tk, h'.IsList a vs → IntsAre vs.toList ((List.range n).map fun (i : Nat) => x + (i : Int)) → Base s.heap h' → Q (.ref a) { s with heap := h', toks := tk }) :
    wpAny (model prog w) A (eval (.Call (.Name "list" p1) [.Call (.Name "range" p2) [.Constant (.int x) k1 p3, .Constant (.int y) k2 p4] [] q1] [] q2) (mainEnv PR c F)) Q E s := by
  refine e_call_type (fun Q' q => Name_module rfl rfl (loadGlobal_builtin hg m2 hb b2 q)) (sp_cons ?_)
  refine e_call_type (fun Q' q => Name_module rfl rfl (loadGlobal_builtin hg m3 hb b3 q)) (sp_cons ?_)
  refine wpAny_Constant_int (sp_cons (wpAny_Constant_int (sp_nil (call_range_2 (sp_nil ?_)))))
  refine call_list_range (n := n) hh (IsRange.new _ _ _ _ _ _ _) (small_one (by omega) (by omega) (by omega) (by omega)) ?_ (by omega) fun h' tk acc c' h1 h2 h3 => ?_
  · rw [rangeSize_one, hy]; split <;> omega
  · refine hQ _ acc h' tk ⟨_, h2, rfl, c', rfl⟩ (ints_of_range h3) ⟨fun b o e => h1 b o (Heap.get?_push_of_some _ e), ?_⟩
    have := Heap.lt_size h2
    rw [Heap.size_push] at this
    exact Nat.le_of_lt (Nat.lt_of_succ_lt this)

theorem list_keep {h h' : Heap} {a : Addr} {v : Array Value} (x : h.IsList a v) (B : Base h h') : h'.IsList a v := let ⟨o, ho, r⟩ := x; ⟨o, B.keep _ _ ho, r⟩
theorem push_base (h : Heap) (o : Obj) : Base h (h.push o) := ⟨fun _ _ e => Heap.get?_push_of_some _ e, by rw [Heap.size_push]; exact Nat.le_succ _⟩
theorem ints_append : ∀ {vs ws : List Value} {ns ms : List Int}, IntsAre vs ns → IntsAre ws ms → IntsAre (vs ++ ws) (ns ++ ms) := fun h h' => h.append h'

theorem eval_set {mg mb : Str → Option Value} {c F : Addr} {Q : Value → Shared → Prop} (hh : A.handled = none) (hg : s.heap.Ns mainGlobals mg) (hb : s.heap.Ns builtinsNs mb)
    (m1 : mg "set" = none) (m2 : mg "list" = none) (m3 : mg "range" = none) (b1 : mb "set" = some (.type "set")) (b2 : mb "list" = some (.type "list")) (b3 : mb "range" = some (.type "range"))
    (hQ : ∀ a S n h' tk, h'.SetOf (intKind prog w) a S n → (∀ k, S k = c8 k) → s.heap.objs.size ≤ a → Base s.heap h' → Q (.ref a) { s with heap := h', toks := tk }) :
    wpAny (model prog w) A (eval setE (mainEnv PR c F)) Q E s := by
  refine e_call_type (fun Q' q => Name_module rfl rfl (loadGlobal_builtin hg m1 hb b1 q)) (sp_cons ?_)
  refine wpAny_BinOp (wpAny_BinOp (e_list (sp_cons (wpAny_Constant_int (sp_cons (wpAny_Constant_int (sp_cons (wpAny_Constant_int (sp_cons (wpAny_Constant_int (sp_nil ⟨by size_fits, ?_⟩)))))))))))
  dsimp only
  have B1 : Base s.heap (s.heap.push { cls := .type "list", data := .seq [Value.int 832 s.toks, Value.int 833 (s.toks + 1), Value.int 8206 (s.toks + 1 + 1), Value.int 8207 (s.toks + 1 + 1 + 1)].toArray }) :=
    ⟨fun b o e => Heap.get?_push_of_some _ e, by rw [Heap.size_push]; exact Nat.le_succ _⟩
  have L1 : (s.heap.push { cls := .type "list", data := .seq [Value.int 832 s.toks, Value.int 833 (s.toks + 1), Value.int 8206 (s.toks + 1 + 1), Value.int 8207 (s.toks + 1 + 1 + 1)].toArray }).IsList s.heap.objs.size _ := ⟨_, Heap.get?_push_size _ rfl, rfl, 0, rfl⟩
  have I1 : IntsAre [Value.int 832 s.toks, Value.int 833 (s.toks + 1), Value.int 8206 (s.toks + 1 + 1), Value.int 8207 (s.toks + 1 + 1 + 1)] [832, 833, 8206, 8207] := .cons _ _ (.cons _ _ (.cons _ _ (.cons _ _ .nil)))
  refine eval_lr (n := 5) hh (hg.keeps B1.keep) (hb.keeps B1.keep) m2 m3 b2 b3 (by rfl) (by decide) (by decide) (by decide) fun a₂ vs₂ h₂ tk₂ L2 I2 B2 => ?_
  have hs2 : vs₂.size = 5 := by have := I2.length; simpa using this
  refine cat_lists (list_keep L1 B2) L2 (by rw [hs2]; size_fits) ?_
  dsimp only
  have B3 : Base h₂ (h₂.push { cls := .type "list", data := .seq ([Value.int 832 s.toks, Value.int 833 (s.toks + 1), Value.int 8206 (s.toks + 1 + 1), Value.int 8207 (s.toks + 1 + 1 + 1)].toArray ++ vs₂) }) :=
    ⟨fun b o e => Heap.get?_push_of_some _ e, by rw [Heap.size_push]; exact Nat.le_succ _⟩
  have B13 := (B1.trans B2).trans B3
  refine eval_lr (n := 6) hh (hg.keeps B13.keep) (hb.keeps B13.keep) m2 m3 b2 b3 (by rfl) (by decide) (by decide) (by decide) fun a₃ vs₃ h₃ tk₃ L3 I3 B4 => ?_
  have hs3 : vs₃.size = 6 := by have := I3.length; simpa using this
  have L4 : h₃.IsList h₂.objs.size ([Value.int 832 s.toks, Value.int 833 (s.toks + 1), Value.int 8206 (s.toks + 1 + 1), Value.int 8207 (s.toks + 1 + 1 + 1)].toArray ++ vs₂) := list_keep ⟨_, Heap.get?_push_size _ rfl, rfl, 0, rfl⟩ B4
  refine cat_lists L4 L3 (by rw [Array.size_append, hs2, hs3]; size_fits) (sp_nil ?_)
  dsimp only
  have B5 : Base h₃ (h₃.push { cls := .type "list", data := .seq ([Value.int 832 s.toks, Value.int 833 (s.toks + 1), Value.int 8206 (s.toks + 1 + 1), Value.int 8207 (s.toks + 1 + 1 + 1)].toArray ++ vs₂ ++ vs₃) }) :=
    ⟨fun b o e => Heap.get?_push_of_some _ e, by rw [Heap.size_push]; exact Nat.le_succ _⟩
  have I5 : IntsAre ([Value.int 832 s.toks, Value.int 833 (s.toks + 1), Value.int 8206 (s.toks + 1 + 1), Value.int 8207 (s.toks + 1 + 1 + 1)].toArray ++ vs₂ ++ vs₃).toList (([832, 833, 8206, 8207] ++ (List.range 5).map fun (i : Nat) => (8234 : Int) + (i : Int)) ++ (List.range 6).map fun (i : Nat) => (8298 : Int) + (i : Int)) := by
    rw [Array.toList_append, Array.toList_append]
    exact (I1.append I2).append I3
  refine call_set_list (ns := _) hh ⟨_, Heap.get?_push_size _ rfl, rfl, 0, rfl⟩ I5 ?_ fun h' tk hS hk => ?_
  · rw [Array.size_append, Array.size_append, hs2, hs3]; exact (by decide : 4 + 5 + 6 + 1 < scanBound)
  · have B6 := (B13.trans B4).trans B5
    refine hQ _ _ _ h' tk hS (fun k => ?_) B6.size ⟨fun b o e => hk b o (Heap.lt_size (B6.keep b o e)) (B6.keep b o e), ?_⟩
    · have e : ([Value.int 832 s.toks, Value.int 833 (s.toks + 1), Value.int 8206 (s.toks + 1 + 1), Value.int 8207 (s.toks + 1 + 1 + 1)].toArray ++ vs₂ ++ vs₃).size = 15 := by
        rw [Array.size_append, Array.size_append, hs2, hs3]; rfl
      rw [e]
      have e2 : firstMet (fun i => (([832, 833, 8206, 8207] ++ (List.range 5).map fun (i : Nat) => (8234 : Int) + (i : Int)) ++ (List.range 6).map fun (i : Nat) => (8298 : Int) + (i : Int)).getD i 0) 15 = [832, 833, 8206, 8207, 8234, 8235, 8236, 8237, 8238, 8298, 8299, 8300, 8301, 8302, 8303] := by decide +kernel
      rw [e2, Bool.eq_iff_iff]
      simp only [c8, List.any_cons, List.any_nil, Bool.or_false, Bool.or_eq_true, Bool.and_eq_true, beq_iff_eq, decide_eq_true_eq]
      omega
    · obtain ⟨o, es, ep, t, ho, _⟩ := hS
      exact Nat.le_of_lt (Nat.lt_of_le_of_lt B6.size (Heap.lt_size ho))
end
end Mine
end

/-! part HE -/
section
set_option maxRecDepth 100000
open PySem PySem.W PyProof.Rows PySem.Calls
namespace Mine

structure TS (h₁ : Heap) (mg₀ : Str → Option Value) (c Pl : Addr) (done : List DefRec) (extra : List Str) (mg : Str → Option Value) (l : List (Pos × Addr)) (h : Heap) : Prop where
  main : h.Main mg c Pl (triples l).toArray
  lines : l.map (fun q => q.1.line) = done.map (fun d => d.pos.line)
  fns : ∀ e ∈ done, h.HasFn mg Pl e
  keep : ∀ b o, b ≠ Pl → b ≠ mainGlobals → h₁.get? b = some o → h.get? b = some o
  off : ∀ x, x ∉ done.map (·.name) → x ∉ extra → mg x = mg₀ x
  size : h₁.objs.size ≤ h.objs.size

section
variable {w : World} {A : Around} {E : Value → Shared → Prop} {s : Shared} {h₁ : Heap} {mg₀ mg : Str → Option Value} {c Pl F : Addr} {done : List DefRec} {extra : List Str} {l : List (Pos × Addr)}

theorem hasFn_keep {h h' : Heap} {mg mg' : Str → Option Value} {e : DefRec} (hlow : mainGlobals < Pl) (H : h.HasFn mg Pl e) (hm : mg' e.name = mg e.name) (keep : ∀ b o, b ≠ Pl → b ≠ mainGlobals → h.get? b = some o → h'.get? b = some o) : h'.HasFn mg' Pl e := by
  obtain ⟨a₀, o₀, pm₀, cd₀, doc₀, hb₀, ho₀, hd₀, hc₀, la₀, lc₀⟩ := H
  exact ⟨a₀, o₀, pm₀, cd₀, doc₀, hm.trans hb₀, keep _ _ (Nat.ne_of_gt la₀) (Nat.ne_of_gt (Nat.lt_trans hlow la₀)) ho₀, hd₀,
    hc₀.at fun o => keep _ o (Nat.ne_of_gt lc₀) (Nat.ne_of_gt (Nat.lt_trans hlow lc₀)), la₀, lc₀⟩

theorem def_step {d : DefRec} {Q : Flow → Shared → Prop} (T : TS h₁ mg₀ c Pl done extra mg l s.heap) (hd : d.Plain PR) (hn : d.name ∉ done.map (·.name)) (hl : d.pos.line ∉ done.map (fun d => d.pos.line))
    (h : ∀ h' tk mg' l', TS h₁ mg₀ c Pl (done ++ [d]) extra mg' l' h' → (∀ x, x ≠ d.name → mg' x = mg x) → (∀ b o, b ≠ Pl → b ≠ mainGlobals → s.heap.get? b = some o → h'.get? b = some o) → Q .next { s with heap := h', toks := tk }) :
    wpAny (model PR w) A (exec d.stmt (mainEnv PR c F)) Q E s := by
  have hPl : Pl < s.heap.objs.size := T.main.code.lt.2
  refine wpAny_def hd rfl T.main ?_ fun a c' doc h' tk ha hm' hf hc keep => ?_
  · rw [List.toList_toArray]
    refine codeAmong_triples _ _ fun q hq e => hl ?_
    rw [← T.lines]
    exact List.mem_map.mpr ⟨q, hq, e.1⟩
  · have eoff : ∀ x, x ≠ d.name → (fun x => if x = d.name then some (.ref a) else mg x) x = mg x := fun x hx => if_neg hx
    refine h h' tk (fun x => if x = d.name then some (.ref a) else mg x) (l ++ [(d.pos, c')]) ⟨?_, ?_, ?_, ?_, ?_, ?_⟩ eoff keep
    · rw [triples_append]; simpa using hm'
    · rw [List.map_append, List.map_append, T.lines]; rfl
    · intro e he
      rcases List.mem_append.mp he with h1 | h1
      · exact hasFn_keep T.main.low.2 (T.fns e h1) (eoff e.name fun x => hn (List.mem_map.mpr ⟨e, h1, x⟩)) keep
      · obtain rfl : e = d := by simpa using h1
        exact ⟨a, _, _, c', doc, by simp, hf, rfl, hc.2, Nat.lt_of_lt_of_le hPl ha, Nat.lt_of_lt_of_le hPl hc.1⟩
    · exact fun b o h1 h2 e => keep b o h1 h2 (T.keep b o h1 h2 e)
    · intro x hx hx'
      rw [List.map_append, List.mem_append, not_or] at hx
      exact (eoff x (by simpa using hx.2)).trans (T.off x hx.1 hx')
    · exact Nat.le_trans T.size (Nat.le_trans ha (Nat.le_of_lt (Heap.lt_size hf)))

theorem defs_step : ∀ {ds done : List DefRec} {mg : Str → Option Value} {l : List (Pos × Addr)} {s : Shared} {Q : Flow → Shared → Prop}, TS h₁ mg₀ c Pl done extra mg l s.heap → (∀ d ∈ ds, d.Plain PR) → ((done ++ ds).map (·.name)).Nodup → ((done ++ ds).map (fun d => d.pos.line)).Nodup →
    (∀ h' tk mg' l', TS h₁ mg₀ c Pl (done ++ ds) extra mg' l' h' → (∀ x, x ∉ ds.map (·.name) → mg' x = mg x) → (∀ b o, b ≠ Pl → b ≠ mainGlobals → s.heap.get? b = some o → h'.get? b = some o) → Q .next { s with heap := h', toks := tk }) →
    wpAny (model PR w) A (execs (ds.map (·.stmt)) (mainEnv PR c F)) Q E s
  | [], done, mg, l, s, Q, T, _, _, _, h => by
    refine wpAny_execs_nil ?_
    exact h s.heap s.toks mg l (by simpa using T) (fun _ _ => rfl) (fun _ _ _ _ e => e)
  | d :: ds, done, mg, l, s, Q, T, hp, hn, hl, h => by
    have nd : ∀ {α : Type} (f : DefRec → α), ((done ++ d :: ds).map f).Nodup → f d ∉ done.map f := by
      intro α f hx hm
      rw [List.map_append, List.nodup_append] at hx
      exact hx.2.2 _ hm _ (by simp) rfl
    refine wpAny_execs_cons (def_step T (hp d (by simp)) (nd _ hn) (nd _ hl) fun h' tk mg' l' T' hm' keep => ?_)
    refine defs_step (s := { s with heap := h', toks := tk }) T' (fun e he => hp e (by simp [he])) (by simpa using hn) (by simpa using hl) fun h'' tk' mg'' l'' T'' hm'' keep' => ?_
    refine h h'' tk' mg'' l'' (by simpa using T'') (fun x hx => ?_) fun b o h1 h2 e => keep' b o h1 h2 (keep b o h1 h2 e)
    rw [List.map_cons, List.mem_cons, not_or] at hx
    exact (hm'' x hx.2).trans (hm' x hx.1)

theorem store_step {x : Str} {v : Value} {Q : Unit → Shared → Prop} (T : TS h₁ mg₀ c Pl done extra mg l s.heap) (hk : (mainEnv PR c F).kindOf x = some .local) (hx : x ∉ done.map (·.name)) (hb : x ≠ "__builtins__")
    (h : ∀ h' tk, TS h₁ mg₀ c Pl done (extra ++ [x]) (fun y => if y = x then some v else mg y) l h' → (∀ b o, b ≠ Pl → b ≠ mainGlobals → s.heap.get? b = some o → h'.get? b = some o) → Q () { s with heap := h', toks := tk }) :
    wpAny (model PR w) A (storeName (mainEnv PR c F) x v) Q E s := by
  refine wpAny_storeName_local hk T.main.g (fun h' hns hs => ?_) (by rfl)
  have keep : ∀ b o, b ≠ Pl → b ≠ mainGlobals → s.heap.get? b = some o → h'.get? b = some o := fun b o _ h2 e => (hs.2 b h2).trans e
  obtain ⟨bm, o, hbm, hne0, hneG, hneP, hbo, hrest⟩ := T.main.bmod
  refine h h' _ ⟨⟨hns, T.main.code.sameBut hs (Nat.ne_of_gt T.main.low.1) (Nat.ne_of_gt T.main.low.2), T.main.low, ⟨bm, o, ?_, hne0, hneG, hneP, (hs.2 _ hneG).trans hbo, hrest⟩⟩, T.lines, ?_, ?_, ?_, ?_⟩ keep
  · simp only [Ne.symm hb, if_false]; exact hbm
  · exact fun e he => hasFn_keep T.main.low.2 (T.fns e he) (if_neg fun q => hx (List.mem_map.mpr ⟨e, he, q⟩)) keep
  · exact fun b o h1 h2 e => keep b o h1 h2 (T.keep b o h1 h2 e)
  · intro y hy hy'
    rw [List.mem_append, not_or] at hy'
    exact (if_neg (by simpa using hy'.2)).trans (T.off y hy hy'.1)
  · rw [hs.1]; exact T.size
end
end Mine
end

/-! part HF -/
section
set_option maxRecDepth 100000
open PySem PySem.W PyProof.Rows PySem.Calls
namespace Mine

def valOf (i : Nat) : Expr := match Mine.A i with | .Assign _ v _ => v | _ => .Constant .none 0 ⟨0, 0, 0, 0⟩
def keysOf (e : Expr) : List (Option Expr) := match e with | .Dict ks _ _ => ks | _ => []
def valsOf (e : Expr) : List Expr := match e with | .Dict _ vs _ => vs | _ => []
def posOf (e : Expr) : Pos := match e with | .Dict _ _ p => p | _ => ⟨0, 0, 0, 0⟩
def namePos (i : Nat) : Pos := match Mine.A i with | .Assign [.Name _ p] _ _ => p | _ => ⟨0, 0, 0, 0⟩
def stmtPos (i : Nat) : Pos := match Mine.A i with | .Assign _ _ p => p | _ => ⟨0, 0, 0, 0⟩
def b3 : List (Int × Str) := (constsOf (keysOf (valOf 11)) (valsOf (valOf 11))).getD []
def rising : List Int → Bool
  | x :: y :: r => decide (x < y) && rising (y :: r)
  | _ => true
theorem rising_pairwise : ∀ {l : List Int}, rising l = true → l.Pairwise (· < ·)
  | [], _ => .nil
  | [x], _ => .cons (fun _ h => nomatch h) .nil
  | x :: y :: r, h => by
    have h' := Bool.and_eq_true_iff.mp h
    have ih := rising_pairwise h'.2
    have h1 : x < y := of_decide_eq_true h'.1
    refine .cons (fun z hz => ?_) ih
    rcases List.mem_cons.mp hz with rfl | hz
    · exact h1
    · exact Int.lt_trans h1 ((List.pairwise_cons.mp ih).1 z hz)
theorem b3_rising : rising (b3.map (·.1)) = true := by decide +kernel
theorem b3_nodup : (b3.map (·.1)).Nodup := (rising_pairwise b3_rising).imp fun h e => by omega
theorem b3_len : b3.length = 650 := by decide +kernel
theorem b3_consts : constsOf (keysOf (valOf 11)) (valsOf (valOf 11)) = some b3 := by
  have h : (constsOf (keysOf (valOf 11)) (valsOf (valOf 11))).isSome = true := by decide +kernel
  obtain ⟨x, hx⟩ := Option.isSome_iff_exists.mp h
  rw [b3, hx]; rfl
theorem a11 : Mine.A 11 = .Assign [.Name "b3_exceptions" (namePos 11)] (.Dict (keysOf (valOf 11)) (valsOf (valOf 11)) (posOf (valOf 11))) (stmtPos 11) := by
  kernel_rfl

def theDefs : List DefRec := [D 0, D 1, D 2, D 3, D 4, D 5, D 6, D 7, D 8, D 9, D 10, D 11, D 12, D 13]
def theNames : List Str := ["__name__", "b3_exceptions", "c8_set"]
theorem defs_names : (theDefs.map (·.name)).Nodup := by decide +kernel
theorem defs_lines : (theDefs.map (fun d => d.pos.line)).Nodup := by decide +kernel

structure GL (w : World) (h : Heap) (mg mb : Str → Option Value) : Prop where
  g : h.Ns mainGlobals mg
  b : h.Ns builtinsNs mb
  hb : ∀ x : Str, x ≠ "__name__" → mb x = bootBuiltins x
  lim : h.NoLimit
  fn : ∀ d ∈ theDefs, h.HasFn mg 0 d
  b3 : ∃ d kvs, mg "b3_exceptions" = some (.ref d) ∧ h.DictOf (intKind PR w) d kvs ∧ kvs.map kvP = Mine.b3.map kxP ∧ sysModules < d
  c8 : ∃ a S n, mg "c8_set" = some (.ref a) ∧ h.SetOf (intKind PR w) a S n ∧ ∀ k, S k = Mine.c8 k
  off : ∀ x, x ∉ theDefs.map (·.name) → x ∉ theNames → x ∉ bootMainNames → mg x = none
  low : sysModules < h.objs.size

theorem sw11 (c F : Addr) : swapsWith (.Dict (keysOf (valOf 11)) (valsOf (valOf 11)) (posOf (valOf 11))) (some (.Name "b3_exceptions" (namePos 11))) (stmtPos 11).line (mainEnv PR c F) = pure false := by kernel_rfl
theorem exec_dict {w : World} {A : Around} {E : Value → Shared → Prop} {s : Shared} {c F : Addr} {Q : Flow → Shared → Prop} (hlow : sysModules < s.heap.objs.size)
    (hQ : ∀ d kvs h' tk, kvs.map kvP = b3.map kxP → h'.DictOf (intKind PR w) d kvs → s.heap.objs.size ≤ d → Base s.heap h' → wpAny (model PR w) A (storeName (mainEnv PR c F) "b3_exceptions" (.ref d)) (fun _ => Q .next) E { s with heap := h', toks := tk }) :
    wpAny (model PR w) A (exec (Mine.A 11) (mainEnv PR c F)) Q E s := by
  rw [a11]
  generalize hk : keysOf (valOf 11) = ks
  generalize hv : valsOf (valOf 11) = vs
  have hc := b3_consts
  have hsw := sw11 c F
  rw [hk, hv] at hc hsw
  refine wpAny_Assign_Name ?_ hsw
  exact eval_dict_consts (kxs := b3) hc b3_nodup (fun e => by have := b3_len; rw [e] at this; cases this) (by rw [b3_len]; exact (by size_fits : 650 ≤ sizeLine)) hlow hQ
theorem exec_set {w : World} {A : Around} {E : Value → Shared → Prop} {s : Shared} {c F : Addr} {mg mb : Str → Option Value} {Q : Flow → Shared → Prop} (hh : A.handled = none) (hg : s.heap.Ns mainGlobals mg) (hb : s.heap.Ns builtinsNs mb)
    (m1 : mg "set" = none) (m2 : mg "list" = none) (m3 : mg "range" = none) (b1 : mb "set" = some (.type "set")) (b2 : mb "list" = some (.type "list")) (b3 : mb "range" = some (.type "range"))
    (hQ : ∀ a S n h' tk, h'.SetOf (intKind PR w) a S n → (∀ k, S k = c8 k) → s.heap.objs.size ≤ a → Base s.heap h' → wpAny (model PR w) A (storeName (mainEnv PR c F) "c8_set" (.ref a)) (fun _ => Q .next) E { s with heap := h', toks := tk }) :
    wpAny (model PR w) A (exec (Mine.A 13) (mainEnv PR c F)) Q E s := by
  refine wpAny_Assign_Name ?_
  exact eval_set hh hg hb m1 m2 m3 b1 b2 b3 hQ
theorem exec_name {w : World} {A : Around} {E : Value → Shared → Prop} {s : Shared} {c F : Addr} {Q : Flow → Shared → Prop} (i : Nat) (hi : i = 0 ∨ i = 4 ∨ i = 10 ∨ i = 15)
    (hQ : ∀ x, wpAny (model PR w) A (storeName (mainEnv PR c F) "__name__" (.str x s.toks)) (fun _ => Q .next) E { s with toks := s.toks + 1 }) :
    wpAny (model PR w) A (exec (Mine.A i) (mainEnv PR c F)) Q E s := by
  rcases hi with rfl | rfl | rfl | rfl
  all_goals exact wpAny_Assign_Name (wpAny_Constant_str (hQ _))
end Mine
end

/-! part HG -/
section
set_option maxRecDepth 100000
open PySem PySem.W PyProof.Rows PySem.Calls
namespace Mine
theorem execs_app (env : Env) (rest : List Stmt) : ∀ ds : List Stmt, execs (ds ++ rest) env = (execs ds env >>= fun f => match f with | .next => execs rest env | f => pure f)
  | [] => by
    show execs rest env = (pure Flow.next >>= fun f => match f with | .next => execs rest env | f => pure f)
    rw [pure_bind]
  | d :: ds => by
    rw [List.cons_append, execs_cons, execs_cons, bind_assoc]
    refine congrArg _ (funext fun f => ?_)
    cases f with
    | next => exact execs_app env rest ds
    | brk => rw [pure_bind]
    | cont => rw [pure_bind]
    | ret v => rw [pure_bind]
theorem wp_app {M : Model} {A : Around} {E : Value → Shared → Prop} {s : Shared} {env : Env} {ds rest : List Stmt} {Q : Flow → Shared → Prop}
    (h : wpAny M A (execs ds env) (fun f s' => f = .next ∧ wpAny M A (execs rest env) Q E s') E s) : wpAny M A (execs (ds ++ rest) env) Q E s := by
  rw [execs_app]
  refine wpAny_bind (wpAny_mono h (fun f s' x => ?_) fun _ _ x => x)
  obtain ⟨rfl, x⟩ := x
  exact x

theorem TS.base {h₁ : Heap} {mg₀ mg : Str → Option Value} {c Pl : Addr} {done : List DefRec} {extra : List Str} {l : List (Pos × Addr)} {h h' : Heap} (T : TS h₁ mg₀ c Pl done extra mg l h) (B : Base h h') : TS h₁ mg₀ c Pl done extra mg l h' := by
  obtain ⟨bm, o, hbm, hne0, hneG, hneP, hbo, hrest⟩ := T.main.bmod
  exact ⟨⟨T.main.g.keeps B.keep, T.main.code.keeps B.keep, T.main.low, ⟨bm, o, hbm, hne0, hneG, hneP, B.keep _ _ hbo, hrest⟩⟩, T.lines,
    fun e he => hasFn_keep T.main.low.2 (T.fns e he) rfl fun b o _ _ x => B.keep b o x, fun b o h1 h2 e => B.keep b o (T.keep b o h1 h2 e), T.off, Nat.le_trans T.size B.size⟩
theorem dict_at {prog : Program} {w : World} {h h' : Heap} {d : Addr} {kvs : List (Int × Value)} (H : h.DictOf (intKind prog w) d kvs) (k : ∀ o, h.get? d = some o → h'.get? d = some o) : h'.DictOf (intKind prog w) d kvs :=
  let ⟨o, es, ep, ho, r⟩ := H; ⟨o, es, ep, k o ho, r⟩
theorem set_at {prog : Program} {w : World} {h h' : Heap} {a : Addr} {S : Int → Bool} {n : Nat} (H : h.SetOf (intKind prog w) a S n) (k : ∀ o, h.get? a = some o → h'.get? a = some o) : h'.SetOf (intKind prog w) a S n :=
  let ⟨o, es, ep, t, ho, r⟩ := H; ⟨o, es, ep, t, k o ho, r⟩

section
variable {w : World} {A : Around} {E : Value → Shared → Prop} {s : Shared} {mg₀ mb : Str → Option Value} {c Pl F : Addr}

structure TopEnd (w : World) (h₁ : Heap) (mg₀ mb : Str → Option Value) (Pl : Addr) (h : Heap) (mg : Str → Option Value) : Prop where
  gl : GL w h mg mb
  keep : ∀ b o, b ≠ Pl → b ≠ mainGlobals → h₁.get? b = some o → h.get? b = some o
  off : ∀ x, x ∉ theDefs.map (·.name) → x ∉ theNames → mg x = mg₀ x
  bmod : ∃ bm o, mg "__builtins__" = some (.ref bm) ∧ h.get? bm = some o ∧ o.cls = .type "module" ∧ o.dict = some builtinsNs

theorem top_body (hh : A.handled = none) (hm : s.heap.Main mg₀ c Pl #[]) (hmiss : ∀ x, x ∉ bootMainNames → mg₀ x = none) (hb : s.heap.Ns builtinsNs mb) (hbo : ∀ x : Str, x ≠ "__name__" → mb x = bootBuiltins x) (hlim : s.heap.NoLimit)
    (hlow : sysModules < s.heap.objs.size) (hPl : cStatics < Pl ∧ builtinsNs < Pl) {Q : Flow → Shared → Prop}
    (hQ : ∀ h' tk mg', TopEnd w s.heap mg₀ mb Pl h' mg' → Q .next { s with heap := h', toks := tk }) :
    wpAny (model PR w) A (execs PR.main.body (mainEnv PR c F)) Q E s := by
  rw [body_eq]
  have T0 : TS s.heap mg₀ c Pl [] [] mg₀ [] s.heap := ⟨hm, rfl, (fun _ h => nomatch h), fun _ _ _ _ e => e, fun _ _ _ => rfl, Nat.le_refl _⟩
  have kn : (mainEnv PR c F).kindOf "__name__" = some .local := by kernel_rfl
  have kb : (mainEnv PR c F).kindOf "b3_exceptions" = some .local := by kernel_rfl
  have kc : (mainEnv PR c F).kindOf "c8_set" = some .local := by kernel_rfl
  have p1 : ∀ d ∈ [D 0, D 1, D 2], d.Plain PR := by intro d hd; simp only [List.mem_cons, List.not_mem_nil, or_false] at hd; rcases hd with rfl | rfl | rfl <;> exact plainD _ (by decide)
  have p2 : ∀ d ∈ [D 3, D 4, D 5, D 6, D 7], d.Plain PR := by intro d hd; simp only [List.mem_cons, List.not_mem_nil, or_false] at hd; rcases hd with rfl | rfl | rfl | rfl | rfl <;> exact plainD _ (by decide)
  have p3 : ∀ d ∈ [D 8], d.Plain PR := by intro d hd; simp only [List.mem_cons, List.not_mem_nil, or_false] at hd; subst hd; exact plainD _ (by decide)
  have p4 : ∀ d ∈ [D 9], d.Plain PR := by intro d hd; simp only [List.mem_cons, List.not_mem_nil, or_false] at hd; subst hd; exact plainD _ (by decide)
  have p5 : ∀ d ∈ [D 10, D 11, D 12, D 13], d.Plain PR := by intro d hd; simp only [List.mem_cons, List.not_mem_nil, or_false] at hd; rcases hd with rfl | rfl | rfl | rfl <;> exact plainD _ (by decide)
  have gp : mainGlobals < Pl := hm.low.2
  -- __name__
  refine wpAny_execs_cons (exec_name 0 (by decide) fun x0 => store_step (s := { s with toks := s.toks + 1 }) T0 kn (by decide +kernel) (by decide) fun h1 t1 T1 k1 => ?_)
  -- three defs
  refine wp_app (defs_step (s := { s with heap := h1, toks := t1 }) T1 p1 (by decide +kernel) (by decide +kernel) fun h2 t2 m2 l2 T2 e2 k2 => ⟨rfl, ?_⟩)
  refine wpAny_execs_cons (exec_name 4 (by decide) fun x0 => store_step (s := { s with heap := h2, toks := t2 + 1 }) T2 kn (by decide +kernel) (by decide) fun h3 t3 T3 k3 => ?_)
  refine wp_app (defs_step (s := { s with heap := h3, toks := t3 }) T3 p2 (by decide +kernel) (by decide +kernel) fun h4 t4 m4 l4 T4 e4 k4 => ⟨rfl, ?_⟩)
  refine wpAny_execs_cons (exec_name 10 (by decide) fun x0 => store_step (s := { s with heap := h4, toks := t4 + 1 }) T4 kn (by decide +kernel) (by decide) fun h5 t5 T5 k5 => ?_)
  -- the dict
  refine wpAny_execs_cons ?_
  refine @exec_dict w A E _ c F _ (Nat.lt_of_lt_of_le hlow T5.size) ?_
  intro d kvs h6 t6 hd1 hd2 hd3 B6
  have T5' := T5.base B6
  refine store_step (s := { s with heap := h6, toks := t6 }) T5' kb (by decide +kernel) (by decide) fun h7 t7 T7 k7 => ?_
  have hdP : Pl < d := Nat.lt_of_lt_of_le (Nat.lt_of_lt_of_le hm.code.lt.2 T5.size) hd3
  have hd7 : h7.DictOf (intKind PR w) d kvs := dict_at hd2 fun o e => k7 d o (Nat.ne_of_gt hdP) (Nat.ne_of_gt (Nat.lt_trans gp hdP)) e
  -- map_table_b3
  refine wp_app (defs_step (s := { s with heap := h7, toks := t7 }) T7 p3 (by decide +kernel) (by decide +kernel) fun h8 t8 m8 l8 T8 e8 k8 => ⟨rfl, ?_⟩)
  have hd8 : h8.DictOf (intKind PR w) d kvs := dict_at hd7 fun o e => k8 d o (Nat.ne_of_gt hdP) (Nat.ne_of_gt (Nat.lt_trans gp hdP)) e
  have v8 : m8 "b3_exceptions" = some (.ref d) := (e8 _ (by decide +kernel)).trans (if_pos rfl)
  -- the set
  have b8 : h8.Ns builtinsNs mb := hb.at fun o e => T8.keep _ o (Nat.ne_of_lt hPl.2) (by decide) e
  have miss : ∀ x : Str, x ∉ ([] ++ [D 0, D 1, D 2] ++ [D 3, D 4, D 5, D 6, D 7] ++ [D 8] : List DefRec).map (fun d => d.name) → x ∉ ([] ++ [Str.ofString "__name__"] ++ [Str.ofString "__name__"] ++ [Str.ofString "__name__"] ++ [Str.ofString "b3_exceptions"] : List Str) → x ∉ bootMainNames → m8 x = none := fun x a b c => (T8.off x a b).trans (hmiss x c)
  refine wpAny_execs_cons ?_
  refine @exec_set w A E { s with heap := h8, toks := t8 } c F m8 mb _ hh T8.main.g b8 (miss _ (by decide +kernel) (by decide +kernel) (by decide +kernel)) (miss _ (by decide +kernel) (by decide +kernel) (by decide +kernel)) (miss _ (by decide +kernel) (by decide +kernel) (by decide +kernel))
    ((hbo _ (by decide)).trans (by decide +kernel)) ((hbo _ (by decide)).trans (by decide +kernel)) ((hbo _ (by decide)).trans (by decide +kernel)) ?_
  intro a S n h9 t9 hs1 hs2 hs3 B9
  have T8' := T8.base B9
  have hd9 := dict_at hd8 fun o e => B9.keep d o e
  refine store_step (s := { s with heap := h9, toks := t9 }) T8' kc (by decide +kernel) (by decide) fun h10 t10 T10 k10 => ?_
  have haP : Pl < a := Nat.lt_of_lt_of_le (Nat.lt_of_lt_of_le hm.code.lt.2 T8.size) hs3
  have hd10 := dict_at hd9 fun o e => k10 d o (Nat.ne_of_gt hdP) (Nat.ne_of_gt (Nat.lt_trans gp hdP)) e
  have hs10 := set_at hs1 fun o e => k10 a o (Nat.ne_of_gt haP) (Nat.ne_of_gt (Nat.lt_trans gp haP)) e
  -- in_table_c8
  refine wp_app (defs_step (s := { s with heap := h10, toks := t10 }) T10 p4 (by decide +kernel) (by decide +kernel) fun h11 t11 m11 l11 T11 e11 k11 => ⟨rfl, ?_⟩)
  have hd11 := dict_at hd10 fun o e => k11 d o (Nat.ne_of_gt hdP) (Nat.ne_of_gt (Nat.lt_trans gp hdP)) e
  have hs11 := set_at hs10 fun o e => k11 a o (Nat.ne_of_gt haP) (Nat.ne_of_gt (Nat.lt_trans gp haP)) e
  have v11 : m11 "b3_exceptions" = some (.ref d) := (e11 _ (by decide +kernel)).trans ((if_neg (by decide)).trans v8)
  have w11 : m11 "c8_set" = some (.ref a) := (e11 _ (by decide +kernel)).trans (if_pos rfl)
  refine wpAny_execs_cons (exec_name 15 (by decide) fun x0 => store_step (s := { s with heap := h11, toks := t11 + 1 }) T11 kn (by decide +kernel) (by decide) fun h12 t12 T12 k12 => ?_)
  have hd12 := dict_at hd11 fun o e => k12 d o (Nat.ne_of_gt hdP) (Nat.ne_of_gt (Nat.lt_trans gp hdP)) e
  have hs12 := set_at hs11 fun o e => k12 a o (Nat.ne_of_gt haP) (Nat.ne_of_gt (Nat.lt_trans gp haP)) e
  refine defs_step (s := { s with heap := h12, toks := t12 }) T12 p5 (by decide +kernel) (by decide +kernel) fun h13 t13 m13 l13 T13 e13 k13 => ?_
  have hd13 := dict_at hd12 fun o e => k13 d o (Nat.ne_of_gt hdP) (Nat.ne_of_gt (Nat.lt_trans gp hdP)) e
  have hs13 := set_at hs12 fun o e => k13 a o (Nat.ne_of_gt haP) (Nat.ne_of_gt (Nat.lt_trans gp haP)) e
  have v13 : m13 "b3_exceptions" = some (.ref d) := (e13 _ (by decide +kernel)).trans ((if_neg (by decide)).trans v11)
  have w13 : m13 "c8_set" = some (.ref a) := (e13 _ (by decide +kernel)).trans ((if_neg (by decide)).trans w11)
  have off : ∀ x, x ∉ theDefs.map (·.name) → x ∉ theNames → m13 x = mg₀ x := by
    intro x h1 h2
    refine T13.off x h1 ?_
    intro hx
    apply h2
    simp only [List.nil_append, List.cons_append, List.mem_cons, List.not_mem_nil, or_false, theNames] at hx ⊢
    rcases hx with rfl | rfl | rfl | rfl | rfl | rfl <;> simp
  obtain ⟨bm, o, hbm, _, _, _, hbo', hcls, hdict, _⟩ := T13.main.bmod
  refine hQ h13 t13 m13 ⟨⟨T13.main.g, hb.at fun o e => T13.keep _ o (Nat.ne_of_lt hPl.2) (by decide) e, hbo, hlim.at fun o e => T13.keep _ o (Nat.ne_of_lt hPl.1) (by decide) e, fun e he => ?_, ⟨d, kvs, v13, hd13, hd1, Nat.lt_of_lt_of_le hlow (Nat.le_trans T5.size hd3)⟩, ⟨a, S, n, w13, hs13, hs2⟩, fun x h1 h2 h3 => (off x h1 h2).trans (hmiss x h3), Nat.lt_of_lt_of_le hlow T13.size⟩, T13.keep, off, ⟨bm, o, hbm, hbo', hcls, hdict⟩⟩
  obtain ⟨a₀, o₀, pm₀, cd₀, doc₀, q1, q2, q3, q4, q5, q6⟩ := T13.fns e he
  exact ⟨a₀, o₀, pm₀, cd₀, doc₀, q1, q2, q3, q4, Nat.lt_of_le_of_lt (Nat.zero_le _) q5, Nat.lt_of_le_of_lt (Nat.zero_le _) q6⟩
end
end Mine
end

/-! part HH -/
section
set_option maxRecDepth 100000
open PySem PySem.W PyProof.Rows PySem.Calls
namespace Mine
theorem opening_empty : (opening PR).main.body = [] := by kernel_rfl
theorem boot_body (w : World) : BodyOk9 (opening PR) w (fun s => (∃ mb mg c Pl, BootLeft9 (opening PR) s.heap mb mg c Pl) ∧ s.gens = #[]) := by
  intro hp tk mb mg c Pl F hB
  rw [opening_empty]
  refine codeAny_body rfl rfl (wpAny_execs_nil ?_)
  exact ⟨⟨_, rfl⟩, .of hB.toBootLeft (fun _ _ _ _ e => e) hB.g, ⟨⟨mb, mg, c, Pl, hB⟩, rfl⟩, rfl⟩

structure Topped (w : World) (s₀ s₁ : Shared) (mg mb : Str → Option Value) : Prop where
  ran : TopRan PR w s₀ s₁
  sleep : s₁.asleep
  gens : s₁.gens = #[]
  gl : GL w s₁.heap mg mb

theorem head (w : World) : (∃ s, AfterRun (opening PR) w s) ∧ ∀ s, AfterRun (opening PR) w s → ∃ s₀, fenceModules? PR s = some s₀ ∧ s₀.gens = #[] ∧ ∃ s₁ mg mb, Topped w s₀ s₁ mg mb := by
  obtain ⟨h1, h2⟩ := AfterImport.of_body9 (boot_body w) (by kernel_rfl)
  refine ⟨h1, fun s hs => ?_⟩
  have hs' : AfterImport (opening PR) w s := hs
  obtain ⟨⟨mb, mg, c₀, Pl₀, hB⟩, hgens⟩ := h2 s hs'
  refine ⟨s, fenceModules_id PR (by decide +kernel) s, hgens, ?_⟩
  have K := Pin.Kept.of hB (h' := s.heap) fun _ _ _ _ e => e
  have key : wpAny (model PR w) callerA (topStub PR).cur (fun fin s' => ∃ f, fin = .done f ∧ (s'.os = s.os ∧ ∃ mg' Pl, s.heap.objs.size ≤ Pl ∧ TopEnd w s.heap mg mb Pl s'.heap mg') ∧ s'.gens = #[]) (fun _ _ => False) s := by
    show wpAny _ _ (do let code ← moduleCode PR.main; let frame ← newBodyFrame code mainNs mainNs; let _ ← run (.body (behindTheImports PR) { scope := PR.main.scope, locals := mainNs, globals := mainNs, cells := [], code, frame := some frame }); ret .none) _ _ s
    refine wpAny_bind (wpAny_moduleCode fun c Pl h' tk hk hc hP hcode => ?_)
    unfold newBodyFrame
    refine wpAny_bind (wpAny_bind (wpAny_nsGet (hB.g.keeps hk) (wpAny_alloc ?_)))
    refine wpAny_bind (wpAny_run (h := none) ?_)
    have B1 : Base s.heap h' := ⟨hk, Nat.le_trans hc (Nat.le_of_lt hcode.lt.1)⟩
    obtain ⟨bm, o, hbm, hne0, hneG, hneP, hbo, hrest⟩ := hB.bmod
    have hlow : sysModules < s.heap.objs.size := by
      obtain ⟨mm, hm, _⟩ := hB.noPylong
      exact hm.lt
    have gl : mainGlobals < s.heap.objs.size := hB.g.lt
    have hlimS : cStatics < s.heap.objs.size := hB.statics.lt
    have hbS : builtinsNs < s.heap.objs.size := hB.b.lt
    have T : ∀ oF : Obj, wpAny (model PR w) (callerA.deeper (mainEnv PR c h'.objs.size)) (execs (behindTheImports PR) (mainEnv PR c h'.objs.size)) (fun f s' => (∃ fl, f = fl) ∧ s'.gens = s.gens ∧ s'.os = s.os ∧ ∃ mg' Pl, s.heap.objs.size ≤ Pl ∧ TopEnd w s.heap mg mb Pl s'.heap mg')
        (fun _ _ => False) { s with heap := h'.push oF, toks := tk } := by
      intro oF
      have B2 : Base s.heap (h'.push oF) := B1.trans (push_base _ _)
      refine wpAny_mono (E := fun _ _ => False) (top_body (s := { s with heap := h'.push oF, toks := tk }) (mg₀ := mg) (mb := mb) (c := c) (Pl := Pl) rfl ?_ hB.others (hB.b.keeps B2.keep) hB.builtins ?_ (Nat.lt_of_lt_of_le hlow B2.size) ⟨Nat.lt_of_lt_of_le hlimS hP, Nat.lt_of_lt_of_le hbS hP⟩ (Q := fun f s' => (∃ fl, f = fl) ∧ s'.gens = s.gens ∧ s'.os = s.os ∧ ∃ mg' Pl, s.heap.objs.size ≤ Pl ∧ TopEnd w s.heap mg mb Pl s'.heap mg') ?_) (fun _ _ x => x) (fun _ _ x => x)
      · exact ⟨hB.g.keeps B2.keep, hcode.push _, ⟨Nat.lt_of_lt_of_le gl hc, Nat.lt_of_lt_of_le gl hP⟩, ⟨bm, o, hbm, hne0, hneG, Nat.ne_of_lt (Nat.lt_of_lt_of_le (Heap.lt_size hbo) hP), B2.keep _ _ hbo, hrest⟩⟩
      · exact Heap.NoLimit.keeps ⟨_, hB.statics, rfl⟩ B2.keep
      · intro h'' tk'' mg' TE
        exact ⟨⟨_, rfl⟩, rfl, rfl, mg', Pl, hP, TE.gl, fun b o h1 h2 e => TE.keep b o h1 h2 (B2.keep b o e), TE.off, TE.bmod⟩
    refine codeAny_body (by kernel_rfl) (by kernel_rfl) (wpAny_mono (E := fun _ _ => False) (T _) (fun f s' x => ?_) fun _ _ x => x.elim)
    obtain ⟨_, x1, x2, x3⟩ := x
    exact wpAny_pure ⟨_, rfl, ⟨x2, x3⟩, x1.trans hgens⟩
  obtain ⟨n, s₁, t₁, e1, e2, e3, ⟨e4, mg', Pl, hPl, TE⟩, e5⟩ := top_through hs'.life key
  have hgE : ∀ x, globalOf s₁.heap x = mg' x := fun x => Claim2Try.globalOf_of_ns TE.gl.g x
  have hg0 : ∀ x, globalOf s.heap x = mg x := fun x => Claim2Try.globalOf_of_ns hB.g x
  have keep : ∀ b o, s.heap.get? b = some o → b ≠ mainGlobals → s₁.heap.get? b = some o := fun b o e h => TE.keep b o (Nat.ne_of_lt (Nat.lt_of_lt_of_le (Heap.lt_size e) hPl)) h e
  refine ⟨s₁, mg', mb, ⟨⟨n, t₁, e1, e2⟩, e3, Shared.rest_eq e4, fun b o e h => keep b o e fun q => h (.inl q), ?_, ?_, Pin.keysAreStrs_of_ns TE.gl.g, ?_, ?_, ?_, ?_, ?_⟩, Shared.asleep_of_life e3 hs'.life, e5, TE.gl⟩
  · intro key v hv
    rw [Pin.staticOf_of_ns (hB.statics.at fun o e => keep _ o e (by decide)) key] at hv
    cases hv
  · intro key
    refine .inl ?_
    rw [Pin.staticOf_of_ns (hB.statics.at fun o e => keep _ o e (by decide)) key, Pin.staticOf_of_ns hB.statics key]
  · exact fun x hx => (Pin.builtinOf_of_ns TE.gl.b x).trans (TE.gl.hb x hx)
  · obtain ⟨bm, o, hbm, hbo, hc, hd⟩ := TE.bmod
    exact ⟨bm, o, (hgE _).trans hbm, hbo, hc, hd⟩
  · rw [e5]; intro g hg; simp at hg
  · intro x v hv
    rw [hgE] at hv
    have d1 : ∀ x ∈ theDefs.map (·.name), x ∈ PR.boundNames := by decide +kernel
    have d2 : ∀ x ∈ theNames, x ∈ startupNames ∨ x ∈ PR.boundNames := by decide +kernel
    by_cases q1 : x ∈ theDefs.map (·.name)
    · exact .inr (d1 x q1)
    · by_cases q2 : x ∈ theNames
      · exact d2 x q2
      · rw [TE.off x q1 q2] at hv
        refine .inl ?_
        by_cases q3 : x ∈ bootMainNames
        · exact q3
        · rw [hB.others x q3] at hv; cases hv
  · intro x hx
    rw [hgE, hg0]
    have d1 : ∀ x ∈ laidNames, x ∉ theDefs.map (·.name) := by decide +kernel
    have d2 : ∀ x ∈ laidNames, x ∉ theNames := by decide +kernel
    exact TE.off x (d1 x hx) (d2 x hx)
end Mine
end

/-! part HI -/
section
set_option maxRecDepth 100000
open PySem PySem.W PyProof.Rows PySem.Calls
namespace Mine
abbrev LR : OpenLaw := PySem.Challenge.rw_wc0011_01
abbrev CR : ClaimW := LR.row.toRowW.claim
theorem law_pinned {w : World} {h : Heap} {mg mb : Str → Option Value} (G : GL w h mg mb) : isTheDefsW PR h "law" := by
  obtain ⟨a, o, pm, cd, doc, q1, q2, q3, q4, q5, q6⟩ := G.fn (D 13) (by simp [theDefs])
  have hn : (D 13).name = "law" := by decide +kernel
  rw [hn] at q1
  refine ⟨a, o, _, (D 13).params, (D 13).body, (D 13).scope, (Claim2Try.globalOf_of_ns G.g _).trans q1, q2, q3, by kernel_rfl, hn, hn, rfl, rfl, rfl, rfl, rfl, rfl, .inl ⟨by kernel_rfl, rfl⟩, [], by kernel_rfl, .inl ⟨rfl, rfl⟩⟩
theorem GL.keeps {w : World} {h h' : Heap} {mg mb : Str → Option Value} (G : GL w h mg mb) (k : ∀ b o, h.get? b = some o → h'.get? b = some o) (hs : sysModules < h'.objs.size) : GL w h' mg mb := by
  refine ⟨G.g.keeps k, G.b.keeps k, G.hb, G.lim.keeps k, fun e he => ?_, ?_, ?_, G.off, hs⟩
  · obtain ⟨a₀, o₀, pm₀, cd₀, doc₀, q1, q2, q3, q4, q5, q6⟩ := G.fn e he
    exact ⟨a₀, o₀, pm₀, cd₀, doc₀, q1, k _ _ q2, q3, q4.keeps k, q5, q6⟩
  · obtain ⟨d, kvs, q1, q2, q3⟩ := G.b3
    exact ⟨d, kvs, q1, dict_at q2 (k d), q3⟩
  · obtain ⟨a, S, n, q1, q2, q3⟩ := G.c8
    exact ⟨a, S, n, q1, set_at q2 (k a), q3⟩

theorem holds_open (law_call : ∀ (w : World) (s : Shared) (mg mb : Str → Option Value) (l : Addr) (vs : List Value) (ns : List Int), GL w s.heap mg mb → s.gens = #[] → s.heap.IsList l vs.toArray → IntsAre vs ns → ns.length ≤ 63 →
      ∃ a, mg "law" = some (.ref a) ∧ wpAny (model PR w) callerA (call (.ref a) [.ref l]) (fun v s' => v = .bool true ∧ (∀ b o, s.heap.get? b = some o → s'.heap.get? b = some o) ∧ s'.os = s.os ∧ AllBare s'.gens) (fun _ _ => False) s) :
    LR.row.toRowW.claim.HoldsOpenBy (callStub LR.row.name) (if LR.row.pinned then [LR.row.name] else []) LR.row.keeps LR.row.writes := by
  refine ⟨⟨⟨rfl, rfl, rfl, rfl, rfl, by decide +kernel⟩, by decide +kernel, rfl⟩, ⟨[.list []], by decide +kernel, by decide +kernel⟩, fun w => ⟨(head w).1, fun s hs => ?_⟩⟩
  obtain ⟨s₀, f1, f2, s₁, mg, mb, T⟩ := (head w).2 s hs
  refine ⟨s₀, f1, f2, s₁, T.ran, ?_, (fun x hx => nomatch hx), (fun x hx => nomatch hx), ?_⟩
  · intro n hn
    have : n ∈ (if true = true then [Str.ofString "law"] else []) := hn
    rw [if_pos rfl, List.mem_singleton] at this
    subst this
    exact law_pinned T.gl
  · refine ClaimW.callFrom_of_specG (c := CR) T.sleep T.gens fun args hpre hlay ord hord => ?_
    obtain ⟨⟨vs, s₂⟩, hlaid⟩ := Option.isSome_iff_exists.mp (layAllW_isSome (R := []) (P := w.params) (ord := ord) (cl := classAt s₁.heap) (fun c h => by cases h) args LR.row.args s₁ (pre_splitW (r := LR.row.toRowW) hpre).1)
    have keeps := layAllW_keeps _ _ _ hlaid
    have hal := layAllW_rest _ _ _ hlaid
    obtain ⟨as, hrd, hin, hold⟩ := reads_layAllW hord _ _ _ hlaid hlay s₂.heap (fun _ _ e => e)
    have L : Laid [] w s₁ s₂ args vs as := ⟨⟨ord, hord, hlaid⟩, hrd, hin, hold, keeps, hal.1.trans T.gens, hal.2.2.1⟩
    refine ⟨vs, s₂, hlaid, ?_⟩
    have hg2 := L.gens
    have hwl := L.well
    have hlo := L.low T.gl.low
    have os2 := L.os
    have fr : frees LR.row.toRowW = true := by decide +kernel
    obtain ⟨hsame, hu, ha', hap, hm⟩ := frees_parts fr
    have fin : ∀ (l : Addr) (ws : List Value) (ns : List Int), vs = [.ref l] → s₂.heap.IsList l ws.toArray → IntsAre ws ns → ns.length ≤ 63 → sysModules < s₂.heap.objs.size → wpAny (model CR.prog w) callerA (do match ← nsGet mainNs LR.row.name with
        | some f => do ret (← PySem.call f vs)
        | none => unsupported "claim.caller:no-such-global") (fun fin s' => ∃ f, fin = .done f ∧ (CR.Ends s₁ args vs s₂ (.ok f) s' ∧ s'.os = s₁.os ∧ AllBare s'.gens ∧ True)) (fun e s' => CR.Ends s₁ args vs s₂ (.error e) s' ∧ s'.os = s₁.os ∧ AllBare s'.gens ∧ True) s₂ := by
      intro l ws ns hv hl hi hlen hlw
      subst hv
      have G2 := T.gl.keeps keeps hlw
      obtain ⟨a, ha, hc⟩ := law_call w s₂ mg mb l ws ns G2 hg2 hl hi hlen
      refine wpAny_bind (wpAny_nsGet G2.g ?_)
      have hnm : mg LR.row.name = some (.ref a) := ha
      rw [hnm]
      refine wpAny_bind (wpAny_mono hc (fun v s' x => ?_) fun _ _ x => x.elim)
      obtain ⟨rfl, B, ho, hb⟩ := x
      have GW : GoodWG CR (classAt s₁.heap) (ExcName.means s₁.heap) args s₂ (.ok (.ret (.bool true))) s' := by
        refine ⟨.inl ⟨_, .bool true, [], rfl, fun _ => rfl, ReadsW.bool true, ?_, fun _ => ⟨List.nodup_nil, fun _ hm => (nomatch hm)⟩⟩, .of_keep B, ho, hb⟩
        first | rfl | wrow_post
      have z := GW.laid (c := CR) rfl rfl (ident_freeW hu ha' hap) L
      exact wpAny_pure ⟨_, rfl, z.1, z.2.1, z.2.2, trivial⟩
    clear hold hin hal
    wrow_args hpre hlay hrd hwl hlo
    have szl := (PySem.W.X.script_at L).2
    rename_i hLs _ _ _ hIs _ hc1 _
    refine wpAny_mono (fin _ _ _ rfl hLs hIs (by omega) (by rw [szl]; exact Nat.lt_succ_of_lt T.gl.low)) (fun f s' x => ?_) (fun e s' x => ?_)
    · obtain ⟨fl, rfl, y1, y2, y3, _⟩ := x
      exact ⟨fl, rfl, y1, y2, y3, fun h => nomatch h⟩
    · obtain ⟨y1, y2, y3, _⟩ := x
      exact ⟨y1, y2, y3, fun h => nomatch h⟩
end Mine
end

/-! part FN -/
section
set_option maxRecDepth 100000
open PySem PySem.W PyProof.Rows PySem.Calls
namespace Mine

/-- nothing lost, nothing but the heap and the tokens moved -/
structure Back (s s' : Shared) : Prop where
  keep : ∀ b o, s.heap.get? b = some o → s'.heap.get? b = some o
  rest : s' = { s with heap := s'.heap, toks := s'.toks }
theorem Back.refl (s : Shared) : Back s s := ⟨fun _ _ e => e, rfl⟩
theorem Back.trans {a b c : Shared} (x : Back a b) (y : Back b c) : Back a c := ⟨fun d o e => y.keep d o (x.keep d o e), by rw [y.rest, x.rest]⟩
theorem Back.keeps {s s' : Shared} (x : Back s s') : Keeps s s' := ⟨s'.heap, s'.toks, x.rest, x.keep⟩
/-- nothing lost but at W; the generators at rest -/
structure Kp (W : List Addr) (s s' : Shared) : Prop where
  keep : ∀ b o, b ∉ W → s.heap.get? b = some o → s'.heap.get? b = some o
  os : s'.os = s.os
  bare : AllBare s.gens → AllBare s'.gens
theorem Kp.refl (W : List Addr) (s : Shared) : Kp W s s := ⟨fun _ _ _ e => e, rfl, fun h => h⟩
theorem Kp.tok {W : List Addr} {s s' : Shared} (x : Kp W s s') (t : Nat) : Kp W s { s' with toks := t } := ⟨x.keep, x.os, x.bare⟩
theorem Back.kp {s s' : Shared} (x : Back s s') (W : List Addr) : Kp W s s' := ⟨fun b o _ e => x.keep b o e, by rw [x.rest], fun h => by rw [x.rest]; exact h⟩
theorem Kp.absorb {W W' : List Addr} {a b c : Shared} (x : Kp W a b) (hW : ∀ d ∈ W', d ∈ W ∨ a.heap.get? d = none) (y : Kp W' b c) : Kp W a c :=
  ⟨fun d o hd e => y.keep d o (fun hm => (hW d hm).elim hd fun q => by rw [q] at e; cases e) (x.keep d o hd e), y.os.trans x.os, fun h => y.bare (x.bare h)⟩
theorem Kp.trans {W : List Addr} {a b c : Shared} (x : Kp W a b) (y : Kp W b c) : Kp W a c := x.absorb (fun _ h => .inl h) y
theorem Kp.then {W : List Addr} {a b c : Shared} (x : Kp W a b) (y : Back b c) : Kp W a c := x.trans (y.kp W)
theorem GL.low' {w : World} {h : Heap} {mg mb : Str → Option Value} (G : GL w h mg mb) : sysModules < h.objs.size := by
  obtain ⟨d, kvs, _, ⟨o, _, _, ho, _⟩, _, hl⟩ := G.b3
  exact Nat.lt_trans hl (Heap.lt_size ho)
theorem GL.keep {w : World} {h h' : Heap} {mg mb : Str → Option Value} (G : GL w h mg mb) (k : ∀ b o, h.get? b = some o → h'.get? b = some o) : GL w h' mg mb := by
  refine G.keeps k ?_
  obtain ⟨d, kvs, _, ⟨o, _, _, ho, _⟩, _, hl⟩ := G.b3
  exact Nat.lt_trans hl (Heap.lt_size (k _ _ ho))
theorem GL.on {w : World} {h h' : Heap} {mg mb : Str → Option Value} (G : GL w h mg mb) (B : Base h h') : GL w h' mg mb := G.keep B.keep

abbrev En (i : Nat) (pm doc : Value) (cd L a : Addr) : Env := callEnv ((D i).data pm (.ref cd) doc) L a
abbrev NoE : Value → Shared → Prop := fun _ _ => False

section
variable {w : World} {A : Around} {s : Shared} {mg mb : Str → Option Value}

/-- a call of the i-th def: its body, in a frame of its own -/
theorem enter (i : Nat) (hi : D i ∈ theDefs) (G : GL w s.heap mg mb) (hroom : A.depth < recursionLimit) {a : Addr} (ha : mg (D i).name = some (.ref a)) {vs : List Value} {binds : List (Str × Value)} {Q : Value → Shared → Prop}
    (hb : ∀ pm cd doc, bindArgs ((D i).data pm (.ref cd) doc) ⟨vs, []⟩ = pure binds)
    (hcell : ((D i).scope.names.all fun x => x.2 != .cell) = true) (hloc : (binds.all fun x => (D i).scope.names.lookup x.1 == some .local) = true)
    (h : ∀ pm doc cd h₀, Base s.heap h₀ → s.heap.objs.size < h₀.objs.size → h₀.Ns s.heap.objs.size (fun x => binds.reverse.lookup x) →
      wpAny (model PR w) (A.deeper (En i pm doc cd s.heap.objs.size a)) (execs (D i).body (En i pm doc cd s.heap.objs.size a)) (fun f s' => Q (match f with | .ret v => v | _ => .none) s') NoE { s with heap := h₀, toks := s.toks + binds.length })
    (hco : (D i).scope.isCoroutine = false) (hgen : (D i).scope.isGenerator = false) (hk : (D i).scope.kind = .function) :
    wpAny (model PR w) A (call (.ref a) vs) Q NoE s := by
  obtain ⟨a', o, pm, cd, doc, q1, q2, q3, q4, q5, q6⟩ := G.fn (D i) hi
  rw [ha] at q1
  cases q1
  refine wpAny_call (codeAny_call_def hroom q2 q3 G.lim q4 rfl (BindsTo.of_eq (hb pm cd doc)) ?_ ?_ (fun h₀ hns keep => ?_) hco hgen hk)
  · intro x hx e
    have := List.all_eq_true.mp hcell x hx
    rw [e] at this
    exact absurd this (by decide)
  · intro x hx
    have := List.all_eq_true.mp hloc x hx
    exact eq_of_beq this
  · have sz : s.heap.objs.size < h₀.objs.size := hns.lt
    refine wpAny_mono (h pm doc cd h₀ ⟨keep, Nat.le_of_lt sz⟩ sz hns) (fun f s' x => x) fun _ _ x => x.elim

/-- a call's expression: a global name of a def, plain arguments -/
theorem e_fn (i : Nat) (hi : D i ∈ theDefs) {x : Str} {p pos : Pos} {es : List Expr} {env : Env} {a : Addr} {Q : Value → Shared → Prop} (hk : env.scope.kind = .function) (hx : env.kindOf x = some .globalImplicit) (hg0 : env.globals = mainGlobals)
    (G : GL w s.heap mg mb) (hn : (D i).name = x) (ha : mg x = some (.ref a)) (hd : (x == ("__debug__" : Str)) = false)
    (h : wpAny (model PR w) A (spliced (plains es env)) (fun vs s₁ => (∀ b o, s.heap.get? b = some o → s₁.heap.get? b = some o) ∧ wpAny (model PR w) A (call (.ref a) vs) Q NoE s₁) NoE s) (hs : noStar es = true := by rfl) :
    wpAny (model PR w) A (eval (.Call (.Name x p) es [] pos) env) Q NoE s := by
  refine e_call_fn (a := a) (fun Q' q => Name_function_global hk hx (loadGlobal_global (by rw [hg0]; exact G.g) ha q) hd) (wpAny_mono h (fun vs s₁ y => ⟨?_, y.2⟩) fun _ _ x => x) hs
  obtain ⟨a', o, pm, cd, doc, q1, q2, q3, _⟩ := (G.keep y.1).fn (D i) hi
  rw [hn, ha] at q1
  cases q1
  exact ⟨o, _, q2, q3⟩

/-- a local name -/
theorem ldL {M : Model} {E : Value → Shared → Prop} {env : Env} {L : Addr} {x : Str} {pos : Pos} {m : Str → Option Value} {v : Value} {Q : Value → Shared → Prop} (hk : env.scope.kind = .function) (hl : env.kindOf x = some .local) (hL : env.locals = L) (hn : s.heap.Ns L m) (hv : m x = some v) (h : Q v s)
    (hd : (x == ("__debug__" : Str)) = false := by decide) : wpAny M A (eval (.Name x pos) env) Q E s := wpAny_Name (wpAny_loadName_local hk hl (by rw [hL]; exact hn) hv h) hd
/-- storing a local name -/
theorem stL {M : Model} {E : Value → Shared → Prop} {env : Env} {L : Addr} {x : Str} {m : Str → Option Value} {v : Value} {Q : Unit → Shared → Prop} (hl : env.kindOf x = some .local) (hk : env.scope.kind = .function) (hL : env.locals = L) (hn : s.heap.Ns L m)
    (h : ∀ h', h'.Ns L (fun y => if y = x then some v else m y) → Heap.SameBut L s.heap h' → Q () { s with heap := h', toks := s.toks + 1 }) : wpAny M A (storeName env x v) Q E s := by
  subst hL
  exact wpAny_storeName_local hl hn h (by rw [hk]; rfl)


theorem sp_ge {a : Addr} {x y : Int} {t u : Tok} {Q : Value → Shared → Prop} (G : GL w s.heap mg mb) (hroom : A.depth < recursionLimit) (ha : mg "ge" = some (.ref a)) (h : ∀ s', Back s s' → Q (.bool (decide (x ≥ y))) s') :
    wpAny (model PR w) A (call (.ref a) [.int x t, .int y u]) Q NoE s := by
  refine enter 3 (by simp [theDefs]) G hroom ha (binds := [("a", .int x t), ("b", .int y u)]) ?b ?c ?l (fun pm doc cd h₀ B sz hns => ?_) ?co ?g ?k
  case b => intro _ _ _; kernel_rfl
  case c => decide +kernel
  case l => kernel_rfl
  case co => kernel_rfl
  case g => kernel_rfl
  case k => kernel_rfl
  have ea : (fun y_1 => List.lookup y_1 [(Str.ofString "a", Value.int x t), (Str.ofString "b", Value.int y u)].reverse) "a" = some (.int x t) := by kernel_rfl
  have eb : (fun y_1 => List.lookup y_1 [(Str.ofString "a", Value.int x t), (Str.ofString "b", Value.int y u)].reverse) "b" = some (.int y u) := by kernel_rfl
  refine wpAny_execs_cons (wpAny_Return_some (wpAny_Compare1 ?_))
  refine ldL (by kernel_rfl) (by kernel_rfl) rfl hns ea ?_
  refine ldL (by kernel_rfl) (by kernel_rfl) rfl hns eb ?_
  refine P.ge_int ?_
  exact h _ ⟨B.keep, rfl⟩

theorem sp_add {a : Addr} {x y : Int} {t u : Tok} {Q : Value → Shared → Prop} (G : GL w s.heap mg mb) (hroom : A.depth < recursionLimit) (ha : mg "add" = some (.ref a)) (h : ∀ s' tk, Back s s' → Q (.int (x + y) tk) s') :
    wpAny (model PR w) A (call (.ref a) [.int x t, .int y u]) Q NoE s := by
  refine enter 4 (by simp [theDefs]) G hroom ha (binds := [("a", .int x t), ("b", .int y u)]) ?b ?c ?l (fun pm doc cd h₀ B sz hns => ?_) ?co ?g ?k
  case b => intro _ _ _; kernel_rfl
  case c => decide +kernel
  case l => kernel_rfl
  case co => kernel_rfl
  case g => kernel_rfl
  case k => kernel_rfl
  have ea : (fun y_1 => List.lookup y_1 [(Str.ofString "a", Value.int x t), (Str.ofString "b", Value.int y u)].reverse) "a" = some (.int x t) := by kernel_rfl
  have eb : (fun y_1 => List.lookup y_1 [(Str.ofString "a", Value.int x t), (Str.ofString "b", Value.int y u)].reverse) "b" = some (.int y u) := by kernel_rfl
  refine wpAny_execs_cons (wpAny_Return_some (wpAny_BinOp ?_))
  refine ldL (by kernel_rfl) (by kernel_rfl) rfl hns ea ?_
  refine ldL (by kernel_rfl) (by kernel_rfl) rfl hns eb ?_
  refine wpAny_add_int ?_
  exact h _ _ ⟨B.keep, rfl⟩

theorem sp_and {a : Addr} {x y : Int} {t u : Tok} {Q : Value → Shared → Prop} (G : GL w s.heap mg mb) (hroom : A.depth < recursionLimit) (ha : mg "and_" = some (.ref a)) (h : ∀ s' tk, Back s s' → Q (.int (Builtin.bitAnd x y) tk) s') :
    wpAny (model PR w) A (call (.ref a) [.int x t, .int y u]) Q NoE s := by
  refine enter 5 (by simp [theDefs]) G hroom ha (binds := [("a", .int x t), ("b", .int y u)]) ?b ?c ?l (fun pm doc cd h₀ B sz hns => ?_) ?co ?g ?k
  case b => intro _ _ _; kernel_rfl
  case c => decide +kernel
  case l => kernel_rfl
  case co => kernel_rfl
  case g => kernel_rfl
  case k => kernel_rfl
  have ea : (fun y_1 => List.lookup y_1 [(Str.ofString "a", Value.int x t), (Str.ofString "b", Value.int y u)].reverse) "a" = some (.int x t) := by kernel_rfl
  have eb : (fun y_1 => List.lookup y_1 [(Str.ofString "a", Value.int x t), (Str.ofString "b", Value.int y u)].reverse) "b" = some (.int y u) := by kernel_rfl
  refine wpAny_execs_cons (wpAny_Return_some (wpAny_BinOp ?_))
  refine ldL (by kernel_rfl) (by kernel_rfl) rfl hns ea ?_
  refine ldL (by kernel_rfl) (by kernel_rfl) rfl hns eb ?_
  refine and_int ?_
  exact h _ _ ⟨B.keep, rfl⟩

theorem sp_or {a : Addr} {x y : Int} {t u : Tok} {Q : Value → Shared → Prop} (G : GL w s.heap mg mb) (hroom : A.depth < recursionLimit) (ha : mg "or_" = some (.ref a)) (h : ∀ s' tk, Back s s' → Q (.int (Builtin.bitOr x y) tk) s') :
    wpAny (model PR w) A (call (.ref a) [.int x t, .int y u]) Q NoE s := by
  refine enter 7 (by simp [theDefs]) G hroom ha (binds := [("a", .int x t), ("b", .int y u)]) ?b ?c ?l (fun pm doc cd h₀ B sz hns => ?_) ?co ?g ?k
  case b => intro _ _ _; kernel_rfl
  case c => decide +kernel
  case l => kernel_rfl
  case co => kernel_rfl
  case g => kernel_rfl
  case k => kernel_rfl
  have ea : (fun y_1 => List.lookup y_1 [(Str.ofString "a", Value.int x t), (Str.ofString "b", Value.int y u)].reverse) "a" = some (.int x t) := by kernel_rfl
  have eb : (fun y_1 => List.lookup y_1 [(Str.ofString "a", Value.int x t), (Str.ofString "b", Value.int y u)].reverse) "b" = some (.int y u) := by kernel_rfl
  refine wpAny_execs_cons (wpAny_Return_some (wpAny_BinOp ?_))
  refine ldL (by kernel_rfl) (by kernel_rfl) rfl hns ea ?_
  refine ldL (by kernel_rfl) (by kernel_rfl) rfl hns eb ?_
  refine or_int ?_
  exact h _ _ ⟨B.keep, rfl⟩

theorem sp_inv {a : Addr} {x : Int} {t : Tok} {Q : Value → Shared → Prop} (G : GL w s.heap mg mb) (hroom : A.depth < recursionLimit) (ha : mg "inv" = some (.ref a)) (h : ∀ s' tk, Back s s' → Q (.int (Builtin.bitNot x) tk) s') :
    wpAny (model PR w) A (call (.ref a) [.int x t]) Q NoE s := by
  refine enter 6 (by simp [theDefs]) G hroom ha (binds := [("a", .int x t)]) ?b ?c ?l (fun pm doc cd h₀ B sz hns => ?_) ?co ?g ?k
  case b => intro _ _ _; kernel_rfl
  case c => decide +kernel
  case l => kernel_rfl
  case co => kernel_rfl
  case g => kernel_rfl
  case k => kernel_rfl
  have ea : (fun y_1 => List.lookup y_1 [(Str.ofString "a", Value.int x t)].reverse) "a" = some (.int x t) := by kernel_rfl
  refine wpAny_execs_cons (wpAny_Return_some (wpAny_UnaryOp ?_))
  refine ldL (by kernel_rfl) (by kernel_rfl) rfl hns ea ?_
  refine invert_int ?_
  exact h _ _ ⟨B.keep, rfl⟩
end
end Mine
end

/-! part EX -/
section
set_option maxRecDepth 100000
open PySem PySem.W PyProof.Rows PySem.Calls
namespace Mine
section
variable {w : World} {A : Around} {s : Shared} {mg mb : Str → Option Value}

def offB (x : Str) : Bool := !(theDefs.map (·.name)).contains x && !theNames.contains x && !bootMainNames.contains x && x != "__name__"
theorem GL.builtin {h : Heap} (G : GL w h mg mb) {x : Str} (ho : offB x = true) : mg x = none ∧ mb x = bootBuiltins x := by
  unfold offB at ho
  simp only [Bool.and_eq_true, Bool.not_eq_true', bne_iff_ne, ne_eq] at ho
  obtain ⟨⟨⟨a, b⟩, c⟩, d⟩ := ho
  refine ⟨G.off x ?_ ?_ ?_, G.hb x d⟩
  · intro q; rw [List.contains_iff_mem.mpr q] at a; cases a
  · intro q; rw [List.contains_iff_mem.mpr q] at b; cases b
  · intro q; rw [List.contains_iff_mem.mpr q] at c; cases c

theorem e_bi {x : Str} {p pos : Pos} {es : List Expr} {env : Env} {id : String} {Q : Value → Shared → Prop} (hk : env.scope.kind = .function) (hx : env.kindOf x = some .globalImplicit) (hg0 : env.globals = mainGlobals) (hb0 : env.builtins = builtinsNs)
    (G : GL w s.heap mg mb) (ho : offB x = true) (hv : bootBuiltins x = some (.builtin id)) (hd : (x == ("__debug__" : Str)) = false)
    (h : wpAny (model PR w) A (spliced (plains es env)) (fun vs s₁ => wpAny (model PR w) A (call (.builtin id) vs) Q NoE s₁) NoE s) (hs : noStar es = true := by rfl) :
    wpAny (model PR w) A (eval (.Call (.Name x p) es [] pos) env) Q NoE s := by
  obtain ⟨q1, q2⟩ := G.builtin ho
  exact e_call_builtin (fun Q' q => Name_function_global hk hx (loadGlobal_builtin (by rw [hg0]; exact G.g) q1 (by rw [hb0]; exact G.b) (q2.trans hv) q) hd) h hs

theorem e_ty {x : Str} {p pos : Pos} {es : List Expr} {env : Env} {id : String} {Q : Value → Shared → Prop} (hk : env.scope.kind = .function) (hx : env.kindOf x = some .globalImplicit) (hg0 : env.globals = mainGlobals) (hb0 : env.builtins = builtinsNs)
    (G : GL w s.heap mg mb) (ho : offB x = true) (hv : bootBuiltins x = some (.type id)) (hd : (x == ("__debug__" : Str)) = false)
    (h : wpAny (model PR w) A (spliced (plains es env)) (fun vs s₁ => wpAny (model PR w) A (call (.type id) vs) Q NoE s₁) NoE s) (hs : noStar es = true := by rfl) :
    wpAny (model PR w) A (eval (.Call (.Name x p) es [] pos) env) Q NoE s := by
  obtain ⟨q1, q2⟩ := G.builtin ho
  exact e_call_type (fun Q' q => Name_function_global hk hx (loadGlobal_builtin (by rw [hg0]; exact G.g) q1 (by rw [hb0]; exact G.b) (q2.trans hv) q) hd) h hs

theorem ldG {x : Str} {pos : Pos} {env : Env} {v : Value} {Q : Value → Shared → Prop} (hk : env.scope.kind = .function) (hx : env.kindOf x = some .globalImplicit) (hg0 : env.globals = mainGlobals)
    (G : GL w s.heap mg mb) (hv : mg x = some v) (hd : (x == ("__debug__" : Str)) = false) (h : Q v s) : wpAny (model PR w) A (eval (.Name x pos) env) Q NoE s :=
  Name_function_global hk hx (loadGlobal_global (by rw [hg0]; exact G.g) hv h) hd

theorem sp_c8 {a : Addr} {c : Nat} {t : Tok} {Q : Value → Shared → Prop} (G : GL w s.heap mg mb) (hroom : A.depth < recursionLimit) (ha : mg "in_table_c8" = some (.ref a)) (h : ∀ s', Back s s' → Q (.bool (Mine.c8 c)) s') :
    wpAny (model PR w) A (call (.ref a) [.str ⟨#[c]⟩ t]) Q NoE s := by
  refine enter 9 (by simp [theDefs]) G hroom ha (binds := [("code", .str ⟨#[c]⟩ t)]) ?b ?c ?l (fun pm doc cd h₀ B sz hns => ?_) ?co ?g ?k
  case b => intro _ _ _; kernel_rfl
  case c => decide +kernel
  case l => kernel_rfl
  case co => kernel_rfl
  case g => kernel_rfl
  case k => kernel_rfl
  have ea : (fun y_1 => List.lookup y_1 [(Str.ofString "code", Value.str ⟨#[c]⟩ t)].reverse) "code" = some (.str ⟨#[c]⟩ t) := by kernel_rfl
  have G₀ := G.on B
  obtain ⟨sa, S, n, hc, hS, hk⟩ := G₀.c8
  refine wpAny_execs_cons (wpAny_Return_some (wpAny_Compare1 ?_))
  refine e_bi (id := "ord") (by kernel_rfl) (by kernel_rfl) rfl rfl G₀ (by decide +kernel) (by kernel_rfl) (by decide) ?_
  refine sp_cons (ldL (by kernel_rfl) (by kernel_rfl) rfl hns ea ?_)
  refine sp_nil (P.ord_of_char ?_)
  refine ldG (by kernel_rfl) (by kernel_rfl) rfl G₀ hc (by decide) ?_
  refine wpAny_inSet_of (knd := intKind PR w) (S := S) (n := n) (k := (c : Int)) ?_ ?_ hS ?_
  · exact decide_eq_true rfl
  · rfl
  · rw [hk]
    exact h _ ⟨B.keep, rfl⟩

theorem find_proj {k : Int} : ∀ {kvs : List (Int × Value)} {kxs : List (Int × Str)}, kvs.map kvP = kxs.map kxP →
    (kxs.find? (fun kx => kx.1 = k) = none → kvs.find? (fun kv => kv.1 = k) = none) ∧
    (∀ q, kxs.find? (fun kx => kx.1 = k) = some q → ∃ t, kvs.find? (fun kv => kv.1 = k) = some (k, .str q.2 t))
  | [], [], _ => ⟨fun _ => rfl, fun q h => by cases h⟩
  | [], _ :: _, h => by cases h
  | _ :: _, [], h => by cases h
  | (k₁, v₁) :: kvs, (k₂, x₂) :: kxs, h => by
    rw [List.map_cons, List.map_cons] at h
    injection h with h₁ h₂
    have ih := find_proj (k := k) h₂
    unfold kvP kxP at h₁
    injection h₁ with e₁ e₂
    dsimp only at e₁ e₂
    subst e₁
    by_cases hk : k₁ = k
    · refine ⟨fun q => ?_, fun q hq => ?_⟩
      · rw [List.find?_cons] at q; rw [show decide (((k₁, x₂) : Int × Str).1 = k) = true from decide_eq_true hk] at q; cases q
      · rw [List.find?_cons, show decide (((k₁, x₂) : Int × Str).1 = k) = true from decide_eq_true hk] at hq
        injection hq with hq
        subst hq
        rw [List.find?_cons, show decide (((k₁, v₁) : Int × Value).1 = k) = true from decide_eq_true hk]
        cases v₁ <;> first | (cases e₂; done) | skip
        injection e₂ with e₂
        subst e₂ hk
        exact ⟨_, rfl⟩
    · refine ⟨fun q => ?_, fun q hq => ?_⟩
      · rw [List.find?_cons, show decide (((k₁, x₂) : Int × Str).1 = k) = false from decide_eq_false hk] at q
        rw [List.find?_cons, show decide (((k₁, v₁) : Int × Value).1 = k) = false from decide_eq_false hk]
        exact ih.1 q
      · rw [List.find?_cons, show decide (((k₁, x₂) : Int × Str).1 = k) = false from decide_eq_false hk] at hq
        rw [List.find?_cons, show decide (((k₁, v₁) : Int × Value).1 = k) = false from decide_eq_false hk]
        exact ih.2 q hq

def b3At (k : Int) : Option Str := (Mine.b3.find? fun kx => kx.1 = k).map (·.2)
theorem b3_low : ((List.range 10).all fun i => b3At ((65 + i : Nat) : Int) == none) = true := by decide +kernel
theorem b3_high : ((List.range 10).all fun i => b3At ((119808 + i : Nat) : Int) == some ⟨#[97 + i]⟩) = true := by decide +kernel
theorem low_low : ((List.range 10).all fun i => Txt.lower ⟨#[65 + i]⟩ == ⟨#[97 + i]⟩) = true := by decide +kernel

theorem sp_b3 {a : Addr} {c i : Nat} {t : Tok} {Q : Value → Shared → Prop} (hi : i < 10) (hci : c = 65 + i ∨ c = 119808 + i) (G : GL w s.heap mg mb) (hroom : A.depth < recursionLimit) (ha : mg "map_table_b3" = some (.ref a)) (h : ∀ s' tk, Back s s' → Q (.str ⟨#[97 + i]⟩ tk) s') :
    wpAny (model PR w) A (call (.ref a) [.str ⟨#[c]⟩ t]) Q NoE s := by
  refine enter 8 (by simp [theDefs]) G hroom ha (binds := [("code", .str ⟨#[c]⟩ t)]) ?b ?c ?l (fun pm doc cd h₀ B sz hns => ?_) ?co ?g ?k
  case b => intro _ _ _; kernel_rfl
  case c => decide +kernel
  case l => kernel_rfl
  case co => kernel_rfl
  case g => kernel_rfl
  case k => kernel_rfl
  have ea : (fun y_1 => List.lookup y_1 [(Str.ofString "code", Value.str ⟨#[c]⟩ t)].reverse) "code" = some (.str ⟨#[c]⟩ t) := by kernel_rfl
  have G₀ := G.on B
  obtain ⟨d, kvs, hd, hD, hk, hdl⟩ := G₀.b3
  have hds : (d == sysModules) = false := beq_eq_false_iff_ne.mpr (Nat.ne_of_gt hdl)
  have hm : i ∈ List.range 10 := List.mem_range.mpr hi
  refine wpAny_execs_cons (wpAny_Assign_Name (wpAny_Call_method1_late rfl rfl rfl ?_))
  refine ldG (by kernel_rfl) (by kernel_rfl) rfl G₀ hd (by decide) ?_
  refine ⟨"dict", "dict.get", F.plainAttrs_dict, F.slot_dict_get, F.type_dict_get, hD.typeIs, hD.mapOf.noDict, ?_⟩
  refine wpAny_dict_get1 (knd := intKind PR w) hds ?_
  refine e_bi (id := "ord") (by kernel_rfl) (by kernel_rfl) rfl rfl G₀ (by decide +kernel) (by kernel_rfl) (by decide) ?_
  refine sp_cons (ldL (by kernel_rfl) (by kernel_rfl) rfl hns ea ?_)
  refine sp_nil (P.ord_of_char ?_)
  refine ⟨(c : Int), valueAt kvs, decide_eq_true rfl, hD.mapOf, ?_⟩
  rcases hci with hc | hc
  · have q := List.all_eq_true.mp b3_low i hm
    have q := eq_of_beq q
    rw [← hc] at q
    unfold b3At at q
    have q' := (find_proj hk).1 (Option.map_eq_none_iff.mp q)
    have hv : valueAt kvs (c : Int) = none := by unfold valueAt; rw [q']; rfl
    rw [hv]
    refine stL (by kernel_rfl) (by kernel_rfl) rfl hns fun h₁ hns₁ hs₁ => ?_
    refine wpAny_execs_cons (wpAny_If (wpAny_isTrue_Compare1 ?_))
    refine ldL (by kernel_rfl) (by kernel_rfl) rfl hns₁ (v := .none) (if_pos rfl) ?_
    refine wpAny_Constant_none ?_
    refine wpAny_isNot_self rfl (wpAny_truthy_bool ?_)
    refine wpAny_execs_nil ?_
    refine wpAny_execs_cons (wpAny_Return_some (Call_method0 rfl rfl ?_))
    refine ldL (by kernel_rfl) (by kernel_rfl) rfl hns₁ (v := .str ⟨#[c]⟩ t) ea ?_
    have ql := eq_of_beq (List.all_eq_true.mp low_low i hm)
    rw [← hc] at ql
    refine SB.lower ?_ ?_
    · rw [ql]; rfl
    · rw [ql]
      exact h _ _ ⟨fun b o e => hs₁.extBut b o (Nat.ne_of_lt (Heap.lt_size e)) (B.keep b o e), rfl⟩
  · have q := List.all_eq_true.mp b3_high i hm
    have q := eq_of_beq q
    rw [← hc] at q
    unfold b3At at q
    obtain ⟨q₀, q1, q2⟩ := Option.map_eq_some_iff.mp q
    obtain ⟨t', q'⟩ := (find_proj hk).2 _ q1
    rw [q2] at q'
    have hv : valueAt kvs (c : Int) = some (.str ⟨#[97 + i]⟩ t') := by unfold valueAt; rw [q']; rfl
    rw [hv]
    refine stL (by kernel_rfl) (by kernel_rfl) rfl hns fun h₁ hns₁ hs₁ => ?_
    refine wpAny_execs_cons (wpAny_If (wpAny_isTrue_Compare1 ?_))
    refine ldL (by kernel_rfl) (by kernel_rfl) rfl hns₁ (v := .str ⟨#[97 + i]⟩ t') (if_pos rfl) ?_
    refine wpAny_Constant_none ?_
    refine wpAny_isNot_other rfl (by intro q; cases q) (wpAny_truthy_bool ?_)
    refine wpAny_execs_cons (wpAny_Return_some ?_)
    refine ldL (by kernel_rfl) (by kernel_rfl) rfl hns₁ (v := .str ⟨#[97 + i]⟩ t') (if_pos rfl) ?_
    exact h _ _ ⟨fun b o e => hs₁.extBut b o (Nat.ne_of_lt (Heap.lt_size e)) (B.keep b o e), rfl⟩
end
end Mine
end

/-! part LOOP -/
section
set_option maxRecDepth 100000
open PySem PySem.W PyProof.Rows PySem.Calls
namespace Mine

/-! a frame's names as a list -/
abbrev lk (kvs : List (Str × Value)) : Str → Option Value := fun x => kvs.lookup x
def put : List (Str × Value) → Str → Value → List (Str × Value)
  | [], x, v => [(x, v)]
  | (y, u) :: r, x, v => if y = x then (y, v) :: r else (y, u) :: put r x v
theorem lk_put (kvs : List (Str × Value)) (x : Str) (v : Value) : lk (put kvs x v) = fun y => if y = x then some v else lk kvs y := by
  funext y
  induction kvs with
  | nil =>
    show List.lookup y [(x, v)] = _
    rw [List.lookup_cons]
    by_cases h : y = x
    · subst h; simp
    · rw [if_neg h, show (y == x) = false from beq_eq_false_iff_ne.mpr h]
  | cons a r ih =>
    obtain ⟨z, u⟩ := a
    show List.lookup y (if z = x then (z, v) :: r else (z, u) :: put r x v) = if y = x then some v else List.lookup y ((z, u) :: r)
    by_cases hz : z = x
    · subst hz
      rw [if_pos rfl, List.lookup_cons, List.lookup_cons]
      by_cases h : y = z
      · subst h; simp
      · rw [if_neg h, show (y == z) = false from beq_eq_false_iff_ne.mpr h]
    · rw [if_neg hz, List.lookup_cons, List.lookup_cons]
      by_cases h : y = z
      · subst h; simp [hz]
      · rw [show (y == z) = false from beq_eq_false_iff_ne.mpr h]
        exact ih

section
variable {w : World} {A : Around} {s : Shared} {env : Env}

/-- storing a local name -/
theorem stA {E : Value → Shared → Prop} {L : Addr} {x : Str} {kvs : List (Str × Value)} {v : Value} {Q : Unit → Shared → Prop} (hl : env.kindOf x = some .local) (hk : env.scope.kind = .function) (hL : env.locals = L) (hn : s.heap.Ns L (lk kvs))
    (h : ∀ s', Kp [L] s s' → s'.gens = s.gens → s'.heap.Ns L (lk (put kvs x v)) → Q () s') : wpAny (model PR w) A (storeName env x v) Q E s := by
  subst hL
  refine wpAny_storeName_local hl hn (fun h' hn' hs => h _ ⟨fun b o hb e => hs.extBut b o (fun q => hb (by rw [q]; exact List.mem_singleton.mpr rfl)) e, rfl, fun q => q⟩ rfl ?_) (by rw [hk]; rfl)
  rw [lk_put]; exact hn'
/-- a local name -/
theorem ldA {E : Value → Shared → Prop} {L : Addr} {x : Str} {pos : Pos} {kvs : List (Str × Value)} {v : Value} {Q : Value → Shared → Prop} (hk : env.scope.kind = .function) (hl : env.kindOf x = some .local) (hL : env.locals = L) (hn : s.heap.Ns L (lk kvs)) (hv : lk kvs x = some v)
    (h : Q v s) (hd : (x == ("__debug__" : Str)) = false := by decide) : wpAny (model PR w) A (eval (.Name x pos) env) Q E s := ldL hk hl hL hn hv h hd

/-! loops -/
def LoopR (w : World) (A : Around) (env : Env) (Q : Flow → Shared → Prop) : Result → Shared → Prop := fun r s' => match r with | .ok f => Q f s' | .error e => cameBackBy (model PR w) A env NoE e s'

theorem for_walk {tgt : Expr} {body : List Stmt} {I : Addr} {fp wr : List Addr} {n : Nat} {P : Nat → Value → Prop} {St : Nat → Heap → Prop} {Q : Flow → Shared → Prop}
    (W : Walks PR w A I fp wr n P St) (Inv : Nat → Shared → Prop)
    (stab : ∀ i s s', Inv i s → Kp wr s s' → s'.gens = s.gens → Inv i s')
    (h0 : St 0 s.heap) (i0 : Inv 0 s)
    (step : ∀ i v s₁, i < n → P i v → St (i + 1) s₁.heap → Inv i s₁ → wpAny (model PR w) A (letOwnedTupleGo tgt (.ref I) v) (fun _ s₁' => wpAny (model PR w) A (assign tgt env v) (fun _ s₂ => wpAny (model PR w) A (execs body env)
      (fun f s₃ => match f with | .next | .cont => Inv (i + 1) s₃ ∧ St (i + 1) s₃.heap | .brk => Q .next s₃ | .ret v => Q (.ret v) s₃) NoE s₂) NoE s₁') NoE s₁)
    (done : ∀ s', Inv n s' → Q .next s') :
    codeAny (model PR w) A (.forLoop tgt (.ref I) body [] env) (LoopR w A env Q) s := by
  refine codeAny_forLoop_any (fun k s' => ∃ i, i ≤ n ∧ k = n - i ∧ Inv i s' ∧ St i s'.heap) ?_ n ⟨0, Nat.zero_le _, rfl, i0, h0⟩
  rintro k s' ⟨i, hi, rfl, hinv, hst⟩
  by_cases hlt : i < n
  · refine W.item i _ _ _ hlt hst fun v h' tk hP hst' hk => ?_
    have hinv' := stab i s' { s' with heap := h', toks := tk } hinv ⟨hk, rfl, fun q => q⟩ rfl
    refine wpAny_mono (step i v _ hlt hP hst' hinv') (fun _ s₁ h₁ => wpAny_mono h₁ (fun _ s₂ h₂ => wpAny_mono h₂ (fun f s₃ h₃ => ?_) fun _ _ x => x.elim) fun _ _ x => x.elim) fun _ _ x => x.elim
    cases f with
    | next => exact ⟨n - (i + 1), by omega, i + 1, hlt, rfl, h₃.1, h₃.2⟩
    | cont => exact ⟨n - (i + 1), by omega, i + 1, hlt, rfl, h₃.1, h₃.2⟩
    | brk => exact h₃
    | ret v => exact h₃
  · have hin : i = n := by omega
    subst hin
    refine W.done _ _ _ hst fun h' tk hk => wpAny_execs_nil ?_
    exact done _ (stab _ s' { s' with heap := h', toks := tk } hinv ⟨hk, rfl, fun q => q⟩ rfl)

/-- a pair of names from a tuple -/
theorem assign_pair {E : Value → Shared → Prop} {x y : Str} {px py pt : Pos} {kt : Nat} {T : Addr} {u v : Value} {Q : Unit → Shared → Prop} (hh : A.handled = none) (hT : s.heap.IsTuple T #[u, v])
    (h : ∀ s₁, Back s s₁ → wpAny (model PR w) A (storeName env x u) (fun _ s₂ => wpAny (model PR w) A (storeName env y v) Q E s₂) E s₁) :
    wpAny (model PR w) A (assign (.Tuple [.Name x px, .Name y py] kt pt) env (.ref T)) Q E s := by
  refine wpAny_assign_Tuple hh hT rfl rfl fun h₁ hx₁ => ?_
  show wpAny _ A (do holding [v] (assign (.Name x px) env u); do holding [] (assign (.Name y py) env v); pure ()) _ _ _
  refine wpAny_bind (wpAny_holding (wpAny_assign_Name (wpAny_mono (h { s with heap := h₁ } ⟨fun b o e => hx₁ b o (Nat.ne_of_lt (Heap.lt_size e)) e, rfl⟩) (fun _ s₂ h₂ => ?_) fun _ _ x => x)))
  exact wpAny_bind (wpAny_holding (wpAny_assign_Name (wpAny_mono h₂ (fun _ s₃ h₃ => wpAny_pure h₃) fun _ _ x => x)))

theorem for_pairs {x y : Str} {px py pt : Pos} {kt : Nat} {body : List Stmt} {I : Addr} {fp wr : List Addr} {n : Nat} {Pt : Nat → Array Value → Prop} {St : Nat → Heap → Prop} {Mid : Nat → Addr → Heap → Prop} {Q : Flow → Shared → Prop}
    (hh : A.handled = none) (W : WalksT PR w A I fp wr n Pt St Mid) (Inv : Nat → Shared → Prop)
    (stab : ∀ i s s', Inv i s → Kp wr s s' → s'.gens = s.gens → Inv i s')
    (h0 : St 0 s.heap) (i0 : Inv 0 s)
    (step : ∀ i vals s₁, i < n → Pt i vals → St (i + 1) s₁.heap → Inv i s₁ → ∃ u v, vals = #[u, v] ∧ wpAny (model PR w) A (storeName env x u) (fun _ s₁' => wpAny (model PR w) A (storeName env y v) (fun _ s₂ => wpAny (model PR w) A (execs body env)
      (fun f s₃ => match f with | .next | .cont => Inv (i + 1) s₃ ∧ St (i + 1) s₃.heap | .brk => Q .next s₃ | .ret v => Q (.ret v) s₃) NoE s₂) NoE s₁') NoE s₁)
    (done : ∀ s', Inv n s' → Q .next s') :
    codeAny (model PR w) A (.forLoop (.Tuple [.Name x px, .Name y py] kt pt) (.ref I) body [] env) (LoopR w A env Q) s := by
  refine codeAny_forLoop_any (fun k s' => ∃ i, i ≤ n ∧ k = n - i ∧ Inv i s' ∧ St i s'.heap) ?_ n ⟨0, Nat.zero_le _, rfl, i0, h0⟩
  rintro k s' ⟨i, hi, rfl, hinv, hst⟩
  by_cases hlt : i < n
  · refine W.item i _ _ _ hlt hst fun T vals h' tk hP hTs hT hmid hk => ?_
    have hinv' := stab i s' { s' with heap := h', toks := tk } hinv ⟨hk, rfl, fun q => q⟩ rfl
    refine W.go _ _ _ i T _ _ _ hmid fun h₂ hst₂ hk₂ => ?_
    have hinv₂ := stab i _ { s' with heap := h₂, toks := tk } hinv' ⟨hk₂, rfl, fun q => q⟩ rfl
    have hT₂ : h₂.IsTuple T vals := by
      obtain ⟨o, ho, r⟩ := hT
      exact ⟨o, hk₂ T o (W.apart _ _ _ hmid) ho, r⟩
    have hc : ∃ u v, vals = #[u, v] := by
      obtain ⟨u, v, e, _⟩ := step i vals _ hlt hP hst₂ hinv₂
      exact ⟨u, v, e⟩
    obtain ⟨u, v, rfl⟩ := hc
    refine assign_pair hh hT₂ fun s₁ B₁ => ?_
    have hinv₃ := stab i _ s₁ hinv₂ (B₁.kp wr) (by rw [B₁.rest])
    have hst₃ := W.frame _ _ s₁.heap hst₂ fun b _ o e => B₁.keep b o e
    obtain ⟨u', v', e, hs⟩ := step i _ s₁ hlt hP hst₃ hinv₃
    have e1 : u' = u := by have := congrArg (fun a : Array Value => a[0]?) e; simpa using this.symm
    have e2 : v' = v := by have := congrArg (fun a : Array Value => a[1]?) e; simpa using this.symm
    subst e1 e2
    refine wpAny_mono hs (fun _ s₁ h₁ => wpAny_mono h₁ (fun _ s₂ h₂ => wpAny_mono h₂ (fun f s₃ h₃ => ?_) fun _ _ x => x.elim) fun _ _ x => x.elim) fun _ _ x => x.elim
    cases f with
    | next => exact ⟨n - (i + 1), by omega, i + 1, hlt, rfl, h₃.1, h₃.2⟩
    | cont => exact ⟨n - (i + 1), by omega, i + 1, hlt, rfl, h₃.1, h₃.2⟩
    | brk => exact h₃
    | ret v => exact h₃
  · have hin : i = n := by omega
    subst hin
    refine W.done _ _ _ hst fun h' tk hk => wpAny_execs_nil ?_
    exact done _ (stab _ s' { s' with heap := h', toks := tk } hinv ⟨hk, rfl, fun q => q⟩ rfl)

theorem while_inv {test : Expr} {body : List Stmt} {pos : Pos} {Q : Flow → Shared → Prop} (Inv : Nat → Shared → Prop) (n : Nat) (i0 : Inv n s)
    (turn : ∀ n s, Inv n s → wpAny (model PR w) A (isTrue test env (eval test env)) (fun b s₂ => if b = true then wpAny (model PR w) A (execs body env)
      (fun f s₃ => match f with | .next | .cont => ∃ m, m < n ∧ Inv m s₃ | .brk => Q .next s₃ | .ret v => Q (.ret v) s₃) NoE s₂ else Q .next s₂) NoE s) :
    wpAny (model PR w) A (exec (.While test body [] pos) env) Q NoE s := by
  refine wpAny_While (codeAny_whileLoop Inv (fun n s h => ?_) n i0)
  refine wpAny_mono (turn n s h) (fun b s₂ h₂ => ?_) fun _ _ x => x.elim
  split at h₂
  · rw [if_pos ‹_›]
    refine wpAny_mono h₂ (fun f s₃ h₃ => ?_) fun _ _ x => x.elim
    cases f <;> exact h₃
  · rw [if_neg ‹_›]
    exact wpAny_execs_nil h₂
end
end Mine
end

/-! part GEN -/
section
set_option maxRecDepth 100000
open PySem PySem.W PyProof.Rows PySem.Calls
namespace Mine

section
variable {w : World} {A : Around} {R : GenEnd} {Y : Protocol} {n : Nat} {s₀ : Shared} {c : Code} {fs : List Frame} {s : Shared} {env : Env}
  {K : Flow → Sem Fin} {H : Value → Sem Fin} {gd : Bool → Bool} {lv : List Value → List Value}

theorem seg_stmt {st : Stmt} (h : wpAny (model PR w) (A.over c fs) (exec st env) (fun f s' => Seg (model PR w) A R Y n s₀ c (K f) fs s') NoE s) : Seg (model PR w) A R Y n s₀ c ((exec st env).wrap K H gd lv) fs s :=
  seg_wrap (wpAny_mono h (fun _ _ x => x) fun _ _ x => x.elim)

theorem seg_If {test : Expr} {body orelse : List Stmt} {pos : Pos}
    (h : wpAny (model PR w) (A.over c fs) (isTrue test env (eval test env)) (fun b s' => if b = true then Seg (model PR w) A R Y n s₀ c ((execs body env).wrap K H gd lv) fs s' else Seg (model PR w) A R Y n s₀ c ((execs orelse env).wrap K H gd lv) fs s') NoE s) :
    Seg (model PR w) A R Y n s₀ c ((exec (.If test body orelse pos) env).wrap K H gd lv) fs s := by
  rw [exec_If]
  show Seg _ A R Y n s₀ c (.at pos fun _ => ((isTrue test env (eval test env)) >>= fun b => if b = true then execs body env else execs orelse env).wrap K H gd lv) fs s
  refine seg_at ?_
  rw [Sem.bind_eq_wrap', Sem.wrap_wrap]
  refine seg_wrap (wpAny_mono h (fun b s' hb => ?_) fun _ _ x => x.elim)
  cases b with
  | true => rw [if_pos rfl] at hb; exact hb
  | false => rw [if_neg Bool.false_ne_true] at hb; exact hb

theorem seg_For {tgt iter : Expr} {body : List Stmt} {pos : Pos}
    (h : wpAny (model PR w) (A.over c fs) (eval iter env) (fun x s₁ => wpAny (model PR w) (A.over c fs) (pyIter x) (fun it s' => ∀ p, Seg (model PR w) A R Y n s₀ (.forLoop tgt it body [] env) ((model PR w).den (.forLoop tgt it body [] env))
      (.ret (fun r => ((match r with | .ok f => (.pure f : Sem Flow) | .error e => .raise e).onRaise fun (x : Value) => do
        if (← field x 1) == Value.none then unsupported "frame.own-activation:exception-without-traceback"
        setFlight x env.frame).wrap K H gd lv) none (gd false) (lv []) c p [] :: fs) s') NoE s₁) NoE s)
    (hs : ∀ x, foldedSetIterable iter env x = pure x := by intro _; rfl) :
    Seg (model PR w) A R Y n s₀ c ((exec (.For tgt iter body [] pos) env).wrap K H gd lv) fs s := by
  rw [exec_For]
  show Seg _ A R Y n s₀ c (.at pos fun _ => ((eval iter env >>= fun v => foldedSetIterable iter env v >>= fun x => standAt iter.pos >>= fun _ => (holding [x] (pyIter x)) >>= fun it => runOwn (.forLoop tgt it body [] env) env)).wrap K H gd lv) fs s
  refine seg_at ?_
  rw [Sem.bind_eq_wrap', Sem.wrap_wrap]
  refine seg_wrap (wpAny_mono h (fun v s₁ h₁ => ?_) fun _ _ x => x.elim)
  rw [hs v]
  show Seg _ A R Y n s₀ c (.at iter.pos fun _ => ((holding [v] (pyIter v)) >>= fun it => runOwn (.forLoop tgt it body [] env) env).wrap K H gd lv) fs s₁
  refine seg_at ?_
  rw [Sem.bind_eq_wrap', Sem.wrap_wrap]
  refine seg_wrap (wpAny_holding (wpAny_mono h₁ (fun it s₂ h₂ => ?_) fun _ _ x => x.elim))
  exact seg_call h₂

def noteRaise (env : Env) : Value → Sem Fin := fun e => (do noteFrame e env; theTreesLotGoes e : Sem Unit).wrap (fun _ => .raise e) .raise id id
theorem seg_forLoop {tgt : Expr} {it : Value} {body : List Stmt}
    (h : wpAny (model PR w) (A.over (.forLoop tgt it body [] env) fs) (pyNext it) (fun r s' => match r with
      | none => Seg (model PR w) A R Y n s₀ (.block [] env) ((model PR w).den (.block [] env)) fs s'
      | some v => wpAny (model PR w) (A.over (.forLoop tgt it body [] env) fs) (letOwnedTupleGo tgt it v) (fun _ s₁ => wpAny (model PR w) (A.over (.forLoop tgt it body [] env) fs) (assign tgt env v) (fun _ s₂ =>
          Seg (model PR w) A R Y n s₀ (.forLoop tgt it body [] env) ((execs body env).wrap (fun f => match f with
            | .next | .cont => .pure (.again (.forLoop tgt it body [] env))
            | .brk => .pure (.done .next)
            | .ret v => .pure (.done (.ret v))) (noteRaise env) id id) fs s₂) NoE s₁) NoE s') NoE s) :
    Seg (model PR w) A R Y n s₀ (.forLoop tgt it body [] env) ((model PR w).den (.forLoop tgt it body [] env)) fs s := by
  show Seg _ A R Y n s₀ _ ((forTurn tgt it body [] env).onRaise (fun x => do noteFrame x env; theTreesLotGoes x)) fs s
  rw [Sem.onRaise_eq_wrap]
  unfold forTurn
  show Seg _ A R Y n s₀ _ (.at tgt.pos fun _ => ((((pyNext it).onRaise (fun _ => standAt { tgt.pos with line := 0 })) >>= fun r => match r with
    | none => again (.block [] env)
    | some v => letOwnedTupleGo tgt it v >>= fun _ => assign tgt env v >>= fun _ => execs body env >>= fun f => match f with
      | .next | .cont => again (.forLoop tgt it body [] env)
      | .brk => pure (.done .next)
      | .ret v => pure (.done (.ret v)))).wrap _ _ _ _) fs s
  refine seg_at ?_
  rw [Sem.bind_eq_wrap', Sem.wrap_wrap]
  refine seg_wrap (wpAny_onRaise (wpAny_mono h (fun r s₁ h₁ => ?_) fun _ _ x => x.elim))
  cases r with
  | none => exact seg_again rfl h₁
  | some v =>
    show Seg _ A R Y n s₀ _ ((letOwnedTupleGo tgt it v >>= _).wrap _ _ _ _) fs s₁
    rw [Sem.bind_eq_wrap', Sem.wrap_wrap]
    refine seg_wrap (wpAny_mono h₁ (fun _ s₂ h₂ => ?_) fun _ _ x => x.elim)
    show Seg _ A R Y n s₀ _ ((assign tgt env v >>= _).wrap _ _ _ _) fs s₂
    rw [Sem.bind_eq_wrap', Sem.wrap_wrap]
    refine seg_wrap (wpAny_mono h₂ (fun _ s₃ h₃ => ?_) fun _ _ x => x.elim)
    show Seg _ A R Y n s₀ _ ((execs body env >>= _).wrap _ _ _ _) fs s₃
    rw [Sem.bind_eq_wrap', Sem.wrap_wrap]
    rw [Sem.wrap_congr (execs body env) _ _ (K' := fun f => match f with
            | .next | .cont => .pure (.again (.forLoop tgt it body [] env))
            | .brk => .pure (.done .next)
            | .ret v => .pure (.done (.ret v))) (H' := noteRaise env)
        (fun f => by cases f <;> rfl)
        (fun e => by first | exact Sem.bind_eq_wrap _ _ | (show (do noteFrame e env; theTreesLotGoes e : Sem Unit).bind (fun _ => .raise e) = _; rw [Sem.bind_eq_wrap]; rfl))]
    exact h₃
end
end Mine
end

/-! part NEXTG -/
section
set_option maxRecDepth 100000
open PySem PySem.W PyProof.Rows PySem.Calls
namespace Mine

theorem lk_put_self (kvs : List (Str × Value)) (x : Str) (v : Value) : lk (put kvs x v) x = some v := by rw [lk_put]; exact if_pos rfl
theorem lk_put_ne {kvs : List (Str × Value)} {x y : Str} {v : Value} (h : y ≠ x) : lk (put kvs x v) y = lk kvs y := by rw [lk_put]; exact if_neg h

section
variable {w : World} {A : Around} {E : Value → Shared → Prop} {s : Shared}
theorem next_gen {a : Addr} {g n : Nat} {gs : GenState} {P : Nat → Shared → Shared → Prop} {Y : Protocol} {Q : Option Value → Shared → Prop} (hh : A.handled = none)
    (hl : s.heap.NoLimit) (hroom : A.depth < recursionLimit) (hg : s.heap.IsGen a g) (hgs : s.gens[g]? = some gs)
    (hgo : gs.Goes (model PR w) A.in1 (fun n s₀ r s₁ => r = .ok (.ret .none) ∧ P n s₀ s₁) Y n (.send .none) (s.setGen g .running))
    (hY : ∀ v s₁ gs', gs'.bare = true → Y (n - 1) (s.setGen g .running) v s₁ (fun r' s'' => match n with
        | 0 => False
        | m + 1 => gs'.Goes (model PR w) A.in1 (fun n s₀ r s₁ => r = .ok (.ret .none) ∧ P n s₀ s₁) Y m r' s'') → Q (some v) (s₁.setGen g gs'))
    (hP : ∀ s₁, P n (s.setGen g .running) s₁ → ∀ h', (∀ b o, s₁.heap.get? b = some o → h'.get? b = some o) → Q none { s₁.setGen g .finished with heap := h' }) :
    wpAny (model PR w) A (pyNext (.ref a)) Q E s := by
  unfold pyNext
  refine wpAny_bind (wpAny_attempt (wpAny_callSpecial?_slot (name := Str.ofString "__next__") hg.typeIs slot_gen_next (wpAny_call_entry slot_gen_next hg.typeIs entry_gen_next ?_ (args_gen_next _))))
  show wpAny _ A.in1 (Builtin.Generator.genWake (.ref a) (.send .none)) _ _ s
  unfold Builtin.Generator.genWake
  refine wpAny_bind (wpAny_holding (wpAny_genNumber hg (wpAny_bind (wpAny_genState hgs ?_))))
  have rest : (gs.Goes (model PR w) A.in1 (fun n s₀ r s₁ => r = .ok (.ret .none) ∧ P n s₀ s₁) Y n (.send .none) (s.setGen g .running)) := hgo
  cases gs with
  | running => exact hgo.elim
  | finished => exact hgo.elim
  | _ =>
    refine wpAny_bind (wpAny_roomToWake hl hroom ?_)
    refine wpAny_resumeQ hgs rest (fun z s₁ hz => ?_) fun v s₁ gs' hb hv => wpAny_pure ⟨v, rfl, wpAny_pure (hY v s₁ gs' hb hv)⟩
    obtain ⟨rfl, hp⟩ := hz
    show wpAny _ A.in1 (newExc (.type "StopIteration") [] >>= _) _ _ _
    refine wpAny_bind ?_
    simp only [newExc, newTuple]
    refine wpAny_bind (wpAny_newObj_type ?_ (by size_fits))
    refine wpAny_bind (m := firstArgMember _ _) (wpAny_of_eq (a := Value.none) (by first | rfl | (simp only [firstArgMember]; rfl)) ?_)
    refine wpAny_newObj_type ?_ (by size_fits)
    simp only [raiseNew]
    refine wpAny_bind (wpAny_bind (wpAny_handled ?_))
    rw [show A.in1.handled = none from hh]
    refine wpAny_throw (wpAny_bind (wpAny_isInstance (T := "StopIteration") (b := true) ⟨_, Heap.get?_push_size _ rfl, rfl⟩ isSubtype_stop (wpAny_pure ?_)))
    exact hP s₁ hp _ fun b o hb => Heap.get?_push_of_some _ (Heap.get?_push_of_some _ hb)
end

/-! the generator _iter_escaped_chars over a text without a backslash -/
section
variable {w : World}

abbrev Dom := Addr → Prop
def Alive (Dm : Dom) (h : Heap) : Prop := ∀ b, Dm b → h.get? b ≠ none
def KeepD (Dm : Dom) (h h' : Heap) : Prop := ∀ b o, Dm b → h.get? b = some o → h'.get? b = some o
theorem KeepD.trans {Dm : Dom} {a b c : Heap} (x : KeepD Dm a b) (y : KeepD Dm b c) : KeepD Dm a c := fun d o h e => y d o h (x d o h e)
theorem KeepD.alive {Dm : Dom} {a b : Heap} (x : KeepD Dm a b) (y : Alive Dm a) : Alive Dm b := fun d h => by
  cases e : a.get? d with
  | none => exact absurd e (y d h)
  | some o => rw [x d o h e]; exact fun q => nomatch q
theorem KeepD.of {Dm : Dom} {a b : Heap} (x : ∀ d o, a.get? d = some o → b.get? d = some o) : KeepD Dm a b := fun d o _ e => x d o e

structure SinceG (Dm : Dom) (s₀ s : Shared) : Prop where
  gens : s.gens = s₀.gens
  os : s.os = s₀.os
  keep : KeepD Dm s₀.heap s.heap
theorem SinceG.refl (Dm : Dom) (s : Shared) : SinceG Dm s s := ⟨rfl, rfl, fun _ _ _ e => e⟩
theorem SinceG.kp {Dm : Dom} {W : List Addr} {a b c : Shared} (x : SinceG Dm a b) (y : Kp W b c) (hg : c.gens = b.gens) (hW : ∀ d ∈ W, ¬ Dm d) : SinceG Dm a c :=
  ⟨hg.trans x.gens, y.os.trans x.os, x.keep.trans fun d o h e => y.keep d o (fun hm => hW d hm h) e⟩

def PG (Dm : Dom) : Nat → Shared → Shared → Prop := fun n s₀ s₁ => n = 0 ∧ SinceG Dm s₀ s₁
def YG (Dm : Dom) (W : List Addr) (x : Str) : Protocol := fun m s₀ v s' kap => ∃ i c T t₁ t₂, i + m + 1 = x.cps.size ∧ x.cps[i]? = some c ∧ v = .ref T ∧ s'.heap.IsTuple T #[.int (i : Nat) t₁, .str ⟨#[c]⟩ t₂] ∧ SinceG Dm s₀ s' ∧
  ∀ s'', (∀ b o, b ∉ W → s'.heap.get? b = some o → s''.heap.get? b = some o) → Alive Dm s''.heap → kap (.send .none) s''

structure GAt (w : World) (A : Around) (Dm : Dom) (W : List Addr) (x : Str) (a : Addr) (g m : Nat) (s : Shared) : Prop where
  isgen : s.heap.IsGen a g
  dom : Dm a
  st : ∃ gs, s.gens[g]? = some gs ∧ ∀ s'', (∀ b o, b ∉ W → s.heap.get? b = some o → s''.heap.get? b = some o) → Alive Dm s''.heap →
    gs.Goes (model PR w) A.in1 (fun n s₀ r s₁ => r = .ok (.ret .none) ∧ PG Dm n s₀ s₁) (YG Dm W x) m (.send .none) s''

variable {A : Around} {E : Value → Shared → Prop} {s : Shared} {Dm : Dom} {W : List Addr} {x : Str} {a : Addr} {g m : Nat}
/-- one step of the generator -/
theorem GAt.next {Q : Option Value → Shared → Prop} (X : GAt w A Dm W x a g m s) (hal : Alive Dm s.heap) (hh : A.handled = none) (hl : s.heap.NoLimit) (hlD : Dm cStatics) (hroom : A.depth < recursionLimit)
    (hY : ∀ i c T t₁ t₂ s', m ≠ 0 → i + m = x.cps.size → x.cps[i]? = some c → s'.heap.IsTuple T #[.int (i : Nat) t₁, .str ⟨#[c]⟩ t₂] → KeepD Dm s.heap s'.heap → s'.os = s.os → (AllBare s.gens → AllBare s'.gens) →
      GAt w A Dm W x a g (m - 1) s' → Q (some (.ref T)) s')
    (hP : ∀ s', m = 0 → KeepD Dm s.heap s'.heap → s'.os = s.os → (AllBare s.gens → AllBare s'.gens) → Q none s') :
    wpAny (model PR w) A (pyNext (.ref a)) Q E s := by
  obtain ⟨gs, hgs, hgo⟩ := X.st
  refine next_gen hh hl hroom X.isgen hgs (hgo (s.setGen g .running) (fun _ _ _ e => e) hal) (fun v s₁ gs' hb hv => ?_) fun s₁ hp h' hk => ?_
  · obtain ⟨i, c, T, t₁, t₂, hi, hc, rfl, hT, hS, hkap⟩ := hv
    cases m with
    | zero => exact (hkap s₁ (fun _ _ _ e => e) (hS.keep.alive hal)).elim
    | succ m =>
      have hG : s₁.gens = s.gens.setIfInBounds g .running ∨ s₁.gens = (s.setGen g .running).gens := .inr hS.gens
      have self : (s₁.setGen g gs').gens[g]? = some gs' := setGen_self (gs := .running) (by rw [hS.gens]; exact setGen_self hgs)
      refine hY i c T t₁ t₂ _ (Nat.succ_ne_zero m) (by omega) hc hT hS.keep hS.os (fun hb' => ?_) ⟨?_, X.dom, gs', self, fun s'' hk hal'' => hkap s'' hk hal''⟩
      · have : GenOnly g s.gens (s₁.setGen g gs').gens := by
          have h1 := GenOnly.setGen s g .running
          have h2 := GenOnly.setGen s₁ g gs'
          rw [hS.gens] at h2
          exact h1.trans h2
        exact hb'.moved (.of this self hb)
      · obtain ⟨o, nm, qn, ho, r⟩ := X.isgen
        exact ⟨o, nm, qn, hS.keep a o X.dom ho, r⟩
  · obtain ⟨rfl, hS⟩ := hp
    refine hP _ rfl (hS.keep.trans (.of hk)) hS.os fun hb' => ?_
    have self : (s₁.setGen g .finished).gens[g]? = some .finished := setGen_self (gs := .running) (by rw [hS.gens]; exact setGen_self hgs)
    have : GenOnly g s.gens (s₁.setGen g .finished).gens := by
      have h1 := GenOnly.setGen s g .running
      have h2 := GenOnly.setGen s₁ g .finished
      rw [hS.gens] at h2
      exact h1.trans h2
    exact hb'.moved (.of this self rfl)
end
end Mine
end

/-! part GENB -/
section
set_option maxRecDepth 100000
open PySem PySem.W PyProof.Rows PySem.Calls
namespace Mine

def forS : Stmt := (D 0).body.getD 2 (.Pass ⟨0, 0, 0, 0⟩)
def tailS : Stmt := (D 0).body.getD 3 (.Pass ⟨0, 0, 0, 0⟩)
def loopBody : List Stmt := match forS with | .For _ _ b _ _ => b | _ => []
def loopTgt : Expr := match forS with | .For t _ _ _ _ => t | _ => .Constant .none 0 ⟨0, 0, 0, 0⟩

section
variable {w : World} {A : Around} {Dm : Dom} {W : List Addr} {x : Str} {t : Tok} {s₀ : Shared} {pm doc : Value} {cd L a : Addr}

/-- the frame of the generator at rest -/
structure GFr (Dm : Dom) (L : Addr) (s₀ s : Shared) : Prop where
  since : SinceG Dm s₀ s
  ns : ∃ kvs, s.heap.Ns L (lk kvs) ∧ lk kvs "escape" = some (.bool false)

theorem genLoop {c₁ : Code} {St : Nat → Heap → Prop} {it e : Addr} (hh : A.handled = none) (hx : ∀ (i c : Nat), x.cps[i]? = some c → c ≠ 92) (hL : ¬ Dm L) (he : ¬ Dm e) (hit : ¬ Dm it) (hei : e ≠ it) (heL : e ≠ L) (hiL : it ≠ L)
    (heW : e ∉ W) (hiW : it ∉ W) (hLW : L ∉ W)
    (DR : ∀ A' : Around, A'.handled = none → Draws PR w A' it [it] x.cps.size (fun i v => ∃ c u, x.cps[i]? = some c ∧ v = .str ⟨#[c]⟩ u) St)
    (K : Result → Sem Fin) (p : Pos) (g : Bool) (lv : List Value) (hg : g = false)
    (fin : ∀ s₀ s n, n = 0 → SinceG Dm s₀ s → (∃ kvs, s.heap.Ns L (lk kvs) ∧ lk kvs "escape" = some (.bool false)) → Seg (model PR w) A (fun n s₀ r s₁ => r = .ok (.ret .none) ∧ PG Dm n s₀ s₁) (YG Dm W x) n s₀ c₁ (K (.ok .next)) [] s)  :
    ∀ (m i : Nat) (s₀ s : Shared), i + m = x.cps.size → SinceG Dm s₀ s → (∃ kvs, s.heap.Ns L (lk kvs) ∧ lk kvs "escape" = some (.bool false)) → (∃ old, IsEnum s.heap e it (i : Nat) old) → St i s.heap →
      Seg (model PR w) A (fun n s₀ r s₁ => r = .ok (.ret .none) ∧ PG Dm n s₀ s₁) (YG Dm W x) m s₀ (.forLoop loopTgt (.ref e) loopBody [] (En 0 pm doc cd L a))
        ((model PR w).den (.forLoop loopTgt (.ref e) loopBody [] (En 0 pm doc cd L a))) [.ret K none g lv c₁ p []] s
  | m, i, s₀, s, hi, hS, ⟨kvs, hns, hesc⟩, ⟨old, hen⟩, hst => by
    have hA : (A.over (.forLoop loopTgt (.ref e) loopBody [] (En 0 pm doc cd L a)) [.ret K none g lv c₁ p []]).handled = none := by
      exact hh
    refine seg_forLoop ?_
    cases m with
    | zero =>
      have hin : i = x.cps.size := by omega
      subst hin
      refine wpAny_pyNext_enum_endD (DR _ hA) hen hst fun h' hx' => ?_
      show Seg _ A _ _ 0 s₀ _ ((model PR w).den (.block [] (En 0 pm doc cd L a))) _ _
      refine seg_leaf (.ok .next) (fin _ _ _ rfl ⟨hS.gens, hS.os, hS.keep.trans fun d o hd q => hx' d o (fun r => hit (r ▸ hd)) q⟩ ⟨kvs, ?_, hesc⟩)
      exact hns.extBut hx' (Ne.symm hiL)
    | succ m =>
      refine wpAny_pyNext_enum_itemD (DR _ hA) hen hst (by omega) hei (by simpa using hei) fun v h' tk hP ho hst' hT hsz hk => ?_
      obtain ⟨c, u, hc, rfl⟩ := hP
      refine wpAny_letOwnedTupleGo_enum ho fun h₁ he₁ hs₁ => ?_
      have hTe : s.heap.objs.size ≠ e := Nat.ne_of_gt (Heap.lt_size hen)
      have live := (DR A hh).live _ _ hst
      have hTi : s.heap.objs.size ≠ it := by obtain ⟨_, y⟩ := live; exact Nat.ne_of_gt (Heap.lt_size y)
      refine assign_pair hA (T := s.heap.objs.size) ⟨_, (hs₁.2 _ hTe).trans hT, rfl, _, rfl⟩ fun s₂ B₂ => ?_
      have hns₂ : s₂.heap.Ns L (lk kvs) := ((hns.at fun o q => hk _ o (Ne.symm heL) (Ne.symm hiL) q).sameBut hs₁ (Ne.symm heL)).at fun o q => B₂.keep _ o q
      have hen₂ : IsEnum s₂.heap e it ((i : Nat) + 1 : Int) (.str ⟨#[c]⟩ u) := B₂.keep _ _ he₁
      have hst₂ : St (i + 1) s₂.heap := (DR A hh).frame _ _ _ hst' fun b hb o q => B₂.keep _ _ ((hs₁.2 b (by rw [List.mem_singleton.mp hb]; exact Ne.symm hei)).trans q)
      have hS₂ : SinceG Dm s₀ s₂ := by
        refine ⟨?_, ?_, ?_⟩
        · rw [B₂.rest]; exact hS.gens
        · rw [B₂.rest]; exact hS.os
        · refine hS.keep.trans fun d o hd q => B₂.keep _ _ (((hs₁.2 d fun r => he (r ▸ hd))).trans (hk d o (fun r => he (r ▸ hd)) (fun r => hit (r ▸ hd)) q))
      refine stA (L := L) (by kernel_rfl) (by kernel_rfl) rfl hns₂ fun s₃ K₃ g₃ hns₃ => ?_
      refine stA (L := L) (by kernel_rfl) (by kernel_rfl) rfl hns₃ fun s₄ K₄ g₄ hns₄ => ?_
      have up : ∀ b o, b ≠ L → s₂.heap.get? b = some o → s₄.heap.get? b = some o := fun b o hb q => K₄.keep b o (by simpa using hb) (K₃.keep b o (by simpa using hb) q)
      have hen₄ := up _ _ heL hen₂
      have hst₄ : St (i + 1) s₄.heap := (DR A hh).frame _ _ _ hst₂ fun b hb o q => up b o (by rw [List.mem_singleton.mp hb]; exact hiL) q
      have hS₄ : SinceG Dm s₀ s₄ := (hS₂.kp K₃ g₃ (by simpa using hL)).kp K₄ g₄ (by simpa using hL)
      have esc₄ : lk (put (put kvs "pos" (.int (i : Nat) tk)) "ch" (.str ⟨#[c]⟩ u)) "escape" = some (.bool false) := by
        rw [lk_put_ne (by decide), lk_put_ne (by decide)]; exact hesc
      have pos₄ : lk (put (put kvs "pos" (.int (i : Nat) tk)) "ch" (.str ⟨#[c]⟩ u)) "pos" = some (.int (i : Nat) tk) := by
        rw [lk_put_ne (by decide), lk_put_self]
      have ch₄ : lk (put (put kvs "pos" (.int (i : Nat) tk)) "ch" (.str ⟨#[c]⟩ u)) "ch" = some (.str ⟨#[c]⟩ u) := lk_put_self _ _ _
      clear hns₃ hns₂ hns K₄ K₃ up hen₂ hst₂ hS₂ B₂
      refine seg_execs_cons (seg_If (wpAny_isTrue_value ?_))
      refine ldA (by kernel_rfl) (by kernel_rfl) rfl hns₄ esc₄ (wpAny_truthy_bool ?_)
      rw [if_neg Bool.false_ne_true]
      refine seg_execs_cons (seg_If (wpAny_isTrue_Compare1 ?_))
      refine ldA (by kernel_rfl) (by kernel_rfl) rfl hns₄ ch₄ ?_
      refine wpAny_Constant_str ?_
      refine PySem.P.eq_str (wpAny_truthy_bool ?_)
      have hc92 : (((⟨#[c]⟩ : Str).cps.toList == (Str.ofString "\\").cps.toList) = false) := by
        have h92 := hx i c hc
        show ([c] == [92]) = false
        simpa using h92
      rw [hc92, if_neg Bool.false_ne_true]
      refine seg_execs_cons (seg_Expr_Yield rfl rfl (by rw [hg]; rfl) ?_)
      refine e_tuple (sp_cons (ldA (by kernel_rfl) (by kernel_rfl) rfl hns₄ pos₄ (sp_cons (ldA (by kernel_rfl) (by kernel_rfl) rfl hns₄ ch₄ (sp_nil ⟨by size_fits, fun kap hkap => ?_⟩)))))
      refine ⟨i, c, _, tk, u, by omega, hc, rfl, ⟨_, Heap.get?_push_size _ rfl, rfl, _, rfl⟩, ⟨hS₄.gens, hS₄.os, hS₄.keep.trans (.of fun b o q => Heap.get?_push_of_some _ q)⟩, fun s'' hk'' hal => ?_⟩
      refine hkap .none s'' ?_
      have up₅ : ∀ b o, b ∉ W → s₄.heap.get? b = some o → s''.heap.get? b = some o := fun b o hb q => hk'' b o hb (Heap.get?_push_of_some _ q)
      show Seg _ A _ _ m s'' _ (.pure (.again (.forLoop loopTgt (.ref e) loopBody [] (En 0 pm doc cd L a)))) _ _
      refine seg_again rfl ?_
      refine genLoop hh hx hL he hit hei heL hiL heW hiW hLW DR K p g lv hg fin m (i + 1) s'' s'' (by omega) (SinceG.refl Dm s'') ⟨_, hns₄.at fun o q => up₅ _ o hLW q, esc₄⟩ ⟨_, up₅ _ _ heW hen₄⟩ ?_
      exact (DR A hh).frame _ _ _ hst₄ fun b hb o q => up₅ b o (by rw [List.mem_singleton.mp hb]; exact hiW) q

theorem wpAny_pyIter_enum' {e it : Addr} {i : Int} {old : Value} {E : Value → Shared → Prop} {s : Shared} {Q : Value → Shared → Prop} (he : IsEnum s.heap e it i old) (h : Q (.ref e) s) : wpAny (model PR w) A (pyIter (.ref e)) Q E s := wpAny_pyIter_enum he h

/-- a call of _iter_escaped_chars: a generator at its start -/
theorem gen_call {s : Shared} {mg mb : Str → Option Value} {h₀ : Heap} {f : Addr} {Q : Value → Shared → Prop} (hx : ∀ (i c : Nat), x.cps[i]? = some c → c ≠ 92) (G : GL w h₀ mg mb) (hW : ∀ b ∈ W, h₀.get? b = none) (hWs : ∀ b ∈ W, b < s.heap.objs.size)
    (hk : ∀ b o, h₀.get? b = some o → s.heap.get? b = some o) (hh : A.handled = none) (hroom : A.depth < recursionLimit) (ha : mg "_iter_escaped_chars" = some (.ref f))
    (h : ∀ s' a' g Dm, s.heap.get? a' = none → (∀ b o, s.heap.get? b = some o → s'.heap.get? b = some o) → s'.os = s.os → (AllBare s.gens → AllBare s'.gens) → (∀ b o, s.heap.get? b = some o → Dm b) → Alive Dm s'.heap → GAt w A Dm W x a' g x.cps.size s' → Q (.ref a') s') :
    wpAny (model PR w) A (call (.ref f) [.str x t]) Q NoE s := by
  have G₁ := G.keep hk
  obtain ⟨a', o, pm, cd, doc, q1, q2, q3, q4, q5, q6⟩ := G₁.fn (D 0) (by simp [theDefs])
  have ha' : mg "_iter_escaped_chars" = some (.ref a') := q1
  rw [ha] at ha'
  cases ha'
  have hb : bindArgs ((D 0).data pm (.ref cd) doc) ⟨[.str x t], []⟩ = pure [(Str.ofString "addr", Value.str x t)] := by kernel_rfl
  have hcell : ∀ x ∈ (D 0).scope.names, x.2 ≠ .cell := by
    have : ((D 0).scope.names.all fun x => x.2 != .cell) = true := by decide +kernel
    intro x hx e
    have := List.all_eq_true.mp this x hx
    rw [e] at this
    exact absurd this (by decide)
  refine wpAny_call (codeAny_call_generator hroom q2 q3 (by kernel_rfl) (by kernel_rfl) rfl q4 (BindsTo.of_eq hb _ _ _ _ ?_))
  refine wpAny_newFunctionEnv (binds := [(Str.ofString "addr", Value.str x t)]) hcell ?_ (fun h₁ hns₁ hsb₁ => ⟨G₁.lim.fresh _ hsb₁, ?_⟩) (by kernel_rfl)
  · intro y hy
    rw [List.mem_singleton.mp hy]
    kernel_rfl
  · have keep₁ : ∀ b o, s.heap.get? b = some o → h₁.get? b = some o := fun b o e => hsb₁.extBut b o (Nat.ne_of_lt (Heap.lt_size e)) (Heap.get?_push_of_some _ e)
    have hs1 : h₁.objs.size = s.heap.objs.size + 1 := by rw [hsb₁.1, Heap.size_push]
    let L := s.heap.objs.size
    let go : Obj := { cls := .type "generator", data := .fields #[.int s.gens.size 0, .str ((D 0).data pm (.ref cd) doc).name (s.toks + [((Str.ofString "addr"), Value.str x t)].length), .str ((D 0).data pm (.ref cd) doc).qualname ((s.toks + [((Str.ofString "addr"), Value.str x t)].length) + 1)] }
    have hGL : h₁.objs.size ≠ s.heap.objs.size := by rw [hs1]; exact Nat.succ_ne_self _
    refine h _ _ _ (fun b => (h₁.push go).get? b ≠ none ∧ b ≠ s.heap.objs.size) (Heap.get?_none_of_le (by rw [hs1]; exact Nat.le_succ _)) (fun b o e => Heap.get?_push_of_some _ (keep₁ b o e)) rfl (fun hb => hb.push rfl) (fun b o e => ⟨?_, Nat.ne_of_lt (Heap.lt_size e)⟩) (fun b hb => hb.1) ⟨⟨_, _, _, Heap.get?_push_size _ rfl, rfl, rfl, rfl⟩, ⟨?_, hGL⟩, ?_⟩
    · rw [Heap.get?_push_of_some _ (keep₁ b o e)]; exact fun q => nomatch q
    · rw [Heap.get?_push_size _ rfl]; exact fun q => nomatch q
    refine ⟨_, Array.getElem?_push_size .., fun s'' hkW hal => ⟨rfl, ?_⟩⟩
    have keep₂ : ∀ b o, b ∉ W → h₁.get? b = some o → s''.heap.get? b = some o := fun b o hb q => hkW b o hb (Heap.get?_push_of_some _ q)
    have hLW : s.heap.objs.size ∉ W := fun q => Nat.lt_irrefl _ (hWs _ q)
    have G₂ : GL w s''.heap mg mb := G.keep fun b o e => by
      have hb : b ∉ W := fun q => by rw [hW b q] at e; cases e
      exact keep₂ b o hb (keep₁ b o (hk b o e))
    have hns₂ : s''.heap.Ns s.heap.objs.size (lk [("addr", Value.str x t)]) := hns₁.at fun o q => keep₂ _ o hLW q
    refine seg_func ?_
    refine seg_execs_cons (seg_stmt (wpAny_Assign_Name (wpAny_Constant_int (stA (L := s.heap.objs.size) (by kernel_rfl) (by kernel_rfl) rfl hns₂ fun s₃ K₃ g₃ hns₃ => ?_))))
    refine seg_execs_cons (seg_stmt (wpAny_Assign_Name (wpAny_Constant_bool (stA (L := s.heap.objs.size) (by kernel_rfl) (by kernel_rfl) rfl hns₃ fun s₄ K₄ g₄ hns₄ => ?_))))
    have K₃' : Kp [s.heap.objs.size] s'' s₃ := ⟨K₃.keep, K₃.os, K₃.bare⟩
    have S₄ : SinceG (fun b => (h₁.push go).get? b ≠ none ∧ b ≠ s.heap.objs.size) s'' s₄ := ((SinceG.refl _ s'').kp K₃' g₃ (by simp)).kp K₄ g₄ (by simp)
    have G₄ : GL w s₄.heap mg mb := G.keep fun b o e => by
      have hb : b ∉ W := fun q => by rw [hW b q] at e; cases e
      have hbL : b ≠ s.heap.objs.size := Nat.ne_of_lt (Heap.lt_size (hk b o e))
      exact K₄.keep b o (by simpa using hbL) (K₃.keep b o (by simpa using hbL) (keep₂ b o hb (keep₁ b o (hk b o e))))
    refine seg_execs_cons (seg_For ?_)
    refine e_ty (id := "enumerate") (by kernel_rfl) (by kernel_rfl) rfl rfl G₄ (by decide +kernel) (by kernel_rfl) (by decide) ?_
    refine sp_cons (ldA (v := .str x t) (by kernel_rfl) (by kernel_rfl) rfl hns₄ (by kernel_rfl) (sp_nil ?_))
    refine call_enumerate_str fun h₅ hen hit hsz₅ k₅ => ?_
    refine wpAny_pyIter_enum' hen fun p => ?_
    have al₄ := S₄.keep.alive hal
    have nD : ∀ b, s₄.heap.get? b = none → ¬ ((h₁.push go).get? b ≠ none ∧ b ≠ s.heap.objs.size) := fun b q hb => al₄ b hb q
    have f1 : s₄.heap.get? s₄.heap.objs.size = none := Heap.get?_none_of_le (Nat.le_refl _)
    have f2 : s₄.heap.get? (s₄.heap.objs.size + 1) = none := Heap.get?_none_of_le (Nat.le_succ _)
    have hL4 : s.heap.objs.size < s₄.heap.objs.size := hns₄.lt
    have hWn : ∀ b, s₄.heap.objs.size ≤ b → b ∉ W := fun b hb hm => absurd (hWs b hm) (Nat.not_lt.mpr (Nat.le_trans (Nat.le_of_lt hL4) hb))
    have hh1 : A.in1.handled = none := hh
    have DR : ∀ A' : Around, A'.handled = none → Draws PR w A' s₄.heap.objs.size [s₄.heap.objs.size] x.cps.size (fun i v => ∃ c u, x.cps[i]? = some c ∧ v = .str ⟨#[c]⟩ u) (fun i h => h.IsStrIter s₄.heap.objs.size (strIterType x) x t i) := by
      intro A' hA'
      by_cases hasc : strIterType x = "str_iterator"
      · rw [hasc]; exact Draws.strWide hA' _ x t
      · have : strIterType x = "str_ascii_iterator" := by
          unfold strIterType at hasc ⊢
          split
          · rfl
          · rename_i q; simp [q] at hasc
        rw [this]; exact Draws.strAscii hA' _ x t
    have S₅ : SinceG (fun b => (h₁.push go).get? b ≠ none ∧ b ≠ s.heap.objs.size) s'' { s₄ with heap := h₅ } := ⟨S₄.gens, S₄.os, S₄.keep.trans (.of k₅)⟩
    refine genLoop (St := fun i h => h.IsStrIter s₄.heap.objs.size (strIterType x) x t i) hh1 hx (fun q => q.2 rfl) (nD _ f2) (nD _ f1) (Nat.succ_ne_self _) (Nat.ne_of_gt (Nat.lt_succ_of_lt hL4)) (Nat.ne_of_gt hL4) (hWn _ (Nat.le_succ _)) (hWn _ (Nat.le_refl _)) hLW DR _ p _ _ rfl ?_
      x.cps.size 0 s'' _ (by omega) S₅ ⟨_, hns₄.at fun o q => k₅ _ o q, by kernel_rfl⟩ ⟨_, hen⟩ hit
    rintro s₀ s₅ n rfl hS ⟨kvs, hn, he⟩
    show Seg _ A.in1 _ _ 0 s₀ _ ((execs [tailS] _).wrap _ _ _ _) [] s₅
    refine seg_execs_cons (seg_If (wpAny_isTrue_value ?_))
    refine ldA (L := s.heap.objs.size) (by kernel_rfl) (by kernel_rfl) rfl hn he (wpAny_truthy_bool ?_)
    rw [if_neg Bool.false_ne_true]
    refine seg_execs_nil ?_
    refine seg_execs_nil ?_
    exact seg_end (.ok (.ret .none)) ⟨rfl, rfl, hS⟩
end
end Mine
end

/-! part PLAIN -/
section
namespace Mine

/-- the walk of _check_parenthesis over character codes -/
def chk : Int → List Nat → Bool
  | k, [] => decide (k = 0)
  | k, c :: cs => if c = 40 then chk (k + 1) cs else if c = 41 then (if k - 1 < 0 then false else chk (k - 1) cs) else chk k cs

/-- the bracket of a sign -/
def mk (d : Nat) : Nat := if d < 2 then 40 else if d = 2 then 41 else 45

/-- the while loop that seeks a stretch's end -/
def seek (ms : List Nat) (s : Nat) : Nat → Nat → Nat
  | 0, e => e
  | f + 1, e => if ms[s]? = some 40 ∧ e < ms.length ∧ chk 0 ((ms.drop s).take (e + 1 - s)) = false then seek ms s f (e + 1) else e
def endOf (ms : List Nat) (s : Nat) : Nat := seek ms s (ms.length + 1) s

def upOdd (l : Nat) : Nat := l + 1 + l % 2
def upEven (l : Nat) : Nat := l + 2 - l % 2

/-- the level of the letter at `p`: over the starts below n -/
def lev (ds : List Nat) (p : Nat) : Nat → Nat
  | 0 => 0
  | n + 1 => if endOf (ds.map mk) n > p then (if ds[n]? = some 1 then upOdd (lev ds p n) else upEven (lev ds p n)) else lev ds p n

def toldUpto (ds : List Nat) : Nat → List (Nat × Nat)
  | 0 => []
  | p + 1 => if (ds.map mk)[p]? = some 45 then toldUpto ds p ++ [(97 + p, lev ds p p)] else toldUpto ds p
def told (ds : List Nat) : List (Nat × Nat) := toldUpto ds ds.length

/-- the pile -/
structure St where
  pile : List Nat   -- above the bottom 0, top first
  plain : List (Nat × Nat)
  spare : Nat
def top (pile : List Nat) : Nat := pile.headD 0
def turn (p d : Nat) (s : St) : St :=
  if d = 0 then { s with pile := upEven (top s.pile) :: s.pile }
  else if d = 1 then { s with pile := upOdd (top s.pile) :: s.pile }
  else if d = 2 then { s with spare := s.spare + (if s.pile = [] then 1 else 0), pile := s.pile.tail }
  else { s with plain := s.plain ++ [(97 + p, top s.pile)] }
def runUpto (ds : List Nat) : Nat → St
  | 0 => ⟨[], [], 0⟩
  | p + 1 => match ds[p]? with | some d => turn p d (runUpto ds p) | none => runUpto ds p
def run (ds : List Nat) : St := runUpto ds ds.length

/-! the count -/
def go : Nat → List Nat → Option Nat
  | k, [] => some k
  | k, c :: cs => if c = 40 then go (k + 1) cs else if c = 41 then (if k = 0 then none else go (k - 1) cs) else go k cs
theorem go_cons (k c : Nat) (cs : List Nat) : go k (c :: cs) = if c = 40 then go (k + 1) cs else if c = 41 then (if k = 0 then none else go (k - 1) cs) else go k cs := rfl
theorem chk_go : ∀ (cs : List Nat) (k : Nat), chk (k : Int) cs = decide (go k cs = some 0)
  | [], k => by
    show decide ((k : Int) = 0) = decide (some k = some 0)
    by_cases h : k = 0
    · subst h; rfl
    · rw [decide_eq_false (by omega), decide_eq_false (by intro e; exact h (Option.some.inj e))]
  | c :: cs, k => by
    unfold chk go
    by_cases h1 : c = 40
    · rw [if_pos h1, if_pos h1]
      exact chk_go cs (k + 1)
    · rw [if_neg h1, if_neg h1]
      by_cases h2 : c = 41
      · rw [if_pos h2, if_pos h2]
        by_cases h3 : k = 0
        · subst h3; simp
        · rw [if_neg h3, if_neg (by omega)]
          have e : (k : Int) - 1 = ((k - 1 : Nat) : Int) := by omega
          rw [e]
          exact chk_go cs (k - 1)
      · rw [if_neg h2, if_neg h2]
        exact chk_go cs k
theorem go_append : ∀ (cs ds : List Nat) (k : Nat), go k (cs ++ ds) = (go k cs).bind fun j => go j ds
  | [], ds, k => rfl
  | c :: cs, ds, k => by
    rw [List.cons_append, go_cons, go_cons]
    by_cases h1 : c = 40
    · rw [if_pos h1, if_pos h1]; exact go_append cs ds (k + 1)
    · rw [if_neg h1, if_neg h1]
      by_cases h2 : c = 41
      · rw [if_pos h2, if_pos h2]
        by_cases h3 : k = 0
        · rw [if_pos h3, if_pos h3]; rfl
        · rw [if_neg h3, if_neg h3]; exact go_append cs ds (k - 1)
      · rw [if_neg h2, if_neg h2]; exact go_append cs ds k

/-! the starts that are open -/
def opens (ds : List Nat) : Nat → List Nat
  | 0 => []
  | p + 1 => match ds[p]? with
    | some d => if d < 2 then p :: opens ds p else if d = 2 then (opens ds p).tail else opens ds p
    | none => opens ds p
theorem opens_succ (ds : List Nat) (p : Nat) : opens ds (p + 1) = match ds[p]? with
    | some d => if d < 2 then p :: opens ds p else if d = 2 then (opens ds p).tail else opens ds p
    | none => opens ds p := rfl
theorem opens_lt (ds : List Nat) : ∀ p, ∀ s ∈ opens ds p, s < p
  | 0, s, h => by cases h
  | p + 1, s, h => by
    unfold opens at h
    split at h
    · split at h
      · rcases List.mem_cons.mp h with rfl | h
        · exact Nat.lt_succ_self _
        · exact Nat.lt_succ_of_lt (opens_lt ds p s h)
      · split at h
        · exact Nat.lt_succ_of_lt (opens_lt ds p s (List.mem_of_mem_tail h))
        · exact Nat.lt_succ_of_lt (opens_lt ds p s h)
    · exact Nat.lt_succ_of_lt (opens_lt ds p s h)
theorem opens_desc (ds : List Nat) : ∀ p, (opens ds p).Pairwise (· > ·)
  | 0 => .nil
  | p + 1 => by
    unfold opens
    split
    · split
      · exact .cons (fun s hs => opens_lt ds p s hs) (opens_desc ds p)
      · split
        · have h := opens_desc ds p
          cases e : opens ds p with
          | nil => exact .nil
          | cons a l => rw [e] at h; exact (List.pairwise_cons.mp h).2
        · exact opens_desc ds p
    · exact opens_desc ds p
theorem opens_open (ds : List Nat) : ∀ p, ∀ s ∈ opens ds p, ∃ d, ds[s]? = some d ∧ d < 2
  | 0, s, h => by cases h
  | p + 1, s, h => by
    unfold opens at h
    split at h
    · rename_i d hd
      split at h
      · rename_i h2
        rcases List.mem_cons.mp h with rfl | h
        · exact ⟨d, hd, h2⟩
        · exact opens_open ds p s h
      · split at h
        · exact opens_open ds p s (List.mem_of_mem_tail h)
        · exact opens_open ds p s h
    · exact opens_open ds p s h

/-- the brackets from s to below p -/
def cut (ms : List Nat) (s p : Nat) : List Nat := (ms.drop s).take (p - s)
theorem cut_self (ms : List Nat) (s : Nat) : cut ms s s = [] := by unfold cut; simp
theorem cut_succ {ms : List Nat} {s p : Nat} {c : Nat} (h : s ≤ p) (hc : ms[p]? = some c) : cut ms s (p + 1) = cut ms s p ++ [c] := by
  unfold cut
  have e : p + 1 - s = (p - s) + 1 := by omega
  rw [e, List.take_add_one]
  have : (ms.drop s)[p - s]? = some c := by rw [List.getElem?_drop]; rw [show s + (p - s) = p by omega]; exact hc
  rw [this]; rfl

theorem alive (ds : List Nat) (s : Nat) (d : Nat) (hd : ds[s]? = some d) (h2 : d < 2) : ∀ k, s + 1 + k ≤ ds.length →
    (∃ pre, opens ds (s + 1 + k) = pre ++ s :: opens ds s ∧ go 0 (cut (ds.map mk) s (s + 1 + k)) = some (pre.length + 1) ∧ ∀ e, s ≤ e → e < s + 1 + k → go 0 (cut (ds.map mk) s (e + 1)) ≠ some 0) ∨
    (s ∉ opens ds (s + 1 + k) ∧ ∃ e, s ≤ e ∧ e < s + 1 + k ∧ go 0 (cut (ds.map mk) s (e + 1)) = some 0)
  | 0, hk => by
    left
    have hm : (ds.map mk)[s]? = some 40 := by rw [List.getElem?_map, hd]; simp [mk, h2]
    have e1 : cut (ds.map mk) s (s + 1) = [40] := by rw [cut_succ (Nat.le_refl s) hm, cut_self]; rfl
    refine ⟨[], ?_, ?_, ?_⟩
    · show opens ds (s + 1) = _
      rw [opens_succ, hd]
      simp [h2]
    · show go 0 (cut (ds.map mk) s (s + 1)) = _
      rw [e1]; rfl
    · intro e h1 h3
      obtain rfl : e = s := by omega
      rw [e1]
      simp [go]
  | k + 1, hk => by
    have ih := alive ds s d hd h2 k (by omega)
    have hlt : s + 1 + k < ds.length := by omega
    have hdp : ds[s + 1 + k]? = some ds[s + 1 + k] := List.getElem?_eq_getElem hlt
    generalize ds[s + 1 + k] = x at hdp
    have hmp : (ds.map mk)[s + 1 + k]? = some (mk x) := by rw [List.getElem?_map, hdp]; rfl
    have hc : cut (ds.map mk) s (s + 1 + k + 1) = cut (ds.map mk) s (s + 1 + k) ++ [mk x] := cut_succ (by omega) hmp
    have ho : opens ds (s + 1 + k + 1) = if x < 2 then (s + 1 + k) :: opens ds (s + 1 + k) else if x = 2 then (opens ds (s + 1 + k)).tail else opens ds (s + 1 + k) := by
      rw [opens, hdp]
    show (∃ pre, opens ds (s + 1 + k + 1) = _ ∧ go 0 (cut (ds.map mk) s (s + 1 + k + 1)) = _ ∧ _) ∨ _
    rcases ih with ⟨pre, h3, h4, h5⟩ | ⟨h3, e, h4, h5, h6⟩
    · have hg : go 0 (cut (ds.map mk) s (s + 1 + k + 1)) = go (pre.length + 1) [mk x] := by rw [hc, go_append, h4]; rfl
      by_cases x2 : x < 2
      · left
        refine ⟨(s + 1 + k) :: pre, by rw [ho, if_pos x2, h3]; rfl, by rw [hg]; simp [mk, x2, go], fun e he1 he2 => ?_⟩
        by_cases he : e = s + 1 + k
        · subst he; rw [hg]; simp [mk, x2, go]
        · exact h5 e he1 (by omega)
      · by_cases x3 : x = 2
        · subst x3
          cases pre with
          | nil =>
            right
            refine ⟨?_, s + 1 + k, by omega, by omega, by rw [hg]; simp [mk, go]⟩
            show s ∉ opens ds (s + 1 + k + 1)
            rw [ho, if_neg x2, if_pos rfl, h3]
            intro hm
            exact absurd (opens_lt ds s s hm) (Nat.lt_irrefl _)
          | cons a pre =>
            left
            refine ⟨pre, by rw [ho, if_neg x2, if_pos rfl, h3]; rfl, by rw [hg]; simp [mk, go], fun e he1 he2 => ?_⟩
            by_cases he : e = s + 1 + k
            · subst he; rw [hg]; simp [mk, go]
            · exact h5 e he1 (by omega)
        · left
          refine ⟨pre, by rw [ho, if_neg x2, if_neg x3, h3], by rw [hg]; simp [mk, x2, x3, go], fun e he1 he2 => ?_⟩
          by_cases he : e = s + 1 + k
          · subst he; rw [hg]; simp [mk, x2, x3, go]
          · exact h5 e he1 (by omega)
    · right
      refine ⟨?_, e, h4, by omega, h6⟩
      show s ∉ opens ds (s + 1 + k + 1)
      rw [ho]
      split
      · intro hm
        rcases List.mem_cons.mp hm with h | h
        · omega
        · exact h3 h
      · split
        · exact fun hm => h3 (List.mem_of_mem_tail hm)
        · exact h3

/-! the search for the end -/
theorem seek_spec (ms : List Nat) (s : Nat) (h40 : ms[s]? = some 40) : ∀ f e, ms.length ≤ e + f →
    (∀ i, e ≤ i → i < seek ms s f e → i < ms.length ∧ chk 0 (cut ms s (i + 1)) = false) ∧ e ≤ seek ms s f e ∧ (seek ms s f e < ms.length → chk 0 (cut ms s (seek ms s f e + 1)) = true)
  | 0, e, h => by
    show (∀ i, e ≤ i → i < e → _) ∧ e ≤ e ∧ (e < ms.length → _)
    exact ⟨fun i a b => absurd b (by omega), Nat.le_refl _, fun a => absurd a (by omega)⟩
  | f + 1, e, h => by
    unfold seek
    by_cases hc : ms[s]? = some 40 ∧ e < ms.length ∧ chk 0 ((ms.drop s).take (e + 1 - s)) = false
    · rw [if_pos hc]
      obtain ⟨a, b, c⟩ := seek_spec ms s h40 f (e + 1) (by omega)
      refine ⟨fun i h1 h2 => ?_, by omega, c⟩
      by_cases hi : i = e
      · subst hi; exact ⟨hc.2.1, hc.2.2⟩
      · exact a i (by omega) h2
    · rw [if_neg hc]
      refine ⟨fun i a b => absurd b (by omega), Nat.le_refl _, fun a => ?_⟩
      have : ¬ chk 0 (cut ms s (e + 1)) = false := fun q => hc ⟨h40, a, q⟩
      simpa using this
theorem seek_not (ms : List Nat) (s : Nat) (h40 : ms[s]? ≠ some 40) (f e : Nat) : seek ms s f e = e := by
  cases f with
  | zero => rfl
  | succ f => unfold seek; rw [if_neg fun h => h40 h.1]

theorem end_gt (ds : List Nat) (p s : Nat) (hs : s < p) (hp : ds[p]?.map mk = some 45) : endOf (ds.map mk) s > p ↔ s ∈ opens ds p := by
  have hpl : p < ds.length := by
    cases h : ds[p]? with
    | none => rw [h] at hp; cases hp
    | some x => exact (List.getElem?_eq_some_iff.mp h).1
  have hsl : s < ds.length := by omega
  have hd : ds[s]? = some ds[s] := List.getElem?_eq_getElem hsl
  generalize ds[s] = d at hd
  have hms : (ds.map mk)[s]? = some (mk d) := by rw [List.getElem?_map, hd]; rfl
  by_cases h2 : d < 2
  · have h40 : (ds.map mk)[s]? = some 40 := by rw [hms]; simp [mk, h2]
    have SP := seek_spec (ds.map mk) s h40 ((ds.map mk).length + 1) s (by omega)
    have hl : (ds.map mk).length = ds.length := List.length_map ..
    unfold endOf
    generalize seek (ds.map mk) s ((ds.map mk).length + 1) s = E at SP
    obtain ⟨A, B, C⟩ := SP
    have AL := alive ds s d hd h2 (p - s - 1) (by omega)
    rw [show s + 1 + (p - s - 1) = p by omega] at AL
    rcases AL with ⟨pre, h3, h4, h5⟩ | ⟨h3, e, h4, h5, h6⟩
    · have hm : s ∈ opens ds p := by rw [h3]; simp
      refine ⟨fun _ => hm, fun _ => ?_⟩
      apply Nat.lt_of_not_le
      intro hE
      have hEl : E < (ds.map mk).length := by omega
      have c1 := C hEl
      have c2 : go 0 (cut (ds.map mk) s (E + 1)) = some 0 := by
        have := chk_go (cut (ds.map mk) s (E + 1)) 0
        rw [show ((0 : Nat) : Int) = 0 from rfl, c1] at this
        exact of_decide_eq_true this.symm
      by_cases hEp : E = p
      · subst hEp
        have hmp : (ds.map mk)[E]? = some 45 := by rw [List.getElem?_map]; exact hp
        rw [cut_succ (by omega) hmp, go_append, h4] at c2
        simp [go] at c2
      · exact h5 E B (by omega) c2
    · refine ⟨fun hE => ?_, fun hm => absurd hm h3⟩
      exfalso
      have := (A e h4 (by omega)).2
      have c2 := chk_go (cut (ds.map mk) s (e + 1)) 0
      rw [show ((0 : Nat) : Int) = 0 from rfl, this, h6] at c2
      simp at c2
  · have h40 : (ds.map mk)[s]? ≠ some 40 := by
      rw [hms]; simp only [mk, if_neg h2]
      split <;> simp
    unfold endOf
    rw [seek_not _ _ h40]
    refine ⟨fun h => absurd h (by omega), fun hm => ?_⟩
    obtain ⟨d', e, h⟩ := opens_open ds p s hm
    rw [hd] at e
    cases e
    exact absurd h h2

/-! levels -/
def up (ds : List Nat) (s l : Nat) : Nat := if ds[s]? = some 1 then upOdd l else upEven l
def lv (ds : List Nat) : List Nat → Nat
  | [] => 0
  | s :: o => up ds s (lv ds o)
def pileOf (ds : List Nat) : List Nat → List Nat
  | [] => []
  | s :: o => lv ds (s :: o) :: pileOf ds o
theorem top_pileOf (ds : List Nat) : ∀ o, top (pileOf ds o) = lv ds o
  | [] => rfl
  | _ :: _ => rfl
theorem pileOf_tail (ds : List Nat) : ∀ o, (pileOf ds o).tail = pileOf ds o.tail
  | [] => rfl
  | _ :: _ => rfl
theorem runUpto_succ (ds : List Nat) (p : Nat) : runUpto ds (p + 1) = match ds[p]? with | some d => turn p d (runUpto ds p) | none => runUpto ds p := rfl
theorem run_pile (ds : List Nat) : ∀ p, (runUpto ds p).pile = pileOf ds (opens ds p)
  | 0 => rfl
  | p + 1 => by
    have ih := run_pile ds p
    rw [runUpto_succ, opens_succ]
    cases h : ds[p]? with
    | none => exact ih
    | some d =>
      show (turn p d (runUpto ds p)).pile = pileOf ds (if d < 2 then p :: opens ds p else if d = 2 then (opens ds p).tail else opens ds p)
      unfold turn
      by_cases h0 : d = 0
      · subst h0
        rw [if_pos rfl, if_pos (by omega)]
        show upEven (top (runUpto ds p).pile) :: (runUpto ds p).pile = up ds p (lv ds (opens ds p)) :: pileOf ds (opens ds p)
        rw [ih, top_pileOf]
        simp [up, h]
      · rw [if_neg h0]
        by_cases h1 : d = 1
        · subst h1
          rw [if_pos rfl, if_pos (by omega)]
          show upOdd (top (runUpto ds p).pile) :: (runUpto ds p).pile = up ds p (lv ds (opens ds p)) :: pileOf ds (opens ds p)
          rw [ih, top_pileOf]
          simp [up, h]
        · rw [if_neg h1]
          by_cases h2 : d = 2
          · subst h2
            rw [if_pos rfl]
            show (runUpto ds p).pile.tail = _
            rw [ih, pileOf_tail]
            rfl
          · rw [if_neg h2, if_neg (by omega), if_neg h2]
            exact ih

theorem lev_filter (ds : List Nat) (p : Nat) (hp : ds[p]?.map mk = some 45) : ∀ n, n ≤ p → lev ds p n = lv ds ((opens ds p).filter (· < n))
  | 0, _ => by
    have : (opens ds p).filter (fun x => decide (x < 0)) = [] := List.filter_eq_nil_iff.mpr fun a _ => by simp
    rw [this]; rfl
  | n + 1, h => by
    have ih := lev_filter ds p hp n (by omega)
    unfold lev
    have key : ∀ o : List Nat, o.Pairwise (· > ·) → o.filter (fun x => decide (x < n + 1)) = if n ∈ o then n :: o.filter (fun x => decide (x < n)) else o.filter (fun x => decide (x < n)) := by
      intro o ho
      induction o with
      | nil => rfl
      | cons a o iho =>
        obtain ⟨h1, h2⟩ := List.pairwise_cons.mp ho
        have ihh := iho h2
        by_cases ha : a < n
        · have hn : n ∉ o := fun hm => absurd (h1 n hm) (by omega)
          have hn' : n ∉ a :: o := by intro hm; rcases List.mem_cons.mp hm with h | h; omega; exact hn h
          rw [if_neg hn']
          rw [if_neg hn] at ihh
          rw [List.filter_cons_of_pos (by simp; omega), List.filter_cons_of_pos (by simpa using ha), ihh]
        · by_cases hb : a = n
          · subst hb
            have hn : a ∉ o := fun hm => absurd (h1 a hm) (Nat.lt_irrefl _)
            rw [if_pos (by simp), List.filter_cons_of_pos (by simp), List.filter_cons_of_neg (by simp), ihh, if_neg hn]
          · have e1 : (n ∈ a :: o) = (n ∈ o) := by simp; omega
            rw [List.filter_cons_of_neg (by simp; omega), List.filter_cons_of_neg (by simp; omega), ihh]
            simp only [e1]
    rw [key _ (opens_desc ds p)]
    by_cases hm : n ∈ opens ds p
    · rw [if_pos hm, if_pos ((end_gt ds p n (by omega) hp).mpr hm)]
      show _ = up ds n (lv ds _)
      rw [← ih]; rfl
    · rw [if_neg hm, if_neg fun h => hm ((end_gt ds p n (by omega) hp).mp h)]
      exact ih
theorem lev_top (ds : List Nat) (p : Nat) (hp : ds[p]?.map mk = some 45) : lev ds p p = top (runUpto ds p).pile := by
  rw [run_pile, top_pileOf, lev_filter ds p hp p (Nat.le_refl _), List.filter_eq_self.mpr fun a ha => by simpa using opens_lt ds p a ha]

theorem told_plain_upto (ds : List Nat) : ∀ p, p ≤ ds.length → toldUpto ds p = (runUpto ds p).plain
  | 0, _ => rfl
  | p + 1, h => by
    have ih := told_plain_upto ds p (by omega)
    have hlt : p < ds.length := by omega
    have hd : ds[p]? = some ds[p] := List.getElem?_eq_getElem hlt
    generalize ds[p] = d at hd
    have hm : (ds.map mk)[p]? = some (mk d) := by rw [List.getElem?_map, hd]; rfl
    rw [runUpto_succ, hd]
    unfold toldUpto
    rw [hm]
    show _ = (turn p d (runUpto ds p)).plain
    unfold turn
    by_cases h0 : d = 0
    · subst h0; rw [if_pos rfl, if_neg (by simp [mk])]; exact ih
    · rw [if_neg h0]
      by_cases h1 : d = 1
      · subst h1; rw [if_pos rfl, if_neg (by simp [mk])]; exact ih
      · rw [if_neg h1]
        by_cases h2 : d = 2
        · subst h2; rw [if_pos rfl, if_neg (by simp [mk])]; exact ih
        · have : mk d = 45 := by unfold mk; rw [if_neg (by omega), if_neg h2]
          rw [if_neg h2, this, if_pos rfl, ih, lev_top ds p (by rw [hd]; exact congrArg some this)]
theorem told_plain (ds : List Nat) : told ds = (run ds).plain := told_plain_upto ds _ (Nat.le_refl _)

theorem go_run (ds : List Nat) : ∀ p, p ≤ ds.length → go 0 ((ds.map mk).take p) = if (runUpto ds p).spare = 0 then some (runUpto ds p).pile.length else none
  | 0, _ => rfl
  | p + 1, h => by
    have ih := go_run ds p (by omega)
    have hlt : p < ds.length := by omega
    have hd : ds[p]? = some ds[p] := List.getElem?_eq_getElem hlt
    generalize ds[p] = d at hd
    have hm : (ds.map mk)[p]? = some (mk d) := by rw [List.getElem?_map, hd]; rfl
    rw [List.take_add_one, hm, Option.toList_some, go_append, ih]
    rw [runUpto_succ, hd]
    show _ = if (turn p d (runUpto ds p)).spare = 0 then some (turn p d (runUpto ds p)).pile.length else none
    unfold turn
    by_cases hsp : (runUpto ds p).spare = 0
    · rw [if_pos hsp, Option.bind_some]
      by_cases h0 : d = 0
      · subst h0; simp [mk, go, hsp]
      · by_cases h1 : d = 1
        · subst h1; simp [mk, go, hsp]
        · by_cases h2 : d = 2
          · subst h2
            simp only [if_neg h0, if_neg h1, if_pos]
            cases hp : (runUpto ds p).pile with
            | nil => simp [mk, go]
            | cons a l => simp [mk, go, hsp]
          · have : mk d = 45 := by unfold mk; rw [if_neg (by omega), if_neg h2]
            rw [if_neg h0, if_neg h1, if_neg h2, this]
            simp [go, hsp]
    · rw [if_neg hsp, Option.bind_none]
      by_cases h0 : d = 0
      · subst h0; simp [hsp]
      · by_cases h1 : d = 1
        · subst h1; simp [hsp]
        · by_cases h2 : d = 2
          · subst h2; simp [hsp]
          · simp [h0, h1, h2, hsp]
theorem chk_run (ds : List Nat) : chk 0 (ds.map mk) = decide ((run ds).spare = 0 ∧ (run ds).pile = []) := by
  have h := go_run ds ds.length (Nat.le_refl _)
  rw [List.take_of_length_le (by rw [List.length_map]; exact Nat.le_refl _)] at h
  have e := chk_go (ds.map mk) 0
  rw [show ((0 : Nat) : Int) = 0 from rfl] at e
  rw [e, h]
  show _ = decide ((runUpto ds ds.length).spare = 0 ∧ (runUpto ds ds.length).pile = [])
  by_cases hs : (runUpto ds ds.length).spare = 0
  · rw [if_pos hs]
    simp [hs]
  · rw [if_neg hs]
    simp [hs]

end Mine
end

/-! part CP -/
section
set_option maxRecDepth 100000
open PySem PySem.W PyProof.Rows PySem.Calls
namespace Mine

section
variable {w : World} {A : Around} {s : Shared} {mg mb : Str → Option Value}

theorem sp_strip {f : Addr} {x : Str} {t : Tok} {Q : Value → Shared → Prop} (hx : 34 ∉ x.cps.toList) (G : GL w s.heap mg mb) (hroom : A.depth < recursionLimit) (ha : mg "_strip_quoted_realnames" = some (.ref f)) (h : ∀ s', Back s s' → Q (.str x t) s') :
    wpAny (model PR w) A (call (.ref f) [.str x t]) Q NoE s := by
  refine enter 1 (by simp [theDefs]) G hroom ha (binds := [("addr", .str x t)]) ?b ?c ?l (fun pm doc cd h₀ B sz hns => ?_) ?co ?g ?k
  case b => intro _ _ _; kernel_rfl
  case c => decide +kernel
  case l => kernel_rfl
  case co => kernel_rfl
  case g => kernel_rfl
  case k => kernel_rfl
  have ea : lk [(Str.ofString "addr", Value.str x t)].reverse "addr" = some (.str x t) := by kernel_rfl
  refine wpAny_execs_cons (wpAny_If (wpAny_isTrue_Compare1 (wpAny_Constant_str ?_)))
  refine ldL (by kernel_rfl) (by kernel_rfl) rfl hns ea ?_
  refine PySem.P.notIn_str (wpAny_truthy_bool ?_)
  have : (!(!(Builtin.Str.occurrences x (Str.ofString "\"") 0 x.length 1).isEmpty)) = true := by
    have := StrLaws.found_one x 34
    rw [show (⟨#[34]⟩ : Str) = Str.ofString "\"" from by decide +kernel] at this
    rw [this]
    simp [hx]
  rw [this, if_pos rfl]
  refine wpAny_execs_cons (wpAny_Return_some ?_)
  refine ldL (by kernel_rfl) (by kernel_rfl) rfl hns ea ?_
  exact h _ ⟨B.keep, rfl⟩

theorem Alive.kp {Dm : Dom} {L : Addr} {s s' : Shared} (x : Alive Dm s.heap) (K : Kp [L] s s') (hL : ∃ o, s'.heap.get? L = some o) : Alive Dm s'.heap := fun b hb => by
  by_cases e : b = L
  · obtain ⟨o, ho⟩ := hL
    rw [e, ho]; exact fun q => nomatch q
  · cases e' : s.heap.get? b with
    | none => exact absurd e' (x b hb)
    | some o => rw [K.keep b o (by simpa using e) e']; exact fun q => nomatch q
theorem GAt.kp {Dm : Dom} {L a : Addr} {x : Str} {g m : Nat} {s s' : Shared} (X : GAt w A Dm [L] x a g m s) (K : Kp [L] s s') (hg : s'.gens = s.gens) (haL : a ≠ L) : GAt w A Dm [L] x a g m s' := by
  obtain ⟨⟨o, nm, qn, ho, r⟩, hd, gs, hgs, hgo⟩ := X
  exact ⟨⟨o, nm, qn, K.keep a o (by simpa using haL) ho, r⟩, hd, gs, by rw [hg]; exact hgs, fun s'' k al => hgo s'' (fun b o hb e => k b o hb (K.keep b o hb e)) al⟩
theorem go_gen {E : Value → Shared → Prop} {elts : List Expr} {k : Nat} {pos : Pos} {a T : Addr} {g : Nat} {Q : Unit → Shared → Prop} (hg : s.heap.IsGen a g) (hQ : Q () s) :
    wpAny (model PR w) A (letOwnedTupleGo (.Tuple elts k pos) (.ref a) (.ref T)) Q E s := by
  obtain ⟨o, nm, qn, ho, hc, hd, _⟩ := hg
  unfold letOwnedTupleGo
  refine wpAny_bind (wpAny_load ho ?_)
  rw [hc, hd]
  show wpAny _ A (if (["enumerate", "zip", "dict_itemiterator", "dict_reverseitemiterator", "odict_iterator", "itertools.zip_longest", "itertools.pairwise"].contains "generator" &&
      (#[.int g 0, nm, qn] : Array Value)[0]? == some (rawInt T)) = true then _ else _) Q E s
  rw [show (["enumerate", "zip", "dict_itemiterator", "dict_reverseitemiterator", "odict_iterator", "itertools.zip_longest", "itertools.pairwise"].contains "generator") = false from by decide, Bool.false_and, if_neg Bool.false_ne_true]
  exact wpAny_pure hQ

theorem sp_check {f : Addr} {x : Str} {t : Tok} {Q : Value → Shared → Prop} (hx : ∀ c ∈ x.cps.toList, c = 40 ∨ c = 41 ∨ c = 45) (G : GL w s.heap mg mb) (hh : A.handled = none) (hroom : A.depth + 1 < recursionLimit) (ha : mg "_check_parenthesis" = some (.ref f)) (h : ∀ s', Kp [] s s' → Q (.bool (chk 0 x.cps.toList)) s') :
    wpAny (model PR w) A (call (.ref f) [.str x t]) Q NoE s := by
  have hx34 : 34 ∉ x.cps.toList := fun q => by rcases hx _ q with e | e | e <;> cases e
  have hx92 : ∀ (i c : Nat), x.cps[i]? = some c → c ≠ 92 := fun i c q e => by
    have hm : c ∈ x.cps.toList := by
      rw [← Array.getElem?_toList] at q
      exact List.mem_of_getElem? q
    rcases hx _ hm with e' | e' | e' <;> (rw [e'] at e; cases e)
  refine enter 2 (by simp [theDefs]) G (Nat.lt_of_succ_lt hroom) ha (binds := [("addr", .str x t)]) ?b ?c ?l (fun pm doc cd h₀ B sz hns => ?_) ?co ?g ?k
  case b => intro _ _ _; kernel_rfl
  case c => decide +kernel
  case l => kernel_rfl
  case co => kernel_rfl
  case g => kernel_rfl
  case k => kernel_rfl
  have ea : lk [(Str.ofString "addr", Value.str x t)].reverse "addr" = some (.str x t) := by kernel_rfl
  have G₀ := G.on B
  have hh' : (A.deeper (En 2 pm doc cd s.heap.objs.size f)).handled = none := hh
  have hroom' : (A.deeper (En 2 pm doc cd s.heap.objs.size f)).depth < recursionLimit := hroom
  have hLn : s.heap.get? s.heap.objs.size = none := Heap.get?_none_of_le (Nat.le_refl _)
  generalize hA' : A.deeper (En 2 pm doc cd s.heap.objs.size f) = A' at hh' hroom' ⊢
  obtain ⟨f1, _, _, _, _, hf1, _⟩ := G₀.fn (D 1) (by simp [theDefs])
  obtain ⟨f0, _, _, _, _, hf0, _⟩ := G₀.fn (D 0) (by simp [theDefs])
  have hf1 : mg "_strip_quoted_realnames" = some (.ref f1) := hf1
  have hf0 : mg "_iter_escaped_chars" = some (.ref f0) := hf0
  refine wpAny_execs_cons (wpAny_Assign_Name ?_)
  refine e_fn (a := f1) 1 (by simp [theDefs]) (by kernel_rfl) (by kernel_rfl) rfl G₀ (by kernel_rfl) hf1 (by decide) ?_
  refine sp_cons (ldL (by kernel_rfl) (by kernel_rfl) rfl hns ea (sp_nil ⟨fun _ _ e => e, ?_⟩))
  refine sp_strip hx34 G₀ hroom' hf1 fun s₁ B₁ => ?_
  have k₁ : Kp [] s s₁ := ⟨fun b o _ e => B₁.keep b o (B.keep b o e), by rw [B₁.rest], fun q => by rw [B₁.rest]; exact q⟩
  have hns₁ : s₁.heap.Ns s.heap.objs.size (lk [(Str.ofString "addr", Value.str x t)].reverse) := hns.at fun o e => B₁.keep _ o e
  clear B₁
  refine stA (L := s.heap.objs.size) (by kernel_rfl) (by kernel_rfl) rfl hns₁ fun s₂ K₂ g₂ hns₂ => ?_
  have hW : ∀ d ∈ [s.heap.objs.size], d ∈ ([] : List Addr) ∨ s.heap.get? d = none := fun d hd => .inr (by rw [List.mem_singleton.mp hd]; exact hLn)
  have k₂ : Kp [] s s₂ := k₁.absorb hW K₂
  refine wpAny_execs_cons (wpAny_Assign_Name (wpAny_Constant_int ?_))
  refine stA (L := s.heap.objs.size) (by kernel_rfl) (by kernel_rfl) rfl hns₂ fun s₃ K₃ g₃ hns₃ => ?_
  have k₃ : Kp [] s s₃ := k₂.absorb hW ⟨K₃.keep, K₃.os, K₃.bare⟩
  have G₃ := G.keep fun b o e => k₃.keep b o (by simp) e
  refine wpAny_execs_cons (wpAny_For ?_)
  refine e_fn (a := f0) 0 (by simp [theDefs]) (by kernel_rfl) (by kernel_rfl) rfl G₃ (by kernel_rfl) hf0 (by decide) ?_
  refine sp_cons (ldA (v := .str x t) (by kernel_rfl) (by kernel_rfl) rfl hns₃ (by kernel_rfl) (sp_nil ⟨fun _ _ e => e, ?_⟩))
  refine gen_call (W := [s.heap.objs.size]) hx92 G (by simpa using hLn) (by simpa using hns₃.lt) (fun b o e => k₃.keep b o (by simp) e) hh' hroom' hf0 fun s₄ a' g Dm na ke os₄ ba hD al X => ?_
  have k₄ : Kp [] s s₄ := k₃.trans ⟨fun b o _ e => ke b o e, os₄, ba⟩
  have hns₄ := hns₃.at fun o e => ke _ o e
  have haL : a' ≠ s.heap.objs.size := fun q => by
    obtain ⟨o, _, _, ho, _⟩ := hns₃
    rw [q, ho] at na; cases na
  have hLD : Dm s.heap.objs.size := by obtain ⟨o, _, _, ho, _⟩ := hns₃; exact hD _ _ ho
  have hbD : ∀ b o, s.heap.get? b = some o → Dm b := fun b o e => hD b o (k₃.keep b o (by simp) e)
  refine wpAny_pyIter_gen X.isgen ?_
  refine codeAny_forLoop_any (fun n s' => ∃ kvs op tk, GAt w A' Dm [s.heap.objs.size] x a' g n s' ∧ Alive Dm s'.heap ∧ s'.heap.Ns s.heap.objs.size (lk kvs) ∧ lk kvs "opens" = some (.int op tk) ∧ Kp [] s s' ∧
      n ≤ x.cps.size ∧ chk 0 x.cps.toList = chk op (x.cps.toList.drop (x.cps.size - n))) ?_ x.cps.size ⟨_, 0, s₂.toks, X, al, hns₄, by kernel_rfl, k₄, Nat.le_refl _, by rw [Nat.sub_self]; rfl⟩
  clear hns₄ k₄ X al ba os₄ ke G₃ k₃ hns₃ K₃ g₃ k₂ hns₂ K₂ g₂ k₁ hns₁ na
  rintro n s' ⟨kvs, op, tk, X, al, hns', hop, k', hn, hchk⟩
  have G' := G.keep fun b o e => k'.keep b o (by simp) e
  have kD : ∀ {s'' : Shared}, KeepD Dm s'.heap s''.heap → s''.os = s'.os → (AllBare s'.gens → AllBare s''.gens) → Kp [] s s'' := fun hk ho hb =>
    ⟨fun b o _ e => hk b o (hbD b o e) (k'.keep b o (by simp) e), ho.trans k'.os, fun q => hb (k'.bare q)⟩
  have cD : Dm cStatics := by
    obtain ⟨m, ⟨o, _, _, ho, _⟩, _⟩ := G.lim
    exact hbD _ o ho
  refine GAt.next X al hh' G'.lim cD hroom' (fun i c T t₁ t₂ s₅ hm hi hc hT kd os₅ ba X₅ => ?_) (fun s₅ hm kd os₅ ba => ?_)
  · have k₅ := kD kd os₅ ba
    have hns₅ := hns'.at fun o e => kd _ o hLD e
    refine go_gen X₅.isgen ?_
    refine assign_pair hh' hT fun s₆ B₆ => ?_
    have k₆ := k₅.then B₆
    have hns₆ := hns₅.at fun o e => B₆.keep _ o e
    have X₆ := X₅.kp (B₆.kp _) (by rw [B₆.rest]) haL
    have al₆ : Alive Dm s₆.heap := (KeepD.of B₆.keep).alive (kd.alive al)
    refine stA (L := s.heap.objs.size) (by kernel_rfl) (by kernel_rfl) rfl hns₆ fun s₇ K₇ g₇ hns₇ => ?_
    have k₇ := k₆.absorb hW K₇
    have X₇ := X₆.kp K₇ g₇ haL
    have al₇ := al₆.kp K₇ (by obtain ⟨o, _, _, ho, _⟩ := hns₇; exact ⟨o, ho⟩)
    refine stA (L := s.heap.objs.size) (by kernel_rfl) (by kernel_rfl) rfl hns₇ fun s₈ K₈ g₈ hns₈ => ?_
    have k₈ := k₇.absorb hW K₈
    have X₈ := X₇.kp K₈ g₈ haL
    have al₈ := al₇.kp K₈ (by obtain ⟨o, _, _, ho, _⟩ := hns₈; exact ⟨o, ho⟩)
    have op₈ : lk (put (put kvs "pos" (.int (i : Nat) t₁)) "ch" (.str ⟨#[c]⟩ t₂)) "opens" = some (.int op tk) := by
      rw [lk_put_ne (by decide), lk_put_ne (by decide)]; exact hop
    have ch₈ : lk (put (put kvs "pos" (.int (i : Nat) t₁)) "ch" (.str ⟨#[c]⟩ t₂)) "ch" = some (.str ⟨#[c]⟩ t₂) := lk_put_self _ _ _
    generalize put (put kvs "pos" (.int (i : Nat) t₁)) "ch" (.str ⟨#[c]⟩ t₂) = kv at hns₈ op₈ ch₈
    clear k₇ X₇ al₇ hns₇ K₇ g₇ k₆ X₆ al₆ hns₆ B₆ k₅ hns₅ X₅ K₈ g₈ ba os₅ kd hT
    have hcl : x.cps.toList.drop (x.cps.size - n) = c :: x.cps.toList.drop (x.cps.size - (n - 1)) := by
      have e1 : x.cps.size - n = i := by omega
      have e2 : x.cps.size - (n - 1) = i + 1 := by omega
      rw [e1, e2]
      rw [← Array.getElem?_toList] at hc
      exact (List.drop_eq_getElem?_toList_append).trans (by rw [hc]; rfl)
    rw [hcl] at hchk
    clear hcl hc hi
    have back : ∀ {s' : Shared} {kv' : List (Str × Value)} {op' : Int} {tk' : Tok}, GAt w A' Dm [s.heap.objs.size] x a' g (n - 1) s' → Alive Dm s'.heap → s'.heap.Ns s.heap.objs.size (lk kv') → lk kv' "opens" = some (.int op' tk') → Kp [] s s' →
        chk 0 x.cps.toList = chk op' (x.cps.toList.drop (x.cps.size - (n - 1))) → ∃ m, m < n ∧ ∃ kvs op tk, GAt w A' Dm [s.heap.objs.size] x a' g m s' ∧ Alive Dm s'.heap ∧ s'.heap.Ns s.heap.objs.size (lk kvs) ∧ lk kvs "opens" = some (.int op tk) ∧ Kp [] s s' ∧
      m ≤ x.cps.size ∧ chk 0 x.cps.toList = chk op (x.cps.toList.drop (x.cps.size - m)) := fun a b c d e f => ⟨n - 1, by omega, _, _, _, a, b, c, d, e, by omega, f⟩
    refine wpAny_mono (E := NoE) (Q := fun f s₃ => match f with
            | .next | .cont => ∃ m, m < n ∧ ∃ kvs op tk, GAt w A' Dm [s.heap.objs.size] x a' g m s₃ ∧ Alive Dm s₃.heap ∧ s₃.heap.Ns s.heap.objs.size (lk kvs) ∧ lk kvs "opens" = some (.int op tk) ∧ Kp [] s s₃ ∧ m ≤ x.cps.size ∧ chk 0 x.cps.toList = chk op (x.cps.toList.drop (x.cps.size - m))
            | .brk => False
            | .ret v => v = .bool (chk 0 x.cps.toList) ∧ Kp [] s s₃) ?_ (fun f s₃ h₃ => ?_) fun _ _ x => x.elim
    rotate_left
    · cases f with
      | next => exact h₃
      | cont => exact h₃
      | brk => exact h₃.elim
      | ret v => obtain ⟨rfl, hk⟩ := h₃; exact h _ hk
    refine wpAny_execs_cons (wpAny_If (wpAny_isTrue_Compare1 ?_))
    refine ldA (L := s.heap.objs.size) (by kernel_rfl) (by kernel_rfl) rfl hns₈ ch₈ ?_
    refine wpAny_Constant_str (PySem.P.eq_str (wpAny_truthy_bool ?_))
    have q40 : (((⟨#[c]⟩ : Str).cps.toList == (Str.ofString "(").cps.toList)) = decide (c = 40) := by
      show ([c] == [40]) = decide (c = 40)
      by_cases e : c = 40
      · subst e; rfl
      · rw [decide_eq_false e]; simpa using e
    have q41 : (((⟨#[c]⟩ : Str).cps.toList == (Str.ofString ")").cps.toList)) = decide (c = 41) := by
      show ([c] == [41]) = decide (c = 41)
      by_cases e : c = 41
      · subst e; rfl
      · rw [decide_eq_false e]; simpa using e
    rw [q40]
    by_cases c40 : c = 40
    · rw [if_pos (by simpa using c40)]
      have hchk' : chk 0 x.cps.toList = chk (op + 1) (x.cps.toList.drop (x.cps.size - (n - 1))) := by
        rw [hchk, chk, if_pos c40]
      refine wpAny_execs_cons (wpAny_AugAssign_Name (wpAny_loadName_local (by kernel_rfl) (by kernel_rfl) hns₈ op₈ (wpAny_Constant_int (wpAny_iadd_int ?_))))
      refine stA (L := s.heap.objs.size) (by kernel_rfl) (by kernel_rfl) rfl hns₈ fun s₉ K₉ g₉ hns₉ => ?_
      refine wpAny_execs_nil ?_
      refine wpAny_execs_nil ?_
      have K₉' : Kp [s.heap.objs.size] s₈ s₉ := ⟨K₉.keep, K₉.os, K₉.bare⟩
      exact back (X₈.kp K₉' g₉ haL) (al₈.kp K₉' (by obtain ⟨o, _, _, ho, _⟩ := hns₉; exact ⟨o, ho⟩)) hns₉ (lk_put_self _ _ _) (k₈.absorb hW K₉') hchk'
    · rw [if_neg (by simpa using c40)]
      refine wpAny_execs_cons (wpAny_If (wpAny_isTrue_Compare1 ?_))
      refine ldA (L := s.heap.objs.size) (by kernel_rfl) (by kernel_rfl) rfl hns₈ ch₈ ?_
      refine wpAny_Constant_str (PySem.P.eq_str (wpAny_truthy_bool ?_))
      rw [q41]
      by_cases c41 : c = 41
      · rw [if_pos (by simpa using c41)]
        rw [chk, if_neg c40, if_pos c41] at hchk
        refine wpAny_execs_cons (wpAny_AugAssign_Name (wpAny_loadName_local (by kernel_rfl) (by kernel_rfl) hns₈ op₈ (wpAny_Constant_int (isub_int ?_))))
        refine stA (L := s.heap.objs.size) (by kernel_rfl) (by kernel_rfl) rfl hns₈ fun s₉ K₉ g₉ hns₉ => ?_
        have K₉' : Kp [s.heap.objs.size] s₈ s₉ := ⟨K₉.keep, K₉.os, K₉.bare⟩
        refine wpAny_execs_cons (wpAny_If (wpAny_isTrue_Compare1 ?_))
        refine ldA (L := s.heap.objs.size) (by kernel_rfl) (by kernel_rfl) rfl hns₉ (lk_put_self _ _ _) ?_
        refine wpAny_Constant_int (lt_int (wpAny_truthy_bool ?_))
        by_cases hneg : op - 1 < 0
        · rw [if_pos (by simpa using hneg)]
          rw [if_pos hneg] at hchk
          refine wpAny_execs_cons (wpAny_Return_some (wpAny_Constant_bool ?_))
          exact ⟨by rw [hchk], (k₈.absorb hW K₉').tok _⟩
        · rw [if_neg (by simpa using hneg)]
          rw [if_neg hneg] at hchk
          refine wpAny_execs_nil ?_
          refine wpAny_execs_nil ?_
          refine wpAny_execs_nil ?_
          refine wpAny_execs_nil ?_
          have X₉ := X₈.kp K₉' g₉ haL
          have al₉ := al₈.kp K₉' (by obtain ⟨o, _, _, ho, _⟩ := hns₉; exact ⟨o, ho⟩)
          exact back (s' := { s₉ with toks := s₉.toks + 1 }) (X₉.kp ⟨fun _ _ _ e => e, rfl, fun h => h⟩ rfl haL) al₉ hns₉ (lk_put_self _ _ _) ((k₈.absorb hW K₉').tok _) hchk
      · rw [if_neg (by simpa using c41)]
        rw [chk, if_neg c40, if_neg c41] at hchk
        refine wpAny_execs_nil ?_
        refine wpAny_execs_nil ?_
        refine wpAny_execs_nil ?_
        exact back (s' := { s₈ with toks := s₈.toks + 1 + 1 }) (X₈.kp ⟨fun _ _ _ e => e, rfl, fun h => h⟩ rfl haL) al₈ hns₈ op₈ (k₈.tok _) hchk
  · subst hm
    refine wpAny_execs_nil ?_
    have k₅ := kD kd os₅ ba
    have hns₅ := hns'.at fun o e => kd _ o hLD e
    refine wpAny_execs_cons (wpAny_Return_some (wpAny_Compare1 ?_))
    refine ldA (L := s.heap.objs.size) (by kernel_rfl) (by kernel_rfl) rfl hns₅ hop ?_
    refine wpAny_Constant_int (eq_int ?_)
    have hz : chk 0 x.cps.toList = (op == 0) := by
      rw [hchk, Nat.sub_zero, List.drop_eq_nil_of_le (by simp), chk]
      by_cases e : op = 0
      · subst e; rfl
      · rw [decide_eq_false e]; exact (beq_eq_false_iff_ne.mpr e).symm
    rw [← hz]
    exact h _ (k₅.tok _)
end
end Mine
end

/-! part TK -/
section
set_option maxRecDepth 100000
open PySem PySem.W PyProof.Rows PySem.Calls
namespace Mine

/-! two lists, place by place -/
inductive All2 {α β : Type} (R : α → β → Prop) : List α → List β → Prop
  | nil : All2 R [] []
  | cons {a b l m} : R a b → All2 R l m → All2 R (a :: l) (b :: m)
section
variable {α β γ : Type} {R S : α → β → Prop}
theorem All2.length {l : List α} {m : List β} (h : All2 R l m) : l.length = m.length := by
  induction h with
  | nil => rfl
  | cons _ _ ih => simp [ih]
theorem All2.mono (f : ∀ a b, R a b → S a b) {l : List α} {m : List β} (h : All2 R l m) : All2 S l m := by
  induction h with
  | nil => exact .nil
  | cons x _ ih => exact .cons (f _ _ x) ih
theorem All2.append {l l' : List α} {m m' : List β} (h : All2 R l m) (h' : All2 R l' m') : All2 R (l ++ l') (m ++ m') := by
  induction h with
  | nil => exact h'
  | cons x _ ih => exact .cons x ih
theorem All2.snoc {l : List α} {m : List β} {a : α} {b : β} (h : All2 R l m) (x : R a b) : All2 R (l ++ [a]) (m ++ [b]) := h.append (.cons x .nil)
theorem All2.get {l : List α} {m : List β} (h : All2 R l m) : ∀ {i : Nat} {b : β}, m[i]? = some b → ∃ a, l[i]? = some a ∧ R a b := by
  induction h with
  | nil => intro i b e; cases i <;> cases e
  | cons x _ ih =>
    intro i b e
    cases i with
    | zero => rw [List.getElem?_cons_zero] at e; cases e; exact ⟨_, rfl, x⟩
    | succ i => rw [List.getElem?_cons_succ] at e ⊢; exact ih e
theorem All2.get' {l : List α} {m : List β} (h : All2 R l m) : ∀ {i : Nat} {a : α}, l[i]? = some a → ∃ b, m[i]? = some b ∧ R a b := by
  induction h with
  | nil => intro i b e; cases i <;> cases e
  | cons x _ ih =>
    intro i b e
    cases i with
    | zero => rw [List.getElem?_cons_zero] at e; cases e; exact ⟨_, rfl, x⟩
    | succ i => rw [List.getElem?_cons_succ] at e ⊢; exact ih e
theorem All2.take {l : List α} {m : List β} (h : All2 R l m) : ∀ n, All2 R (l.take n) (m.take n) := by
  induction h with
  | nil => intro n; rw [List.take_nil, List.take_nil]; exact .nil
  | cons x _ ih => intro n; cases n with
    | zero => exact .nil
    | succ n => rw [List.take_succ_cons, List.take_succ_cons]; exact .cons x (ih n)
theorem All2.drop {l : List α} {m : List β} (h : All2 R l m) : ∀ n, All2 R (l.drop n) (m.drop n) := by
  induction h with
  | nil => intro n; rw [List.drop_nil, List.drop_nil]; exact .nil
  | cons x hh ih => intro n; cases n with
    | zero => exact .cons x hh
    | succ n => rw [List.drop_succ_cons, List.drop_succ_cons]; exact ih n
theorem All2.reverse {l : List α} {m : List β} (h : All2 R l m) : All2 R l.reverse m.reverse := by
  induction h with
  | nil => exact .nil
  | cons x _ ih => rw [List.reverse_cons, List.reverse_cons]; exact ih.snoc x
theorem All2.ints {vs : List Value} {ns : List Int} (h : IntsAre vs ns) : All2 (fun v n => ∃ t, v = .int n t) vs ns := by
  induction h with
  | nil => exact .nil
  | cons n t _ ih => exact .cons ⟨t, rfl⟩ ih
end

section
variable {w : World} {A : Around} {s : Shared} {env : Env} {mg mb : Str → Option Value}

theorem for_walk' {tgt : Expr} {body : List Stmt} {I : Addr} {fp wr : List Addr} {n : Nat} {P : Nat → Value → Prop} {St : Nat → Heap → Prop} {Q : Flow → Shared → Prop}
    (W : Walks PR w A I fp wr n P St) (Inv : Nat → Shared → Prop)
    (stab : ∀ i s s', Inv i s → Kp wr s s' → s'.gens = s.gens → Inv i s')
    (h0 : St 0 s.heap) (i0 : Inv 0 s)
    (step : ∀ i v s₁, i < n → P i v → St (i + 1) s₁.heap → Inv i s₁ → wpAny (model PR w) A (letOwnedTupleGo tgt (.ref I) v) (fun _ s₁' => wpAny (model PR w) A (assign tgt env v) (fun _ s₂ => wpAny (model PR w) A (execs body env)
      (fun f s₃ => match f with | .next | .cont => Inv (i + 1) s₃ ∧ (∀ b ∈ fp, ∀ o, s₁.heap.get? b = some o → s₃.heap.get? b = some o) | .brk => Q .next s₃ | .ret v => Q (.ret v) s₃) NoE s₂) NoE s₁') NoE s₁)
    (done : ∀ s', Inv n s' → Q .next s') :
    codeAny (model PR w) A (.forLoop tgt (.ref I) body [] env) (LoopR w A env Q) s := by
  refine for_walk W Inv stab h0 i0 (fun i v s₁ hi hP hst hinv => ?_) done
  refine wpAny_mono (step i v s₁ hi hP hst hinv) (fun _ s₂ h₂ => wpAny_mono h₂ (fun _ s₃ h₃ => wpAny_mono h₃ (fun f s₄ h₄ => ?_) fun _ _ x => x.elim) fun _ _ x => x.elim) fun _ _ x => x.elim
  cases f with
  | next => exact ⟨h₄.1, W.frame _ _ _ hst h₄.2⟩
  | cont => exact ⟨h₄.1, W.frame _ _ _ hst h₄.2⟩
  | brk => exact h₄
  | ret v => exact h₄

/-- a for over range(n), a name the target -/
theorem for_range {x : Str} {px pr pos q : Pos} {e : Expr} {body : List Stmt} {Q : Flow → Shared → Prop} (hh : A.handled = none) (hk : env.scope.kind = .function) (hx : env.kindOf "range" = some .globalImplicit) (hg0 : env.globals = mainGlobals) (hb0 : env.builtins = builtinsNs)
    (G : GL w s.heap mg mb) (hs : noStar [e] = true := by rfl)
    (he : wpAny (model PR w) A (eval e env) (fun v s₁ => ∃ (n : Nat) (t : Tok), v = .int n t ∧ n < 2 ^ 32 ∧ ∀ I, s₁.heap.get? I = none → ∃ Inv : Nat → Shared → Prop,
      (∀ i s s', Inv i s → Kp [I] s s' → s'.gens = s.gens → Inv i s') ∧ (∀ s₂, Back s₁ s₂ → Inv 0 s₂) ∧
      (∀ i t s₂, i < n → Inv i s₂ → (∃ o, s₂.heap.get? I = some o) → wpAny (model PR w) A (storeName env x (.int (i : Nat) t)) (fun _ s₃ => wpAny (model PR w) A (execs body env)
        (fun f s₄ => match f with | .next | .cont => Inv (i + 1) s₄ ∧ (∀ o, s₂.heap.get? I = some o → s₄.heap.get? I = some o) | .brk => Q .next s₄ | .ret v => Q (.ret v) s₄) NoE s₃) NoE s₂) ∧
      (∀ s₂, Inv n s₂ → Q .next s₂)) NoE s) :
    wpAny (model PR w) A (exec (.For (.Name x px) (.Call (.Name "range" pr) [e] [] q) body [] pos) env) Q NoE s := by
  refine wpAny_For ?_
  refine e_ty (id := "range") hk hx hg0 hb0 G (by decide +kernel) (by kernel_rfl) (by decide) ?_ hs
  refine sp_cons (wpAny_mono he (fun v s₁ h₁ => sp_nil ?_) fun _ _ x => x)
  obtain ⟨n, t, rfl, hn, h₁⟩ := h₁
  refine call_range_1 ?_
  refine wpAny_pyIter_range (IsRange.new _ 0 n 1 _ _ _) (small_one (by decide) (by decide) (by omega) (by omega)) ?_
  generalize hr : ({ cls := .type "range", data := .fields #[.int 0 s₁.toks, .int n t, .int 1 (s₁.toks + 1)] } : Obj) = ro
  have hI : s₁.heap.get? (s₁.heap.push ro).objs.size = none := Heap.get?_none_of_le (by rw [Heap.size_push]; exact Nat.le_succ _)
  obtain ⟨Inv, stab, i0, step, done⟩ := h₁ _ hI
  have hsz : Builtin.Range.rangeSize 0 (n : Int) 1 = (n : Int) := by rw [rangeSize_one]; split <;> omega
  refine for_walk' (Walks.range hh (s₁.heap.push ro).objs.size 0 1 n) Inv stab ?_ (i0 _ ⟨fun b o e => Heap.get?_push_of_some _ (Heap.get?_push_of_some _ e), rfl⟩) (fun i v s₂ hi hP hst hinv => ?_) done
  · show Heap.get? _ _ = _
    rw [hsz, Heap.get?_push_size _ rfl]
    simp
  · obtain ⟨t', rfl⟩ := hP
    refine wpAny_pure (wpAny_assign_Name ?_)
    have hz : (0 : Int) + (i : Int) * 1 = (i : Int) := by omega
    rw [hz]
    refine wpAny_mono (step i t' s₂ hi hinv ⟨_, hst⟩) (fun _ s₃ h₃ => wpAny_mono h₃ (fun f s₄ h₄ => ?_) fun _ _ x => x) fun _ _ x => x
    cases f with
    | next => exact ⟨h₄.1, fun b hb o e => by rw [List.mem_singleton.mp hb] at e ⊢; exact h₄.2 o e⟩
    | cont => exact ⟨h₄.1, fun b hb o e => by rw [List.mem_singleton.mp hb] at e ⊢; exact h₄.2 o e⟩
    | brk => exact h₄
    | ret v => exact h₄

/-- len of a list by name -/
theorem e_len {L l : Addr} {x : Str} {p q r : Pos} {kvs : List (Str × Value)} {its : Array Value} {Q : Value → Shared → Prop} (hk : env.scope.kind = .function) (hx : env.kindOf "len" = some .globalImplicit) (hg0 : env.globals = mainGlobals) (hb0 : env.builtins = builtinsNs)
    (G : GL w s.heap mg mb) (hl : env.kindOf x = some .local) (hL : env.locals = L) (hn : s.heap.Ns L (lk kvs)) (hv : lk kvs x = some (.ref l)) (hil : s.heap.IsList l its) (hfit : its.size < 2 ^ 32) (h : ∀ t, Q (.int its.size t) { s with toks := s.toks + 1 + 1 }) (hd : (x == ("__debug__" : Str)) = false := by decide) :
    wpAny (model PR w) A (eval (.Call (.Name "len" p) [.Name x q] [] r) env) Q NoE s := by
  refine e_bi (id := "len") hk hx hg0 hb0 G (by decide +kernel) (by kernel_rfl) (by decide) ?_
  refine sp_cons (ldA hk hl hL hn hv (sp_nil ?_) hd)
  exact Calls.call_len_list hil (by omega) (h _)

theorem e_chr {k : Nat} {kk : Nat} {p q r : Pos} {Q : Value → Shared → Prop} (hk : env.scope.kind = .function) (hx : env.kindOf "chr" = some .globalImplicit) (hg0 : env.globals = mainGlobals) (hb0 : env.builtins = builtinsNs)
    (G : GL w s.heap mg mb) (hfit : k < 2 ^ 20) (h : ∀ t, Q (.str ⟨#[k]⟩ t) { s with toks := s.toks + 1 + 1 }) :
    wpAny (model PR w) A (eval (.Call (.Name "chr" p) [.Constant (.int (k : Nat)) kk q] [] r) env) Q NoE s := by
  refine e_bi (id := "chr") hk hx hg0 hb0 G (by decide +kernel) (by kernel_rfl) (by decide) ?_
  refine sp_cons (wpAny_Constant_int (sp_nil ?_))
  have hi : (decide ((k : Int) < 0) || decide ((k : Int) > 0x10FFFF)) = false := by
    rw [decide_eq_false (by omega), decide_eq_false (by omega)]; rfl
  refine P.chr_of_int hi ?_
  rw [Int.toNat_natCast]
  exact h _

/-- text[i], both by name -/
theorem e_strAt {L : Addr} {x i : Str} {p q r : Pos} {kvs : List (Str × Value)} {y : Str} {k c : Nat} {t u : Tok} {Q : Value → Shared → Prop} (hk : env.scope.kind = .function) (hl : env.kindOf x = some .local) (hi : env.kindOf i = some .local) (hL : env.locals = L) (hn : s.heap.Ns L (lk kvs))
    (hv : lk kvs x = some (.str y t)) (hw : lk kvs i = some (.int (k : Nat) u)) (hc : y.cps[k]? = some c) (hfit : k < 2 ^ 32) (h : ∀ t, Q (.str ⟨#[c]⟩ t) { s with toks := s.toks + 1 })
    (hd : (x == ("__debug__" : Str)) = false := by decide) (hd' : (i == ("__debug__" : Str)) = false := by decide) :
    wpAny (model PR w) A (eval (.Subscript (.Name x p) (.Name i q) r) env) Q NoE s := by
  refine wpAny_Subscript_Name_late (ldA hk hl hL hn hv (ldA hk hi hL hn hw ?_ hd') hd)
  refine ⟨"str", _, F.slot_str_getitem.lookup, typeIs_str _ _ _, PySem.P.getItem_str ?_ ?_ (h _)⟩
  · rw [decide_eq_false (by omega), decide_eq_false (by omega)]; rfl
  · have hlt : k < y.length := (Array.getElem?_eq_some_iff.mp hc).1
    rw [seqIndex_of (by omega) (by omega)]
    exact hc
/-- list[i], both by name -/
theorem e_listAt {L l : Addr} {x i : Str} {p q r : Pos} {kvs : List (Str × Value)} {its : Array Value} {k : Nat} {v : Value} {u : Tok} {Q : Value → Shared → Prop} (hk : env.scope.kind = .function) (hl : env.kindOf x = some .local) (hi : env.kindOf i = some .local) (hL : env.locals = L) (hn : s.heap.Ns L (lk kvs))
    (hv : lk kvs x = some (.ref l)) (hw : lk kvs i = some (.int (k : Nat) u)) (hil : s.heap.IsList l its) (hc : its[k]? = some v) (hfit : k < 2 ^ 32) (h : Q v s)
    (hd : (x == ("__debug__" : Str)) = false := by decide) (hd' : (i == ("__debug__" : Str)) = false := by decide) :
    wpAny (model PR w) A (eval (.Subscript (.Name x p) (.Name i q) r) env) Q NoE s := by
  refine wpAny_Subscript_Name_late (ldA hk hl hL hn hv (ldA hk hi hL hn hw ?_ hd') hd)
  refine ⟨"list", _, F.slot_list_getitem.lookup, hil.typeIs, wpAny_getItem_list hil (by omega) (by omega) (by rw [Int.toNat_natCast]; exact hc) h⟩

/-- name.append(e) -/
theorem e_append {L l : Addr} {x : Str} {p q r : Pos} {e : Expr} {kvs : List (Str × Value)} {its : Array Value} {Q : Flow → Shared → Prop} (hk : env.scope.kind = .function) (hl : env.kindOf x = some .local) (hL : env.locals = L) (hn : s.heap.Ns L (lk kvs))
    (hv : lk kvs x = some (.ref l)) (hil : s.heap.PlainList l its) (hsz : its.size ≤ sizeLine)
    (hbase : attributeBase (.Name x p) "append" env (eval (.Name x p) env) = eval (.Name x p) env)
    (hline : (q.endLine == r.line) = true) (htrees : backTo r (starEach [e] env) = [(false, eval e env)])
    (hsw : swapsWith (.Call (.Attribute (.Name x p) "append" q) [e] [] r) none r.line env = pure false) (hint : interactive env = false)
    (h : wpAny (model PR w) A (eval e env) (fun y s₁ => s₁.heap.PlainList l its ∧ ∀ s₂, Kp [l] s₁ s₂ → s₂.gens = s₁.gens → s₂.heap.PlainList l (its.push y) → Q .next s₂) NoE s)
    (hd : (x == ("__debug__" : Str)) = false := by decide) :
    wpAny (model PR w) A (exec (.Expr (.Call (.Attribute (.Name x p) "append" q) [e] [] r) r) env) Q NoE s := by
  refine wpAny_Expr_any ?_ hint hsw
  refine wpAny_Call_append hbase (by rw [htrees]; rfl) hline htrees ?_
  refine ldA hk hl hL hn hv ?_ hd
  obtain ⟨n, hil⟩ := hil
  refine ⟨l, its, rfl, ⟨_, n, hil, rfl, rfl, rfl⟩, wpAny_mono h (fun y s₁ h₁ => ?_) fun _ _ x => x⟩
  refine wpAny_list_append_plain (hsz := hsz) h₁.1 fun h' hl' hs' => h₁.2 _ ⟨fun b o hb e => hs'.extBut b o (by simpa using hb) e, rfl, fun q => q⟩ rfl hl'
end
end Mine
end

/-! part LV1 -/
section
set_option maxRecDepth 100000
open PySem PySem.W PyProof.Rows PySem.Calls
open Builtin.Str (tooLong)
namespace Mine

/-! joining with nothing between -/
def catS (ts : List Str) : Str := ⟨(ts.flatMap fun x => x.cps.toList).toArray⟩
theorem glue_fold : ∀ (ts : List Str) (acc : Array Nat), ts.foldl (fun acc p => acc ++ Str.empty.cps ++ p.cps) acc = acc ++ (ts.flatMap fun x => x.cps.toList).toArray
  | [], acc => by simp
  | x :: ts, acc => by
    rw [List.foldl_cons, glue_fold ts]
    have : Str.empty.cps = #[] := rfl
    rw [this]
    apply Array.toList_inj.mp
    simp
theorem join_empty (ts : List Str) : Txt.join (Str.ofString "") ts = catS ts := by
  have e : Str.ofString "" = Str.empty := rfl
  rw [e]
  show Builtin.Str.glued Str.empty ts = catS ts
  unfold Builtin.Str.glued catS
  cases ts with
  | nil => rfl
  | cons x ts =>
    show (⟨ts.foldl (fun acc p => acc ++ Str.empty.cps ++ p.cps) x.cps⟩ : Str) = _
    rw [glue_fold]
    congr 1
    apply Array.toList_inj.mp
    simp
theorem fold_len : ∀ (ts : List Str) (k : Nat), ts.foldl (fun n x => n + x.length + (Str.ofString "").length) k = k + (ts.map (·.length)).sum
  | [], k => by simp
  | x :: ts, k => by
    rw [List.foldl_cons, fold_len ts, List.map_cons, List.sum_cons]
    have : (Str.ofString "").length = 0 := rfl
    omega
theorem joinOk_empty {ts : List Str} (h : (ts.map (·.length)).sum ≤ 1000) : JoinOk (Str.ofString "") ts = true := by
  unfold JoinOk
  have : ts.toArray.foldl (fun n x => n + x.length + (Str.ofString "").length) 0 = (ts.map (·.length)).sum := by
    rw [List.foldl_toArray', fold_len]
    · omega
    · rfl
  rw [this]
  have : tooLong (ts.map (·.length)).sum = false := by
    show decide ((ts.map (·.length)).sum > _) = false
    exact decide_eq_false (by rw [sizeLine_eq]; omega)
  rw [this]; rfl

def StrOfCode (v : Value) (c : Nat) : Prop := ∃ t, v = .str ⟨#[c]⟩ t
def StrOf (v : Value) (x : Str) : Prop := ∃ t, v = .str x t
theorem strs_of {vs : List Value} {xs : List Str} (h : All2 StrOf vs xs) : ∃ l, vs = strValues l ∧ l.map (·.1) = xs := by
  induction h with
  | nil => exact ⟨[], rfl, rfl⟩
  | cons x _ ih =>
    obtain ⟨t, rfl⟩ := x
    obtain ⟨l, rfl, rfl⟩ := ih
    exact ⟨(_, t) :: l, rfl, rfl⟩
theorem strOf_codes {vs : List Value} {cs : List Nat} (h : All2 StrOfCode vs cs) : All2 StrOf vs (cs.map fun c => ⟨#[c]⟩) := by
  induction h with
  | nil => exact .nil
  | cons x _ ih => exact .cons x ih
theorem cat_codes (cs : List Nat) : catS (cs.map fun c => ⟨#[c]⟩) = ⟨cs.toArray⟩ := by
  unfold catS
  congr 2
  induction cs with
  | nil => rfl
  | cons c cs ih => rw [List.map_cons, List.flatMap_cons, ih]; rfl
theorem sum_codes (cs : List Nat) : ((cs.map fun c => (⟨#[c]⟩ : Str)).map (·.length)).sum = cs.length := by
  induction cs with
  | nil => rfl
  | cons c cs ih => rw [List.map_cons, List.map_cons, List.sum_cons, ih, List.length_cons]; show 1 + _ = _; omega

section
variable {w : World} {A : Around} {s : Shared} {env : Env} {mg mb : Str → Option Value}

/-- ''.join(e) of a list of texts -/
theorem e_join {e : Expr} {k : Nat} {p q r : Pos} {Q : Value → Shared → Prop} (hbase : attributeBase (.Constant (.str (Str.ofString "")) k p) "join" env (eval (.Constant (.str (Str.ofString "")) k p) env) = eval (.Constant (.str (Str.ofString "")) k p) env)
    (hst : starEach [e] env = [(false, eval e env)]) (hline : (q.endLine == r.line) = true)
    (h : wpAny (model PR w) A (eval e env) (fun v s₁ => ∃ D ys xs, v = .ref D ∧ s₁.heap.IsList D ys ∧ All2 StrOf ys.toList xs ∧ (xs.map (·.length)).sum ≤ 1000 ∧ ∀ t k, Q (.str (catS xs) t) { s₁ with toks := k }) NoE { s with toks := s.toks + 1 }) :
    wpAny (model PR w) A (eval (.Call (.Attribute (.Constant (.str (Str.ofString "")) k p) "join" q) [e] [] r) env) Q NoE s := by
  refine Call_method1 hbase hst hline (wpAny_Constant_str ?_)
  refine SB.join (wpAny_mono h (fun v s₁ h₁ => ?_) fun _ _ x => x)
  obtain ⟨D, ys, xs, rfl, hl, ha, hsum, hq⟩ := h₁
  obtain ⟨l, hl', hm⟩ := strs_of ha
  refine ⟨D, l, rfl, ?_, xs, hm, joinOk_empty hsum, fun t' k => ?_⟩
  · rw [← hl', Array.toArray_toList]; exact hl
  · rw [join_empty]; exact hq t' k

/-- the mark of a sign -/
def mkc (c : Nat) : Nat := if Mine.c8 c then (if c = 8236 then 41 else 40) else 45
def compS : Expr := match (D 10).body.head? with | some (.Assign _ (.Call _ [e] _ _) _) => e | _ => .Constant .none 0 ⟨0, 0, 0, 0⟩

theorem All2.through {α β γ δ : Type} {R : α → β → Prop} {F : α → γ → Prop} {S : γ → δ → Prop} {g : β → δ} {vs : List α} {cs : List β} {ys : List γ} (hr : All2 R vs cs) (hF : All2 F vs ys) (f : ∀ v c y, R v c → F v y → S y (g c)) : All2 S ys (cs.map g) := by
  induction hr generalizing ys with
  | nil => cases hF; exact .nil
  | cons x _ ih =>
    cases hF with
    | cons y hF => exact .cons (f _ _ _ x y) (ih hF)
theorem paired_all {F : Value → Value → Prop} {xs ys : List Value} (h : Paired F xs ys) : All2 F xs ys := by
  induction h with
  | nil => exact .nil
  | cons x _ ih => exact .cons x ih

theorem fn_of (G : GL w s.heap mg mb) (i : Nat) (hi : D i ∈ theDefs) : ∃ a, mg (D i).name = some (.ref a) := by
  obtain ⟨a, _, _, _, _, h, _⟩ := G.fn (D i) hi
  exact ⟨a, h⟩

/-- the list of the marks -/
theorem marks_comp {pm doc : Value} {cd L a l : Addr} {kvs : List (Str × Value)} {vs : List Value} {cs : List Nat} {Q : Value → Shared → Prop} (hh : A.handled = none) (hroom : A.depth < recursionLimit) (G : GL w s.heap mg mb)
    (hn : s.heap.Ns L (lk kvs)) (hv : lk kvs "row" = some (.ref l)) (hl : s.heap.IsList l vs.toArray) (hr : All2 StrOfCode vs cs) (hsz : vs.length ≤ 1000)
    (h : ∀ D s' ys, Back s s' → s.heap.get? D = none → s'.heap.IsList D ys → All2 StrOfCode ys.toList (cs.map mkc) → Q (.ref D) s') :
    wpAny (model PR w) A (eval compS (En 10 pm doc cd L a)) Q NoE s := by
  show wpAny (model PR w) A (eval (.ListComp _ [⟨.Name "sign" _, .Name "row" _, [], 0⟩] _ _) (En 10 pm doc cd L a)) Q NoE s
  refine wpAny_ListComp_walk (fun _ => true) (fun v y => ∃ c t u, v = .str ⟨#[c]⟩ t ∧ y = .str ⟨#[mkc c]⟩ u) (by decide +kernel) (by decide +kernel) (by kernel_rfl) (by decide +kernel) (by kernel_rfl) ?_
  refine ldA (by kernel_rfl) (by kernel_rfl) rfl hn hv ?_
  refine wpAny_pyIter_list hl ?_
  have hne : l ≠ s.heap.objs.size := by obtain ⟨o, ho, _⟩ := hl; exact Nat.ne_of_lt (Heap.lt_size ho)
  have hlt : l < s.heap.objs.size := by obtain ⟨o, ho, _⟩ := hl; exact Heap.lt_size ho
  refine ⟨_, _, _, _, _, _, rfl, Walks.list hh s.heap.objs.size l hne vs.toArray, ?_, ⟨⟨_, Heap.get?_push_size _ rfl, rfl, rfl⟩, hl.push _⟩, ?_, ⟨?_, ?_⟩, ?_⟩
  · show vs.toArray.size ≤ sizeLine
    have : (1000 : Nat) ≤ sizeLine := by size_fits
    simp only [List.size_toArray]; omega
  · intro b hb
    rw [Heap.size_push]
    simp only [List.mem_cons, List.not_mem_nil, or_false] at hb
    rcases hb with rfl | rfl
    · exact Nat.lt_succ_self _
    · exact Nat.lt_succ_of_lt hlt
  · intro C i v s₃ m₃ E' hP hn₃ hm₃ hk₃ ht₃
    exact wpAny_pure ⟨rfl, s₃.heap, s₃.toks, rfl, fun _ _ e => e⟩
  · intro C i v s₃ m₃ E' hP _ hn₃ hm₃ hk₃ ht₃
    have hP' : vs[i]? = some v := by simpa using hP
    obtain ⟨c, hc, t, rfl⟩ := hr.get' hP'
    have G₃ : GL w s₃.heap mg mb := by
      refine G.keep fun b o e => hk₃ b o ?_ (Heap.get?_push_of_some _ e)
      rw [List.mem_singleton]; exact Nat.ne_of_lt (Heap.lt_size e)
    obtain ⟨f9, hf9⟩ := fn_of G₃ 9 (by simp [theDefs])
    have hf9 : mg "in_table_c8" = some (.ref f9) := hf9
    refine wpAny_mono (E := NoE) (Q := fun y s₄ => (∃ c' t_1 u, Value.str ⟨#[c]⟩ t = Value.str ⟨#[c']⟩ t_1 ∧ y = Value.str ⟨#[mkc c']⟩ u) ∧ Keeps s₃ s₄) ?_ (fun _ _ x => x) fun _ _ x => x.elim
    refine wpAny_IfExp (wpAny_isTrue_value ?_)
    refine e_fn (a := f9) 9 (by simp [theDefs]) (by kernel_rfl) (by kernel_rfl) rfl G₃ (by kernel_rfl) hf9 (by decide) ?_
    refine sp_cons (ldL (L := C) (by kernel_rfl) (by kernel_rfl) rfl hn₃ hm₃ (sp_nil ⟨fun _ _ e => e, ?_⟩))
    refine sp_c8 G₃ hroom hf9 fun s₄ B₄ => wpAny_truthy_bool ?_
    have fin : ∀ {s₅ : Shared} {y : Value} {u : Tok}, y = .str ⟨#[mkc c]⟩ u → Back s₄ s₅ → ((∃ c' t_1 u, Value.str ⟨#[c]⟩ t = Value.str ⟨#[c']⟩ t_1 ∧ y = Value.str ⟨#[mkc c']⟩ u) ∧ Keeps s₃ s₅) :=
      fun hy hb => ⟨⟨c, t, _, rfl, hy⟩, (B₄.trans hb).keeps⟩
    have hn₄ := hn₃.at fun o e => B₄.keep _ o e
    have G₄ := G₃.keep B₄.keep
    by_cases h8 : Mine.c8 c = true
    · rw [if_pos h8]
      refine wpAny_IfExp (wpAny_isTrue_Compare1 ?_)
      refine ldL (L := C) (by kernel_rfl) (by kernel_rfl) rfl hn₄ hm₃ ?_
      refine e_chr (k := 8236) (by kernel_rfl) (by kernel_rfl) rfl rfl G₄ (by decide) fun t9 => ?_
      refine PySem.P.eq_str (wpAny_truthy_bool ?_)
      by_cases h36 : c = 8236
      · rw [if_pos (by rw [h36]; rfl)]
        refine wpAny_Constant_str ?_
        refine fin (u := s₄.toks + 1 + 1) ?_ ⟨fun _ _ e => e, rfl⟩
        unfold mkc; rw [if_pos h8, if_pos h36]; rfl
      · rw [if_neg (by show ¬ (([c] == [8236]) = true); simpa using h36)]
        refine wpAny_Constant_str ?_
        refine fin (u := s₄.toks + 1 + 1) ?_ ⟨fun _ _ e => e, rfl⟩
        unfold mkc; rw [if_pos h8, if_neg h36]; rfl
    · rw [if_neg h8]
      refine wpAny_Constant_str ?_
      refine fin (u := s₄.toks) ?_ ⟨fun _ _ e => e, rfl⟩
      unfold mkc; rw [if_neg h8]; rfl
  · intro D h' tk ys ws hD hl' _ hlen hP hF hk
    have hws : ws = vs := by
      apply List.ext_getElem?
      intro j
      by_cases hj : j < ws.length
      · have := hP j _ (List.getElem?_eq_getElem hj)
        rw [List.getElem?_eq_getElem hj]
        simpa using this.symm
      · have h1 : ws.length ≤ j := Nat.le_of_not_lt hj
        rw [List.getElem?_eq_none h1, List.getElem?_eq_none (by simp at hlen; omega)]
    subst hws
    rw [List.filter_eq_self.mpr (fun _ _ => rfl)] at hF
    refine h D _ ys ⟨fun b o e => hk b o (by rw [List.mem_singleton]; exact Nat.ne_of_lt (Heap.lt_size e)) (Heap.get?_push_of_some _ e), rfl⟩ ?_ hl' ?_
    · cases e : s.heap.get? D with
      | none => rfl
      | some o => rw [Heap.get?_push_of_some _ e] at hD; cases hD
    · refine All2.through hr (paired_all hF) fun v c y hv hy => ?_
      obtain ⟨t, rfl⟩ := hv
      obtain ⟨c', t', u, e1, rfl⟩ := hy
      injection e1 with e1 _
      injection e1 with e1
      have : c = c' := by simpa using e1
      subst this
      exact ⟨u, rfl⟩
end
end Mine
end

/-! part LV2 -/
section
set_option maxRecDepth 100000
open PySem PySem.W PyProof.Rows PySem.Calls
namespace Mine

def noSt : Stmt := .Pass ⟨0, 0, 0, 0⟩
def LS (i : Nat) : Stmt := (D 10).body.getD i noSt
def forBody : Stmt → List Stmt | .For _ _ b _ _ => b | _ => []
def whileS : Stmt := (forBody (LS 2)).getD 1 noSt

section
variable {w : World} {A : Around} {s s₀ : Shared} {mg mb : Str → Option Value} {pm doc : Value} {cd L a l : Addr} {vs : List Value} {ms : List Nat} {kvs : List (Str × Value)}

structure LV (s₀ : Shared) (L l : Addr) (ms : List Nat) (kvs : List (Str × Value)) (s : Shared) : Prop where
  kp : Kp [] s₀ s
  ns : s.heap.Ns L (lk kvs)
  row : lk kvs "row" = some (.ref l)
  marks : ∃ t, lk kvs "marks" = some (.str ⟨ms.toArray⟩ t)
theorem absorb1 {L : Addr} (hL : s₀.heap.get? L = none) : ∀ d ∈ [L], d ∈ ([] : List Addr) ∨ s₀.heap.get? d = none := fun d hd => .inr (by rw [List.mem_singleton.mp hd]; exact hL)
theorem LV.tok (X : LV s₀ L l ms kvs s) (t : Nat) : LV s₀ L l ms kvs { s with toks := t } := ⟨X.kp.tok t, X.ns, X.row, X.marks⟩
theorem LV.then {s' : Shared} {W : List Addr} (X : LV s₀ L l ms kvs s) (K : Kp W s s') (hW : ∀ d ∈ W, s₀.heap.get? d = none) (hL : L ∉ W) : LV s₀ L l ms kvs s' :=
  ⟨X.kp.absorb (fun d hd => .inr (hW d hd)) K, X.ns.at fun o e => K.keep _ o hL e, X.row, X.marks⟩
theorem LV.store {x : Str} {v : Value} {Q : Unit → Shared → Prop} (hL : s₀.heap.get? L = none) (X : LV s₀ L l ms kvs s) (h1 : x ≠ "row") (h2 : x ≠ "marks") (hl : (En 10 pm doc cd L a).kindOf x = some .local)
    (h : ∀ s', LV s₀ L l ms (put kvs x v) s' → Kp [L] s s' → s'.gens = s.gens → Q () s') : wpAny (model PR w) A (storeName (En 10 pm doc cd L a) x v) Q NoE s := by
  refine stA (L := L) hl (by kernel_rfl) rfl X.ns fun s' K g hn => h s' ⟨X.kp.absorb (absorb1 hL) K, hn, ?_, ?_⟩ K g
  · rw [lk_put_ne (Ne.symm h1)]; exact X.row
  · obtain ⟨t, e⟩ := X.marks
    exact ⟨t, by rw [lk_put_ne (Ne.symm h2)]; exact e⟩

theorem slice_str {x : Str} {t t1 t2 : Tok} {i j : Nat} {Q : Value → Shared → Prop} (hij : i ≤ j) (hj : j ≤ x.length) (hsz : x.length ≤ 1000) (h : ∀ t k, Q (.str ⟨((x.cps.toList.drop i).take (j - i)).toArray⟩ t) { s with toks := k }) :
    (sliceMade x t (some ((i : Int), t1)) (some ((j : Int), t2)) none).post Q s := by
  unfold sliceMade
  have e1 : slicePicked x (some ((i : Int), t1)) (some ((j : Int), t2)) none = (List.range (j - i)).map (fun k => i + k) := StrLaws.strSliceIndices_plain hij hj
  have e2 : (slicePicked x (some ((i : Int), t1)) (some ((j : Int), t2)) none).filterMap (x.cps[·]?) = (x.cps.toList.drop i).take (j - i) := StrLaws.sliced_plain x hij hj
  refine post_val_or_str ⟨?_, fun t' k => ?_⟩
  · rw [e2]
    split
    · exact Nat.le_trans hsz (by rw [sizeLine_eq]; decide)
    · show ((x.cps.toList.drop i).take (j - i)).toArray.size ≤ _
      have : ((x.cps.toList.drop i).take (j - i)).length ≤ x.cps.toList.length := by rw [List.length_take, List.length_drop]; omega
      have h2 : x.cps.toList.length = x.length := Array.length_toList
      rw [List.size_toArray, sizeLine_eq]
      omega
  · rw [e2]
    have := h t' k
    split
    · rename_i hc
      rw [e1, List.length_map, List.length_range] at hc
      have hl : j - i = x.length := by simpa using hc
      have h2 : x.cps.toList.length = x.length := Array.length_toList
      have hi : i = 0 := by omega
      subst hi
      rw [List.drop_zero, List.take_of_length_le (by omega), Array.toArray_toList] at this
      exact this
    · exact this

/-- text[i:j] -/
theorem e_slice_str {env : Env} {L : Addr} {x : Str} {p q r : Pos} {el eu : Expr} {y : Str} {t : Tok} {Q : Value → Shared → Prop} (hk : env.scope.kind = .function) (hl : env.kindOf x = some .local) (hL : env.locals = L) (hn : s.heap.Ns L (lk kvs))
    (hv : lk kvs x = some (.str y t)) (hsz : y.length ≤ 1000)
    (h : wpAny (model PR w) A (eval el env) (fun v s₁ => ∃ (i : Nat) (t₁ : Tok), v = .int i t₁ ∧ wpAny (model PR w) A (eval eu env) (fun v s₂ => ∃ (j : Nat) (t₂ : Tok), v = .int j t₂ ∧ i ≤ j ∧ j ≤ y.length ∧
      ∀ t s', Back s₂ s' → Q (.str ⟨((y.cps.toList.drop i).take (j - i)).toArray⟩ t) s') NoE s₁) NoE s)
    (hd : (x == ("__debug__" : Str)) = false := by decide) :
    wpAny (model PR w) A (eval (.Subscript (.Name x p) (.Slice (some el) (some eu) none q) r) env) Q NoE s := by
  refine wpAny_Subscript_str_slice (ldA hk hl hL hn hv ?_ hd)
  refine wpAny_mono h (fun v s₁ h₁ => ?_) fun _ _ x => x
  obtain ⟨i, t₁, rfl, h₁⟩ := h₁
  refine wpAny_mono h₁ (fun v s₂ h₂ => ?_) fun _ _ x => x
  obtain ⟨j, t₂, rfl, hij, hj, hq⟩ := h₂
  refine ⟨y, t, some ((i : Int), t₁), some ((j : Int), t₂), rfl, rfl, rfl, slice_str hij hj hsz fun t' k => hq t' _ ⟨fun b o e => Heap.get?_push_of_some _ e, rfl⟩⟩

/-- forget how the state came about -/
theorem gen_st {s t : Shared} {α : Type} {c : Sem α} {Q : α → Shared → Prop} (B : Back s t) (h : ∀ t', Back s t' → wpAny (model PR w) A c Q NoE t') : wpAny (model PR w) A c Q NoE t := h t B

theorem lv_while {st : Nat} {t t' : Tok} {Q : Flow → Shared → Prop} (hh : A.handled = none) (hroom : A.depth + 1 < recursionLimit) (G : GL w s₀.heap mg mb) (hL : s₀.heap.get? L = none) (hl : s₀.heap.IsList l vs.toArray) (hlen : vs.length = ms.length) (hsz : ms.length ≤ 100) (hms : ∀ c ∈ ms, c = 40 ∨ c = 41 ∨ c = 45)
    (X : LV s₀ L l ms kvs s) (hst : st < ms.length) (h1 : lk kvs "start" = some (.int (st : Nat) t)) (h2 : lk kvs "end" = some (.int (st : Nat) t'))
    (h : ∀ s' kvs' t, LV s₀ L l ms kvs' s' → Kp [L] s s' → lk kvs' "end" = some (.int (endOf ms st : Nat) t) → (∀ y : Str, y ≠ "end" → lk kvs' y = lk kvs y) → Q .next s') :
    wpAny (model PR w) A (exec whileS (En 10 pm doc cd L a)) Q NoE s := by
  show wpAny (model PR w) A (exec (.While _ _ [] _) (En 10 pm doc cd L a)) Q NoE s
  refine while_inv (fun f s' => ∃ e kvs' t, LV s₀ L l ms kvs' s' ∧ Kp [L] s s' ∧ lk kvs' "end" = some (.int (e : Nat) t) ∧ (∀ y : Str, y ≠ "end" → lk kvs' y = lk kvs y) ∧ seek ms st f e = endOf ms st ∧ st ≤ e ∧ f + e = st + ms.length + 1) (ms.length + 1)
    ⟨st, kvs, t', X, Kp.refl _ _, h2, fun _ _ => rfl, rfl, Nat.le_refl _, by omega⟩ ?_
  rintro f s' ⟨e, kvs', te, X', K', he, hy, hseek, hle, hfe⟩
  have G' := G.keep fun b o q => X'.kp.keep b o (by simp) q
  have hst' : lk kvs' "start" = some (.int (st : Nat) t) := by rw [hy _ (by decide)]; exact h1
  obtain ⟨tm, hm⟩ := X'.marks
  have hcs : ms[st]? = some ms[st] := List.getElem?_eq_getElem hst
  have stop : (¬ (ms[st]? = some 40 ∧ e < ms.length ∧ chk 0 ((ms.drop st).take (e + 1 - st)) = false)) → endOf ms st = e := by
    intro hc
    rw [← hseek]
    cases f with
    | zero => rfl
    | succ f => rw [seek, if_neg hc]
  have out : ∀ {s'' : Shared}, (¬ (ms[st]? = some 40 ∧ e < ms.length ∧ chk 0 ((ms.drop st).take (e + 1 - st)) = false)) → LV s₀ L l ms kvs' s'' → Kp [L] s s'' → Q .next s'' := by
    intro s'' hc X'' K''
    exact h s'' kvs' te X'' K'' (by rw [stop hc]; exact he) hy
  refine wpAny_isTrue_BoolOp (wpAny_allTrue_And_cons (wpAny_isTrue_Compare1 ?_))
  refine e_strAt (L := L) (c := ms[st]) (by kernel_rfl) (by kernel_rfl) (by kernel_rfl) rfl X'.ns hm hst' (by simp) (by omega) fun t1 => ?_
  refine wpAny_Constant_str (PySem.P.eq_str (wpAny_truthy_bool ?_))
  have q40 : (((⟨#[ms[st]]⟩ : Str).cps.toList == (Str.ofString "(").cps.toList)) = decide (ms[st] = 40) := by
    show ([ms[st]] == [40]) = decide (ms[st] = 40)
    by_cases e : ms[st] = 40
    · rw [e]; rfl
    · rw [decide_eq_false e]; simpa using e
  rw [q40]
  by_cases c40 : ms[st] = 40
  rotate_left
  · rw [if_neg (by simpa using c40)]
    rw [if_neg Bool.false_ne_true]
    exact out (fun q => c40 (by rw [hcs] at q; exact Option.some.inj q.1)) (X'.tok _) (K'.tok _)
  rw [if_pos (by simpa using c40)]
  refine wpAny_allTrue_And_cons (wpAny_isTrue_Compare1 ?_)
  refine ldA (L := L) (by kernel_rfl) (by kernel_rfl) rfl X'.ns he ?_
  refine e_len (L := L) (l := l) (its := vs.toArray) (by kernel_rfl) (by kernel_rfl) rfl rfl G' (by kernel_rfl) rfl X'.ns X'.row (by obtain ⟨o, ho, r⟩ := hl; exact ⟨o, X'.kp.keep _ o (by simp) ho, r⟩) (by simp; omega) fun t2 => ?_
  refine lt_int (wpAny_truthy_bool ?_)
  have qlt : decide ((e : Int) < ((vs.toArray.size : Nat) : Int)) = decide (e < ms.length) := by
    rw [List.size_toArray, hlen]
    exact decide_eq_decide.mpr (by omega)
  rw [qlt]
  by_cases hlt : e < ms.length
  rotate_left
  · rw [if_neg (by simpa using hlt)]
    rw [if_neg Bool.false_ne_true]
    exact out (fun q => hlt q.2.1) (X'.tok _) (K'.tok _)
  rw [if_pos (by simpa using hlt)]
  refine wpAny_allTrue_And_cons (wpAny_isTrue_Not (wpAny_isTrue_value ?_))
  obtain ⟨f2, hf2⟩ := fn_of G' 2 (by simp [theDefs])
  have hf2 : mg "_check_parenthesis" = some (.ref f2) := hf2
  refine e_fn (a := f2) 2 (by simp [theDefs]) (by kernel_rfl) (by kernel_rfl) rfl G' (by kernel_rfl) hf2 (by decide) ?_
  refine gen_st (s := s') ⟨fun _ _ e => e, rfl⟩ fun s₂ B₂ => ?_
  have X₂ : LV s₀ L l ms kvs' s₂ := X'.then (B₂.kp []) (by simp) (by simp)
  refine sp_cons (e_slice_str (L := L) (x := "marks") (by kernel_rfl) (by kernel_rfl) rfl X₂.ns hm (by show ms.toArray.size ≤ 1000; simp; omega) ?_)
  refine ldA (L := L) (by kernel_rfl) (by kernel_rfl) rfl X₂.ns hst' ⟨st, _, rfl, ?_⟩
  refine wpAny_BinOp (ldA (L := L) (by kernel_rfl) (by kernel_rfl) rfl X₂.ns he (wpAny_Constant_int (wpAny_add_int ?_)))
  refine ⟨e + 1, _, by rw [Int.natCast_add]; rfl, by omega, by show e + 1 ≤ ms.toArray.size; simp; omega, fun t₃ s₃ B₃ => sp_nil ⟨fun b o e => B₃.keep b o (B₂.keep b o e), ?_⟩⟩
  have B₃' : Back s₂ s₃ := ⟨B₃.keep, B₃.rest⟩
  have X₃ : LV s₀ L l ms kvs' s₃ := X₂.then (B₃'.kp []) (by simp) (by simp)
  have K₃ : Kp [L] s s₃ := (K'.then B₂).then B₃'
  have G₃ := G.keep fun b o q => X₃.kp.keep b o (by simp) q
  refine sp_check ?_ G₃ hh hroom hf2 fun s₄ K₄ => wpAny_truthy_bool ?_
  · intro c hc
    have hc' : c ∈ (ms.drop st).take (e + 1 - st) := by simpa using hc
    exact hms c (List.mem_of_mem_drop (List.mem_of_mem_take hc'))
  have X₄ : LV s₀ L l ms kvs' s₄ := X₃.then K₄ (by simp) (by simp)
  have K₄' : Kp [L] s s₄ := K₃.absorb (by simp) K₄
  have hck : chk 0 ((⟨((((⟨ms.toArray⟩ : Str).cps.toList.drop st).take (e + 1 - st)).toArray)⟩ : Str).cps.toList) = chk 0 ((ms.drop st).take (e + 1 - st)) := by simp
  rw [hck]
  by_cases hc : chk 0 ((ms.drop st).take (e + 1 - st)) = false
  · rw [hc]
    rw [if_pos (show (!false) = true from rfl)]
    refine wpAny_allTrue_And_nil ?_
    rw [if_pos rfl]
    refine wpAny_execs_cons (wpAny_AugAssign_Name (wpAny_loadName_local (by kernel_rfl) (by kernel_rfl) X₄.ns he (wpAny_Constant_int (wpAny_iadd_int ?_))))
    refine LV.store hL (X₄.tok _) (by decide) (by decide) (by kernel_rfl) fun s₅ X₅ K₅ g₅ => wpAny_execs_nil ?_
    cases f with
    | zero => omega
    | succ f =>
      refine ⟨f, Nat.lt_succ_self f, e + 1, _, s₄.toks + 1, X₅, K₄'.trans ⟨K₅.keep, K₅.os, K₅.bare⟩, ?_, fun y hy' => by rw [lk_put_ne hy']; exact hy y hy', ?_, by omega, by omega⟩
      · rw [lk_put_self, Int.natCast_add]; rfl
      · rw [← hseek, seek, if_pos ⟨by rw [hcs, c40], hlt, hc⟩]
  · have hc' : chk 0 ((ms.drop st).take (e + 1 - st)) = true := by simpa using hc
    rw [hc']
    rw [if_neg (show ¬ ((!true) = true) by decide)]
    rw [if_neg Bool.false_ne_true]
    exact out (fun q => hc q.2.2) X₄ K₄'
end
end Mine
end

/-! part LV3 -/
section
set_option maxRecDepth 100000
open PySem PySem.W PyProof.Rows PySem.Calls
namespace Mine

def NatV (v : Value) (n : Nat) : Prop := ∃ t, v = .int (n : Nat) t
theorem range_snoc (f : Nat → Nat) (i : Nat) : (List.range (i + 1)).map f = (List.range i).map f ++ [f i] := by
  rw [List.range_succ, List.map_append]; rfl

section
variable {w : World} {A : Around} {s s₀ : Shared} {mg mb : Str → Option Value} {pm doc : Value} {cd L a l : Addr} {vs : List Value} {ms : List Nat} {kvs : List (Str × Value)}

theorem none_back {W : List Addr} {s s' : Shared} {b : Addr} (K : Kp W s s') (hb : b ∉ W) (h : s'.heap.get? b = none) : s.heap.get? b = none := by
  cases e : s.heap.get? b with
  | none => rfl
  | some o => rw [K.keep b o hb e] at h; cases h
theorem list_at {W : List Addr} {s s' : Shared} {b : Addr} {its : Array Value} (H : s.heap.PlainList b its) (K : Kp W s s') (hb : b ∉ W) : s'.heap.PlainList b its := H.at fun o e => K.keep b o hb e
theorem ne_none {h : Heap} {b d : Addr} {its : Array Value} (H : h.PlainList b its) (hd : h.get? d = none) : d ≠ b := fun e => by obtain ⟨n, q⟩ := H; rw [e, q] at hd; cases hd
theorem ns_ne {h : Heap} {L d : Addr} {m : Str → Option Value} (H : h.Ns L m) (hd : h.get? d = none) : d ≠ L := fun e => by obtain ⟨o, _, _, q, _⟩ := H; rw [e, q] at hd; cases hd

def endsInv (s₀ : Shared) (L l le : Addr) (ms : List Nat) : Nat → Shared → Prop := fun i s => ∃ kvs its, LV s₀ L l ms kvs s ∧ lk kvs "ends" = some (.ref le) ∧ s.heap.PlainList le its ∧ All2 NatV its.toList ((List.range i).map (endOf ms))

theorem lv_ends {le : Addr} {Q : Flow → Shared → Prop} (hh : A.handled = none) (hroom : A.depth + 1 < recursionLimit) (G : GL w s₀.heap mg mb) (hL : s₀.heap.get? L = none) (hl : s₀.heap.IsList l vs.toArray) (hlen : vs.length = ms.length) (hsz : ms.length ≤ 100) (hms : ∀ c ∈ ms, c = 40 ∨ c = 41 ∨ c = 45)
    (X : LV s₀ L l ms kvs s) (hle : s₀.heap.get? le = none) (hleL : le ≠ L) (h1 : lk kvs "ends" = some (.ref le)) (h2 : s.heap.PlainList le #[])
    (h : ∀ s' , endsInv s₀ L l le ms ms.length s' → Q .next s') :
    wpAny (model PR w) A (exec (LS 2) (En 10 pm doc cd L a)) Q NoE s := by
  show wpAny (model PR w) A (exec (.For (.Name _ _) (.Call (.Name "range" _) [_] [] _) _ [] _) (En 10 pm doc cd L a)) Q NoE s
  have Gk : ∀ {s' : Shared} {kvs' : List (Str × Value)}, LV s₀ L l ms kvs' s' → GL w s'.heap mg mb := fun X' => G.keep fun b o q => X'.kp.keep b o (by simp) q
  refine for_range hh (by kernel_rfl) (by kernel_rfl) rfl rfl (Gk X) rfl ?_
  refine e_len (L := L) (l := l) (its := vs.toArray) (by kernel_rfl) (by kernel_rfl) rfl rfl (Gk X) (by kernel_rfl) rfl X.ns X.row (by obtain ⟨o, ho, r⟩ := hl; exact ⟨o, X.kp.keep _ o (by simp) ho, r⟩) (by simp; omega) fun t2 => ?_
  refine ⟨vs.toArray.size, t2, rfl, by simp; omega, fun I hI => ?_⟩
  have hI : s.heap.get? I = none := hI
  have hI₀ : s₀.heap.get? I = none := none_back X.kp (by simp) hI
  have hIL : L ≠ I := Ne.symm (ns_ne X.ns hI)
  have hIe : le ≠ I := Ne.symm (ne_none h2 hI)
  have hn : vs.toArray.size = ms.length := by simp [hlen]
  refine ⟨endsInv s₀ L l le ms, ?_, ?_, ?_, ?_⟩
  · rintro i s₁ s₂ ⟨kvs₁, its, X₁, e₁, l₁, a₁⟩ K g
    exact ⟨kvs₁, its, X₁.then K (by simpa using hI₀) (by simpa using hIL), e₁, list_at l₁ K (by simpa using hIe), a₁⟩
  · intro s₂ B
    exact ⟨kvs, #[], ⟨X.kp.trans ⟨fun b o _ e => B.keep b o e, by rw [B.rest], fun q => by rw [B.rest]; exact q⟩, X.ns.at fun o e => B.keep _ o e, X.row, X.marks⟩, h1, h2.at fun o e => B.keep _ o e, .nil⟩
  · rintro i t s₂ hi ⟨kvs₁, its, X₁, e₁, l₁, a₁⟩ -
    rw [hn] at hi
    refine LV.store hL X₁ (by decide) (by decide) (by kernel_rfl) fun s₃ X₃ K₃ g₃ => ?_
    refine wpAny_execs_cons (wpAny_Assign_Name ?_)
    refine ldA (L := L) (by kernel_rfl) (by kernel_rfl) rfl X₃.ns (lk_put_self _ _ _) ?_
    refine LV.store hL X₃ (by decide) (by decide) (by kernel_rfl) fun s₄ X₄ K₄ g₄ => ?_
    refine wpAny_execs_cons ?_
    show wpAny (model PR w) A (exec whileS (En 10 pm doc cd L a)) _ NoE s₄
    refine lv_while hh hroom G hL hl hlen hsz hms X₄ hi (t := t) (t' := t) ?_ (lk_put_self _ _ _) fun s₅ kvs₅ t₅ X₅ K₅ he₅ hy₅ => ?_
    · rw [lk_put_ne (by decide), lk_put_self]
    have k25 : Kp [L] s₂ s₅ := (K₃.trans K₄).trans K₅
    have l₅ : s₅.heap.PlainList le its := list_at l₁ k25 (by simpa using hleL)
    have e₅ : lk kvs₅ "ends" = some (.ref le) := by rw [hy₅ _ (by decide), lk_put_ne (by decide), lk_put_ne (by decide)]; exact e₁
    have hits : its.size ≤ 100 := by
      have := a₁.length
      simp at this
      omega
    refine wpAny_execs_cons (e_append (L := L) (l := le) (its := its) (by kernel_rfl) (by kernel_rfl) rfl X₅.ns e₅ l₅ (by rw [sizeLine_eq]; omega) rfl rfl rfl (by kernel_rfl) (by kernel_rfl) ?_)
    refine ldA (L := L) (by kernel_rfl) (by kernel_rfl) rfl X₅.ns he₅ ⟨l₅, fun s₆ K₆ g₆ l₆ => wpAny_execs_nil ?_⟩
    refine ⟨⟨kvs₅, its.push _, X₅.then K₆ (by simpa using hle) (by simpa using Ne.symm hleL), e₅, l₆, ?_⟩, fun o e => ?_⟩
    · rw [Array.toList_push, range_snoc]
      exact a₁.snoc ⟨_, rfl⟩
    · exact K₆.keep I o (by simpa using Ne.symm hIe) (k25.keep I o (by simpa using Ne.symm hIL) e)
  · intro s₂ hs
    rw [hn] at hs
    exact h s₂ hs
end
end Mine
end

/-! part LV4 -/
section
set_option maxRecDepth 100000
open PySem PySem.W PyProof.Rows PySem.Calls
namespace Mine

/-- the sign of digit d at place i -/
def sgn (i d : Nat) : Nat := if d = 0 then 8234 else if d = 1 then 8235 else if d = 2 then 8236 else if d = 3 then 65 + i else 119808 + i
def codes (ds : List Nat) : List Nat := ds.mapIdx sgn

theorem or_up : ((List.range 64).all fun n => Builtin.bitOr ((n : Int) + 1) 1 == ((upOdd n : Nat) : Int)) = true := by decide +kernel
theorem and_up : ((List.range 64).all fun n => Builtin.bitAnd ((n : Int) + 2) (Builtin.bitNot 1) == ((upEven n : Nat) : Int)) = true := by decide +kernel

theorem mkc_sgn {i d : Nat} (hi : i < 20) (hd : d < 5) : mkc (sgn i d) = mk d := by
  have : ((List.range 20).all fun i => (List.range 5).all fun d => mkc (sgn i d) == mk d) = true := by decide +kernel
  have := List.all_eq_true.mp this i (List.mem_range.mpr hi)
  exact eq_of_beq (List.all_eq_true.mp this d (List.mem_range.mpr hd))
theorem sgn_one {i d : Nat} (hi : i < 20) (hd : d < 5) : (sgn i d == 8235) = (d == 1) := by
  have : ((List.range 20).all fun i => (List.range 5).all fun d => (sgn i d == 8235) == (d == 1)) = true := by decide +kernel
  have := List.all_eq_true.mp this i (List.mem_range.mpr hi)
  exact eq_of_beq (List.all_eq_true.mp this d (List.mem_range.mpr hd))
theorem codes_get (ds : List Nat) (i : Nat) : (codes ds)[i]? = (ds[i]?).map (sgn i) := List.getElem?_mapIdx
theorem codes_mkc {ds : List Nat} (hn : ds.length ≤ 20) (hd : ∀ d ∈ ds, d < 5) : (codes ds).map mkc = ds.map mk := by
  apply List.ext_getElem?
  intro i
  rw [List.getElem?_map, List.getElem?_map, codes_get]
  cases h : ds[i]? with
  | none => rfl
  | some d =>
    have hi : i < ds.length := (List.getElem?_eq_some_iff.mp h).1
    show some (mkc (sgn i d)) = some (mk d)
    rw [mkc_sgn (by omega) (hd d (List.mem_of_getElem? h))]
theorem lev_le (ds : List Nat) (p : Nat) : ∀ n, lev ds p n ≤ 2 * n
  | 0 => Nat.le_refl _
  | n + 1 => by
    have ih := lev_le ds p n
    unfold lev upOdd upEven
    split
    · split <;> omega
    · omega

section
variable {w : World} {A : Around} {s s₀ : Shared} {mg mb : Str → Option Value} {pm doc : Value} {cd L a l le lt : Addr} {vs : List Value} {ms : List Nat} {kvs : List (Str × Value)}

/-- or_(add(level, 1), 1) -/
theorem lv_odd {n : Nat} {t : Tok} {p1 p2 p3 p4 p5 q1 q2 : Pos} {k1 k2 : Nat} {Q : Value → Shared → Prop} (hn : n < 64) (hroom : A.depth < recursionLimit) (G : GL w s.heap mg mb) (hns : s.heap.Ns L (lk kvs)) (hv : lk kvs "level" = some (.int (n : Nat) t)) (h : ∀ s' t, Back s s' → Q (.int (upOdd n : Nat) t) s') :
    wpAny (model PR w) A (eval (.Call (.Name "or_" p1) [.Call (.Name "add" p2) [.Name "level" p3, .Constant (.int 1) k1 p4] [] q1, .Constant (.int 1) k2 p5] [] q2) (En 10 pm doc cd L a)) Q NoE s := by
  obtain ⟨f4, hf4⟩ := fn_of G 4 (by simp [theDefs])
  have hf4 : mg "add" = some (.ref f4) := hf4
  obtain ⟨f7, hf7⟩ := fn_of G 7 (by simp [theDefs])
  have hf7 : mg "or_" = some (.ref f7) := hf7
  refine e_fn (a := f7) 7 (by simp [theDefs]) (by kernel_rfl) (by kernel_rfl) rfl G (by kernel_rfl) hf7 (by decide) ?_
  refine sp_cons (e_fn (a := f4) 4 (by simp [theDefs]) (by kernel_rfl) (by kernel_rfl) rfl G (by kernel_rfl) hf4 (by decide) ?_)
  refine sp_cons (ldA (L := L) (by kernel_rfl) (by kernel_rfl) rfl hns hv (sp_cons (wpAny_Constant_int (sp_nil ⟨fun _ _ e => e, ?_⟩))))
  refine sp_add G hroom hf4 fun s₁ t₁ B₁ => ?_
  have B₁' : Back s s₁ := ⟨B₁.keep, B₁.rest⟩
  refine sp_cons (wpAny_Constant_int (sp_nil ⟨fun b o e => B₁'.keep b o e, ?_⟩))
  refine sp_or (G.keep B₁'.keep) hroom hf7 fun s₂ t₂ B₂ => ?_
  rw [eq_of_beq (List.all_eq_true.mp or_up n (List.mem_range.mpr hn))]
  exact h _ _ (B₁'.trans ⟨B₂.keep, B₂.rest⟩)
/-- and_(add(level, 2), inv(1)) -/
theorem lv_even {n : Nat} {t : Tok} {p1 p2 p3 p4 p5 p6 q1 q2 q3 : Pos} {k1 k2 : Nat} {Q : Value → Shared → Prop} (hn : n < 64) (hroom : A.depth < recursionLimit) (G : GL w s.heap mg mb) (hns : s.heap.Ns L (lk kvs)) (hv : lk kvs "level" = some (.int (n : Nat) t)) (h : ∀ s' t, Back s s' → Q (.int (upEven n : Nat) t) s') :
    wpAny (model PR w) A (eval (.Call (.Name "and_" p1) [.Call (.Name "add" p2) [.Name "level" p3, .Constant (.int 2) k1 p4] [] q1, .Call (.Name "inv" p6) [.Constant (.int 1) k2 p5] [] q3] [] q2) (En 10 pm doc cd L a)) Q NoE s := by
  obtain ⟨f4, hf4⟩ := fn_of G 4 (by simp [theDefs])
  have hf4 : mg "add" = some (.ref f4) := hf4
  obtain ⟨f5, hf5⟩ := fn_of G 5 (by simp [theDefs])
  have hf5 : mg "and_" = some (.ref f5) := hf5
  obtain ⟨f6, hf6⟩ := fn_of G 6 (by simp [theDefs])
  have hf6 : mg "inv" = some (.ref f6) := hf6
  refine e_fn (a := f5) 5 (by simp [theDefs]) (by kernel_rfl) (by kernel_rfl) rfl G (by kernel_rfl) hf5 (by decide) ?_
  refine sp_cons (e_fn (a := f4) 4 (by simp [theDefs]) (by kernel_rfl) (by kernel_rfl) rfl G (by kernel_rfl) hf4 (by decide) ?_)
  refine sp_cons (ldA (L := L) (by kernel_rfl) (by kernel_rfl) rfl hns hv (sp_cons (wpAny_Constant_int (sp_nil ⟨fun _ _ e => e, ?_⟩))))
  refine sp_add G hroom hf4 fun s₁ t₁ B₁ => ?_
  have B₁' : Back s s₁ := ⟨B₁.keep, B₁.rest⟩
  have G₁ := G.keep B₁'.keep
  refine sp_cons (e_fn (a := f6) 6 (by simp [theDefs]) (by kernel_rfl) (by kernel_rfl) rfl G₁ (by kernel_rfl) hf6 (by decide) ?_)
  refine sp_cons (wpAny_Constant_int (sp_nil ⟨fun b o e => e, ?_⟩))
  refine sp_inv G₁ hroom hf6 fun s₂ t₂ B₂ => ?_
  have B₂' : Back s₁ s₂ := ⟨B₂.keep, B₂.rest⟩
  refine sp_nil ⟨fun b o e => B₂'.keep b o (B₁'.keep b o e), ?_⟩
  refine sp_and (G₁.keep B₂'.keep) hroom hf5 fun s₃ t₃ B₃ => ?_
  rw [eq_of_beq (List.all_eq_true.mp and_up n (List.mem_range.mpr hn))]
  exact h _ _ ((B₁'.trans B₂').trans B₃)

structure TV (s₀ : Shared) (L l le lt : Addr) (ms : List Nat) (itsE itsT : Array Value) (p : Nat) (kvs : List (Str × Value)) (s : Shared) : Prop where
  lv : LV s₀ L l ms kvs s
  ends : lk kvs "ends" = some (.ref le)
  told : lk kvs "told" = some (.ref lt)
  place : ∃ t, lk kvs "place" = some (.int (p : Nat) t)
  elist : s.heap.PlainList le itsE
  tlist : s.heap.PlainList lt itsT
variable {itsE itsT : Array Value} {p : Nat}
theorem TV.then {s' : Shared} {W : List Addr} (X : TV s₀ L l le lt ms itsE itsT p kvs s) (K : Kp W s s') (hW : ∀ d ∈ W, s₀.heap.get? d = none) (hL : L ∉ W) (he : le ∉ W) (ht : lt ∉ W) : TV s₀ L l le lt ms itsE itsT p kvs s' :=
  ⟨X.lv.then K hW hL, X.ends, X.told, X.place, list_at X.elist K he, list_at X.tlist K ht⟩
theorem TV.back {s' : Shared} (X : TV s₀ L l le lt ms itsE itsT p kvs s) (B : Back s s') : TV s₀ L l le lt ms itsE itsT p kvs s' := X.then (B.kp []) (by simp) (by simp) (by simp) (by simp)
theorem TV.store {x : Str} {v : Value} {Q : Unit → Shared → Prop} (hL : s₀.heap.get? L = none) (heL : le ≠ L) (htL : lt ≠ L) (X : TV s₀ L l le lt ms itsE itsT p kvs s) (h1 : x ≠ "row") (h2 : x ≠ "marks") (h3 : x ≠ "ends") (h4 : x ≠ "told") (h5 : x ≠ "place") (hl : (En 10 pm doc cd L a).kindOf x = some .local)
    (h : ∀ s', TV s₀ L l le lt ms itsE itsT p (put kvs x v) s' → Kp [L] s s' → Q () s') : wpAny (model PR w) A (storeName (En 10 pm doc cd L a) x v) Q NoE s := by
  refine X.lv.store hL h1 h2 hl fun s' X' K g => h s' ⟨X', ?_, ?_, ?_, list_at X.elist K (by simpa using heL), list_at X.tlist K (by simpa using htL)⟩ K
  · rw [lk_put_ne (Ne.symm h3)]; exact X.ends
  · rw [lk_put_ne (Ne.symm h4)]; exact X.told
  · rw [lk_put_ne (Ne.symm h5)]; exact X.place

def innerS : Stmt := (forBody (LS 4)).getD 2 noSt

theorem lv_inner {ds : List Nat} {t0 : Tok} {Q : Flow → Shared → Prop} (hh : A.handled = none) (hroom : A.depth + 1 < recursionLimit) (G : GL w s₀.heap mg mb) (hL : s₀.heap.get? L = none) (heL : le ≠ L) (htL : lt ≠ L) (hl : s₀.heap.IsList l vs.toArray)
    (hds : ∀ d ∈ ds, d < 5) (hn : ds.length ≤ 20) (hr : All2 StrOfCode vs (codes ds)) (hE : All2 NatV itsE.toList ((List.range ds.length).map (endOf (ds.map mk)))) (hp : p < ds.length)
    (X : TV s₀ L l le lt ms itsE itsT p kvs s) (hlev : lk kvs "level" = some (.int 0 t0))
    (h : ∀ s' kvs' t W, TV s₀ L l le lt ms itsE itsT p kvs' s' → Kp W s s' → (∀ d ∈ W, d = L ∨ s.heap.get? d = none) → lk kvs' "level" = some (.int (lev ds p p : Nat) t) → Q .next s') :
    wpAny (model PR w) A (exec innerS (En 10 pm doc cd L a)) Q NoE s := by
  show wpAny (model PR w) A (exec (.For (.Name _ _) (.Call (.Name "range" _) [.Name _ _] [] _) _ [] _) (En 10 pm doc cd L a)) Q NoE s
  have Gk : ∀ {s' : Shared} {kvs' : List (Str × Value)}, TV s₀ L l le lt ms itsE itsT p kvs' s' → GL w s'.heap mg mb := fun X' => G.keep fun b o q => X'.lv.kp.keep b o (by simp) q
  obtain ⟨tp, hpl⟩ := X.place
  refine for_range hh (by kernel_rfl) (by kernel_rfl) rfl rfl (Gk X) rfl ?_
  refine ldA (L := L) (by kernel_rfl) (by kernel_rfl) rfl X.lv.ns hpl ?_
  refine ⟨p, tp, rfl, by omega, fun I hI => ?_⟩
  have hI₀ : s₀.heap.get? I = none := none_back X.lv.kp (by simp) hI
  have hIL : L ≠ I := Ne.symm (ns_ne X.lv.ns hI)
  have hIe : le ≠ I := Ne.symm (ne_none X.elist hI)
  have hIt : lt ≠ I := Ne.symm (ne_none X.tlist hI)
  have hvl : vs.length = ds.length := by rw [hr.length]; exact List.length_mapIdx
  refine ⟨fun j s₁ => ∃ kvs₁ t, TV s₀ L l le lt ms itsE itsT p kvs₁ s₁ ∧ Kp [L, I] s s₁ ∧ lk kvs₁ "level" = some (.int (lev ds p j : Nat) t), ?_, ?_, ?_, ?_⟩
  · rintro i s₁ s₂ ⟨kvs₁, t, X₁, K₁, e₁⟩ K g
    exact ⟨kvs₁, t, X₁.then K (by simpa using hI₀) (by simpa using hIL) (by simpa using hIe) (by simpa using hIt), K₁.absorb (by simp) K, e₁⟩
  · intro s₂ B
    exact ⟨kvs, t0, X.back B, (Kp.refl _ _).then B, hlev⟩
  · rintro j t s₁ hj ⟨kvs₁, tl, X₁, K₁, e₁⟩ -
    refine X₁.store hL heL htL (by decide) (by decide) (by decide) (by decide) (by decide) (by kernel_rfl) fun s₂ X₂ K₂ => ?_
    have keepI : ∀ {s' : Shared}, Kp [L] s₂ s' → (∀ o, s₁.heap.get? I = some o → s'.heap.get? I = some o) := fun K o e => K.keep I o (by simpa using Ne.symm hIL) (K₂.keep I o (by simpa using Ne.symm hIL) e)
    obtain ⟨tp₂, hp₂⟩ := X₂.place
    have lev₂ : lk (put kvs₁ "start" (.int (j : Nat) t)) "level" = some (.int (lev ds p j : Nat) tl) := by rw [lk_put_ne (by decide)]; exact e₁
    have st₂ : lk (put kvs₁ "start" (.int (j : Nat) t)) "start" = some (.int (j : Nat) t) := lk_put_self _ _ _
    generalize put kvs₁ "start" (.int (j : Nat) t) = kv at X₂ hp₂ lev₂ st₂
    have hjn : j < ds.length := Nat.lt_trans hj hp
    have hej : ((List.range ds.length).map (endOf (ds.map mk)))[j]? = some (endOf (ds.map mk) j) := by
      rw [List.getElem?_map, List.getElem?_range hjn]; rfl
    obtain ⟨ve, hve, te, rfl⟩ := hE.get hej
    have hdj : ds[j]? = some ds[j] := List.getElem?_eq_getElem hjn
    have hcj : (codes ds)[j]? = some (sgn j ds[j]) := by rw [codes_get, hdj]; rfl
    obtain ⟨vr, hvr, tr, rfl⟩ := hr.get hcj
    have hd5 : ds[j] < 5 := hds _ (List.getElem_mem hjn)
    have hlv : lev ds p j < 64 := by have := lev_le ds p j; omega
    refine wpAny_execs_cons (wpAny_If (wpAny_isTrue_Compare1 ?_))
    refine e_listAt (L := L) (l := le) (its := itsE) (by kernel_rfl) (by kernel_rfl) (by kernel_rfl) rfl X₂.lv.ns X₂.ends st₂ X₂.elist.isList (by rw [← Array.getElem?_toList]; exact hve) (by omega) ?_
    refine ldA (L := L) (by kernel_rfl) (by kernel_rfl) rfl X₂.lv.ns hp₂ ?_
    refine gt_int (wpAny_truthy_bool ?_)
    have hstep : lev ds p (j + 1) = if endOf (ds.map mk) j > p then (if ds[j]? = some 1 then upOdd (lev ds p j) else upEven (lev ds p j)) else lev ds p j := rfl
    by_cases hgt : endOf (ds.map mk) j > p
    · rw [if_pos (by rw [decide_eq_true_eq]; omega)]
      rw [if_pos hgt] at hstep
      refine wpAny_execs_cons (wpAny_Assign_Name (wpAny_IfExp (wpAny_isTrue_Compare1 ?_)))
      refine e_listAt (L := L) (l := l) (its := vs.toArray) (v := .str ⟨#[sgn j ds[j]]⟩ tr) (by kernel_rfl) (by kernel_rfl) (by kernel_rfl) rfl X₂.lv.ns X₂.lv.row st₂ (by obtain ⟨o, ho, r⟩ := hl; exact ⟨o, X₂.lv.kp.keep _ o (by simp) ho, r⟩) (by simpa using hvr) (by omega) ?_
      refine e_chr (k := 8235) (by kernel_rfl) (by kernel_rfl) rfl rfl (Gk X₂) (by decide) fun t9 => ?_
      refine PySem.P.eq_str (wpAny_truthy_bool ?_)
      have q1 : ((⟨#[sgn j ds[j]]⟩ : Str).cps.toList == (⟨#[8235]⟩ : Str).cps.toList) = (ds[j] == 1) := by
        rw [← sgn_one (i := j) (by omega) hd5]
        show ([sgn j ds[j]] == [8235]) = _
        by_cases e : sgn j ds[j] = 8235
        · rw [e]; rfl
        · rw [show (sgn j ds[j] == 8235) = false from by simpa using e]; simpa using e
      rw [q1]
      have fin : ∀ {s₃ : Shared} {n : Nat} {t : Tok}, Back s₂ s₃ → lev ds p (j + 1) = n → wpAny (model PR w) A (storeName (En 10 pm doc cd L a) "level" (.int (n : Nat) t))
          (fun _ s₄ => (∃ kvs₁ t, TV s₀ L l le lt ms itsE itsT p kvs₁ s₄ ∧ Kp [L, I] s s₄ ∧ lk kvs₁ "level" = some (.int (lev ds p (j + 1) : Nat) t)) ∧ ∀ o, s₁.heap.get? I = some o → s₄.heap.get? I = some o) NoE s₃ := by
        intro s₃ n t B hn'
        refine (X₂.back B).store hL heL htL (by decide) (by decide) (by decide) (by decide) (by decide) (by kernel_rfl) fun s₄ X₄ K₄ => ?_
        have k24 : Kp [L] s₂ s₄ := ((Kp.refl [L] s₂).then B).trans K₄
        exact ⟨⟨_, t, X₄, (K₁.absorb (by simp) K₂).absorb (by simp) k24, by rw [lk_put_self, hn']⟩, keepI k24⟩
      by_cases h1 : ds[j] = 1
      · rw [if_pos (by simpa using h1)]
        rw [if_pos (by rw [hdj, h1])] at hstep
        refine lv_odd (L := L) (kvs := kv) (t := tl) hlv (Nat.lt_of_succ_lt hroom) (G.keep fun b o q => X₂.lv.kp.keep b o (by simp) q) X₂.lv.ns lev₂ fun s₃ t₃ B₃ => ?_
        refine wpAny_mono (fin (s₃ := s₃) ⟨B₃.keep, B₃.rest⟩ hstep) (fun _ s₄ h₄ => wpAny_execs_nil (wpAny_execs_nil h₄)) fun _ _ x => x
      · rw [if_neg (by simpa using h1)]
        rw [if_neg (by rw [hdj]; intro q; exact h1 (Option.some.inj q))] at hstep
        refine lv_even (L := L) (kvs := kv) (t := tl) hlv (Nat.lt_of_succ_lt hroom) (G.keep fun b o q => X₂.lv.kp.keep b o (by simp) q) X₂.lv.ns lev₂ fun s₃ t₃ B₃ => ?_
        refine wpAny_mono (fin (s₃ := s₃) ⟨B₃.keep, B₃.rest⟩ hstep) (fun _ s₄ h₄ => wpAny_execs_nil (wpAny_execs_nil h₄)) fun _ _ x => x
    · rw [if_neg (by rw [decide_eq_true_eq]; omega)]
      rw [if_neg hgt] at hstep
      refine wpAny_execs_nil (wpAny_execs_nil ?_)
      exact ⟨⟨kv, tl, X₂, K₁.absorb (by simp) K₂, by rw [hstep]; exact lev₂⟩, keepI (Kp.refl _ _)⟩
  · rintro s₂ ⟨kvs₁, t, X₁, K₁, e₁⟩
    exact h s₂ kvs₁ t [L, I] X₁ K₁ (by intro d hd; simp only [List.mem_cons, List.not_mem_nil, or_false] at hd; rcases hd with rfl | rfl; exact .inl rfl; exact .inr hI) e₁
end
end Mine
end

/-! part LV5 -/
section
set_option maxRecDepth 100000
open PySem PySem.W PyProof.Rows PySem.Calls
namespace Mine

/-- a pair (letter, level) of the heap, new since s₀ -/
def ToldR (s₀ : Shared) (Wx : List Addr) (h : Heap) (v : Value) (x : Nat × Nat) : Prop := ∃ T t u, v = .ref T ∧ s₀.heap.get? T = none ∧ T ∉ Wx ∧ h.IsTuple T #[.str ⟨#[x.1]⟩ t, .int (x.2 : Nat) u]
theorem ToldR.keep {s₀ : Shared} {Wx W : List Addr} {s s' : Shared} {v : Value} {x : Nat × Nat} (h : ToldR s₀ Wx s.heap v x) (K : Kp W s s') (hW : ∀ d ∈ W, d ∈ Wx ∨ s.heap.get? d = none) : ToldR s₀ Wx s'.heap v x := by
  obtain ⟨T, t, u, rfl, hn, hT, o, ho, r⟩ := h
  refine ⟨T, t, u, rfl, hn, hT, o, K.keep T o (fun q => ?_) ho, r⟩
  rcases hW T q with hx | hx
  · exact hT hx
  · rw [ho] at hx; cases hx
theorem ToldR.less {s₀ : Shared} {Wx : List Addr} {h : Heap} {v : Value} {x : Nat × Nat} (H : ToldR s₀ Wx h v x) : ToldR s₀ [] h v x := by
  obtain ⟨T, t, u, rfl, hn, hT, r⟩ := H
  exact ⟨T, t, u, rfl, hn, by simp, r⟩

section
variable {w : World} {A : Around} {s s₀ : Shared} {mg mb : Str → Option Value} {pm doc : Value} {cd L a l le lt : Addr} {vs : List Value} {kvs : List (Str × Value)}

def toldInv (s₀ : Shared) (L l le lt : Addr) (ds : List Nat) (itsE : Array Value) (Wx : List Addr) : Nat → Shared → Prop := fun i s => ∃ kvs itsT, LV s₀ L l (ds.map mk) kvs s ∧ lk kvs "ends" = some (.ref le) ∧ lk kvs "told" = some (.ref lt) ∧
  s.heap.PlainList le itsE ∧ s.heap.PlainList lt itsT ∧ All2 (ToldR s₀ Wx s.heap) itsT.toList (toldUpto ds i)

theorem toldUpto_len (ds : List Nat) : ∀ p, (toldUpto ds p).length ≤ p
  | 0 => Nat.le_refl _
  | p + 1 => by
    have := toldUpto_len ds p
    unfold toldUpto
    split
    · rw [List.length_append, List.length_singleton]; omega
    · omega
theorem mk_45 {d : Nat} (hd : d < 5) (h : mk d = 45) : d = 3 ∨ d = 4 := by
  unfold mk at h
  split at h
  · cases h
  · split at h
    · cases h
    · omega

theorem lv_told {ds : List Nat} {itsE : Array Value} {Q : Flow → Shared → Prop} (hh : A.handled = none) (hroom : A.depth + 1 < recursionLimit) (G : GL w s₀.heap mg mb) (hL : s₀.heap.get? L = none) (hle : s₀.heap.get? le = none) (hlt : s₀.heap.get? lt = none) (heL : le ≠ L) (htL : lt ≠ L) (het : le ≠ lt) (hl : s₀.heap.IsList l vs.toArray)
    (hds : ∀ d ∈ ds, d < 5) (hn : ds.length ≤ 10) (hr : All2 StrOfCode vs (codes ds)) (hE : All2 NatV itsE.toList ((List.range ds.length).map (endOf (ds.map mk))))
    (X : LV s₀ L l (ds.map mk) kvs s) (he1 : lk kvs "ends" = some (.ref le)) (ht1 : lk kvs "told" = some (.ref lt)) (he2 : s.heap.PlainList le itsE) (ht2 : s.heap.PlainList lt #[])
    (h : ∀ s' Wx, toldInv s₀ L l le lt ds itsE Wx ds.length s' → Q .next s') :
    wpAny (model PR w) A (exec (LS 4) (En 10 pm doc cd L a)) Q NoE s := by
  show wpAny (model PR w) A (exec (.For (.Name _ _) (.Call (.Name "range" _) [_] [] _) _ [] _) (En 10 pm doc cd L a)) Q NoE s
  have Gk : ∀ {s' : Shared} {kvs' : List (Str × Value)}, LV s₀ L l (ds.map mk) kvs' s' → GL w s'.heap mg mb := fun X' => G.keep fun b o q => X'.kp.keep b o (by simp) q
  have rowAt : ∀ {s' : Shared} {kvs' : List (Str × Value)}, LV s₀ L l (ds.map mk) kvs' s' → s'.heap.IsList l vs.toArray := fun X' => by obtain ⟨o, ho, r⟩ := hl; exact ⟨o, X'.kp.keep _ o (by simp) ho, r⟩
  have hvl : vs.length = ds.length := by rw [hr.length]; exact List.length_mapIdx
  refine for_range hh (by kernel_rfl) (by kernel_rfl) rfl rfl (Gk X) rfl ?_
  refine e_len (L := L) (l := l) (its := vs.toArray) (by kernel_rfl) (by kernel_rfl) rfl rfl (Gk X) (by kernel_rfl) rfl X.ns X.row (rowAt X) (by simp; omega) fun t2 => ?_
  refine ⟨vs.toArray.size, t2, rfl, by simp; omega, fun I hI => ?_⟩
  have hI : s.heap.get? I = none := hI
  have hI₀ : s₀.heap.get? I = none := none_back X.kp (by simp) hI
  have hIL : L ≠ I := Ne.symm (ns_ne X.ns hI)
  have hIe : le ≠ I := Ne.symm (ne_none he2 hI)
  have hIt : lt ≠ I := Ne.symm (ne_none ht2 hI)
  have hn' : vs.toArray.size = ds.length := by simp [hvl]
  refine ⟨toldInv s₀ L l le lt ds itsE [L, lt, I], ?_, ?_, ?_, ?_⟩
  · rintro i s₁ s₂ ⟨kvs₁, its, X₁, e₁, t₁, l₁, m₁, a₁⟩ K g
    exact ⟨kvs₁, its, X₁.then K (by simpa using hI₀) (by simpa using hIL), e₁, t₁, list_at l₁ K (by simpa using hIe), list_at m₁ K (by simpa using hIt), a₁.mono fun v x r => r.keep K (by simp)⟩
  · intro s₂ B
    exact ⟨kvs, #[], ⟨X.kp.trans ⟨fun b o _ e => B.keep b o e, by rw [B.rest], fun q => by rw [B.rest]; exact q⟩, X.ns.at fun o e => B.keep _ o e, X.row, X.marks⟩, he1, ht1, he2.at fun o e => B.keep _ o e, ht2.at fun o e => B.keep _ o e, .nil⟩
  · rintro p t s₁ hp ⟨kvs₁, its, X₁, e₁, t₁, l₁, m₁, a₁⟩ ⟨oI, hoI⟩
    rw [hn'] at hp
    refine LV.store hL X₁ (by decide) (by decide) (by kernel_rfl) fun s₂ X₂ K₂ g₂ => ?_
    have T₂ : TV s₀ L l le lt (ds.map mk) itsE its p (put kvs₁ "place" (.int (p : Nat) t)) s₂ :=
      ⟨X₂, by rw [lk_put_ne (by decide)]; exact e₁, by rw [lk_put_ne (by decide)]; exact t₁, ⟨t, lk_put_self _ _ _⟩, list_at l₁ K₂ (by simpa using heL), list_at m₁ K₂ (by simpa using htL)⟩
    have pl₂ : lk (put kvs₁ "place" (.int (p : Nat) t)) "place" = some (.int (p : Nat) t) := lk_put_self _ _ _
    have a₂ : All2 (ToldR s₀ [L, lt, I] s₂.heap) its.toList (toldUpto ds p) := a₁.mono fun v x r => r.keep K₂ (by simp)
    have kI₂ : s₂.heap.get? I = some oI := K₂.keep I oI (by simpa using Ne.symm hIL) hoI
    generalize put kvs₁ "place" (.int (p : Nat) t) = kv at X₂ T₂ pl₂
    obtain ⟨tm, hm⟩ := X₂.marks
    have hdp : ds[p]? = some ds[p] := List.getElem?_eq_getElem hp
    have hd5 : ds[p] < 5 := hds _ (List.getElem_mem hp)
    have hmp : (ds.map mk)[p]? = some (mk ds[p]) := by rw [List.getElem?_map, hdp]; rfl
    have hstep : toldUpto ds (p + 1) = if (ds.map mk)[p]? = some 45 then toldUpto ds p ++ [(97 + p, lev ds p p)] else toldUpto ds p := rfl
    rw [hmp] at hstep
    have back : ∀ {s' : Shared} {kvs' : List (Str × Value)} {its' : Array Value}, TV s₀ L l le lt (ds.map mk) itsE its' p kvs' s' → s'.heap.get? I = some oI → All2 (ToldR s₀ [L, lt, I] s'.heap) its'.toList (toldUpto ds (p + 1)) →
        toldInv s₀ L l le lt ds itsE [L, lt, I] (p + 1) s' ∧ ∀ o, s₁.heap.get? I = some o → s'.heap.get? I = some o := fun T' hI' ha => ⟨⟨_, _, T'.lv, T'.ends, T'.told, T'.elist, T'.tlist, ha⟩, fun o e => by rw [hoI] at e; cases e; exact hI'⟩
    refine wpAny_execs_cons (wpAny_If (wpAny_isTrue_Compare1 ?_))
    refine e_strAt (L := L) (c := mk ds[p]) (by kernel_rfl) (by kernel_rfl) (by kernel_rfl) rfl X₂.ns hm pl₂ (by simpa using hmp) (by omega) fun t5 => ?_
    refine wpAny_Constant_str (PySem.P.ne_str (wpAny_truthy_bool ?_))
    have q45 : (((⟨#[mk ds[p]]⟩ : Str).cps.toList != (Str.ofString "-").cps.toList)) = !decide (mk ds[p] = 45) := by
      show ([mk ds[p]] != [45]) = !decide (mk ds[p] = 45)
      by_cases e : mk ds[p] = 45
      · rw [e]; rfl
      · rw [decide_eq_false e]; simpa using e
    rw [q45]
    by_cases h45 : mk ds[p] = 45
    rotate_left
    · rw [decide_eq_false h45, if_pos (show (!false) = true from rfl)]
      rw [if_neg (by intro q; exact h45 (Option.some.inj q))] at hstep
      refine wpAny_execs_cons (wpAny_Continue ?_)
      exact back (s' := { s₂ with toks := s₂.toks + 1 + 1 }) (T₂.back ⟨fun _ _ e => e, rfl⟩) kI₂ (by rw [hstep]; exact a₂)
    rw [decide_eq_true h45, if_neg (show ¬ ((!true) = true) by decide)]
    rw [if_pos (by rw [h45])] at hstep
    refine wpAny_execs_nil ?_
    refine wpAny_execs_cons (wpAny_Assign_Name (wpAny_Constant_int ?_))
    refine TV.store (s := { s₂ with toks := s₂.toks + 1 + 1 + 1 }) hL heL htL (T₂.back ⟨fun _ _ e => e, rfl⟩) (by decide) (by decide) (by decide) (by decide) (by decide) (by kernel_rfl) fun s₃ T₃ K₃ => ?_
    refine wpAny_execs_cons ?_
    show wpAny (model PR w) A (exec innerS (En 10 pm doc cd L a)) _ NoE s₃
    refine lv_inner hh hroom G hL heL htL hl hds (by omega) hr hE hp T₃ (lk_put_self _ _ _) fun s₄ kvs₄ t₄ W₄ T₄ K₄ hW₄ lev₄ => ?_
    have a₃ : All2 (ToldR s₀ [L, lt, I] s₃.heap) its.toList (toldUpto ds p) := a₂.mono fun v x r => ToldR.keep (s := { s₂ with toks := s₂.toks + 1 + 1 + 1 }) r K₃ (by simp)
    have kI₃ : s₃.heap.get? I = some oI := K₃.keep I oI (by simpa using Ne.symm hIL) kI₂
    have kI₄ : s₄.heap.get? I = some oI := K₄.keep I oI (fun q => by rcases hW₄ I q with e | e; exact hIL e.symm; rw [kI₃] at e; cases e) kI₃
    have a₄ : All2 (ToldR s₀ [L, lt, I] s₄.heap) its.toList (toldUpto ds p) := a₃.mono fun v x r => r.keep K₄ (fun d hd => (hW₄ d hd).imp (fun e => by simp [e]) id)
    have hits : its.size ≤ 100 := by
      have h1 := a₄.length
      have h2 := toldUpto_len ds p
      simp at h1
      omega
    have G₄ := Gk T₄.lv
    obtain ⟨f8, hf8⟩ := fn_of G₄ 8 (by simp [theDefs])
    have hf8 : mg "map_table_b3" = some (.ref f8) := hf8
    have hcp : (codes ds)[p]? = some (sgn p ds[p]) := by rw [codes_get, hdp]; rfl
    obtain ⟨vr, hvr, tr, rfl⟩ := hr.get hcp
    obtain ⟨tp₄, hp₄⟩ := T₄.place
    refine wpAny_execs_cons (e_append (L := L) (l := lt) (its := its) (by kernel_rfl) (by kernel_rfl) rfl T₄.lv.ns T₄.told T₄.tlist (by rw [sizeLine_eq]; omega) rfl rfl rfl (by kernel_rfl) (by kernel_rfl) ?_)
    refine e_tuple ?_
    refine sp_cons (e_fn (a := f8) 8 (by simp [theDefs]) (by kernel_rfl) (by kernel_rfl) rfl G₄ (by kernel_rfl) hf8 (by decide) ?_)
    refine sp_cons (e_listAt (L := L) (l := l) (its := vs.toArray) (v := .str ⟨#[sgn p ds[p]]⟩ tr) (by kernel_rfl) (by kernel_rfl) (by kernel_rfl) rfl T₄.lv.ns T₄.lv.row hp₄ (rowAt T₄.lv) (by simpa using hvr) (by omega) ?_)
    refine sp_nil ⟨fun _ _ e => e, ?_⟩
    refine sp_b3 (i := p) (by omega) ?_ G₄ (Nat.lt_of_succ_lt hroom) hf8 fun s₅ t₅ B₅ => ?_
    · rcases mk_45 hd5 h45 with e | e
      · rw [e]; exact .inl rfl
      · rw [e]; exact .inr rfl
    have T₅ := T₄.back B₅
    refine sp_cons (ldA (L := L) (by kernel_rfl) (by kernel_rfl) rfl T₅.lv.ns lev₄ (sp_nil ⟨by size_fits, ?_⟩))
    have Bp : Back s₅ { s₅ with heap := s₅.heap.push { cls := .type "tuple", data := .seq [Value.str ⟨#[97 + p]⟩ t₅, Value.int (lev ds p p : Nat) t₄].toArray } } := ⟨fun b o e => Heap.get?_push_of_some _ e, rfl⟩
    have T₆ := T₅.back Bp
    refine ⟨T₆.tlist, fun s₇ K₇ g₇ l₇ => wpAny_execs_nil ?_⟩
    have hTn : s₅.heap.get? s₅.heap.objs.size = none := Heap.get?_none_of_le (Nat.le_refl _)
    have kI₅ : s₅.heap.get? I = some oI := B₅.keep I oI kI₄
    have kI₆ := Bp.keep I oI kI₅
    refine back ⟨T₆.lv.then K₇ (by simpa using hlt) (by simpa using Ne.symm htL), T₆.ends, T₆.told, T₆.place, list_at T₆.elist K₇ (by simpa using het), l₇⟩ (K₇.keep I oI (by simpa using Ne.symm hIt) kI₆) ?_
    rw [hstep, Array.toList_push]
    refine All2.snoc (a₄.mono fun v x r => (((r.keep (B₅.kp []) (by simp)).keep (Bp.kp []) (by simp)).keep K₇ (by simp))) ?_
    refine ToldR.keep (s := { s₅ with heap := s₅.heap.push { cls := .type "tuple", data := .seq [Value.str ⟨#[97 + p]⟩ t₅, Value.int (lev ds p p : Nat) t₄].toArray } }) ⟨s₅.heap.objs.size, t₅, t₄, rfl, none_back T₅.lv.kp (by simp) hTn, ?_, ⟨_, Heap.get?_push_size _ rfl, rfl, _, rfl⟩⟩ K₇ (by simp)
    simp only [List.mem_cons, List.not_mem_nil, or_false, not_or]
    exact ⟨ns_ne T₅.lv.ns hTn, ne_none T₅.tlist hTn, fun q => by rw [q, kI₅] at hTn; cases hTn⟩
  · intro s₂ hs
    rw [hn'] at hs
    exact h s₂ _ hs
end
end Mine
end

/-! part LV6 -/
section
set_option maxRecDepth 100000
open PySem PySem.W PyProof.Rows PySem.Calls
namespace Mine

section
variable {w : World} {A : Around} {s s₀ : Shared} {mg mb : Str → Option Value} {pm doc : Value} {cd L a l le lt : Addr} {vs : List Value} {kvs : List (Str × Value)}

theorem mk_cases (d : Nat) : mk d = 40 ∨ mk d = 41 ∨ mk d = 45 := by unfold mk; split; exact .inl rfl; split; exact .inr (.inl rfl); exact .inr (.inr rfl)

/-- storing a new empty list under a name -/
theorem st_nil {L : Addr} {env : Env} {x : Str} {kvs : List (Str × Value)} {px p q : Pos} {Q : Flow → Shared → Prop} (hl : env.kindOf x = some .local) (hk : env.scope.kind = .function) (hL : env.locals = L) (hn : s.heap.Ns L (lk kvs))
    (h : ∀ s' b, Kp [L] s s' → s.heap.get? b = none → s'.heap.PlainList b #[] → s'.heap.Ns L (lk (put kvs x (.ref b))) → Q .next s')
    (hs : swapsWith (.List [] p) (some (.Name x px)) q.line env = pure false := by rfl) :
    wpAny (model PR w) A (exec (.Assign [.Name x px] (.List [] p) q) env) Q NoE s := by
  refine wpAny_Assign_Name ?_ hs
  refine e_list (sp_nil ⟨by size_fits, ?_⟩)
  have hb : s.heap.get? s.heap.objs.size = none := Heap.get?_none_of_le (Nat.le_refl _)
  have hbL : s.heap.objs.size ≠ L := ns_ne hn hb
  refine stA (L := L) hl hk hL (hn.push _) fun s' K g hn' => h s' _ ⟨fun b o hb' e => K.keep b o hb' (Heap.get?_push_of_some _ e), K.os, K.bare⟩ hb ?_ hn'
  exact ⟨_, K.keep _ _ (by simpa using hbL) (Heap.get?_push_size _ rfl)⟩

theorem sp_levels {f : Addr} {ds : List Nat} {Q : Value → Shared → Prop} (hh : A.handled = none) (hroom : A.depth + 2 < recursionLimit) (G : GL w s.heap mg mb) (ha : mg "_law_levels" = some (.ref f)) (hl : s.heap.IsList l vs.toArray)
    (hds : ∀ d ∈ ds, d < 5) (hn : ds.length ≤ 10) (hr : All2 StrOfCode vs (codes ds))
    (h : ∀ s' lt its, Kp [] s s' → s.heap.get? lt = none → s'.heap.PlainList lt its → All2 (ToldR s [] s'.heap) its.toList (told ds) → Q (.ref lt) s') :
    wpAny (model PR w) A (call (.ref f) [.ref l]) Q NoE s := by
  refine enter 10 (by simp [theDefs]) G (by omega) ha (binds := [("row", .ref l)]) ?b ?c ?l (fun pm doc cd h₀ B sz hns => ?_) ?co ?g ?k
  case b => intro _ _ _; kernel_rfl
  case c => decide +kernel
  case l => kernel_rfl
  case co => kernel_rfl
  case g => kernel_rfl
  case k => kernel_rfl
  have hA : (A.deeper (En 10 pm doc cd s.heap.objs.size f)).handled = none := hh
  have hr' : (A.deeper (En 10 pm doc cd s.heap.objs.size f)).depth + 1 < recursionLimit := by show A.depth + 1 + 1 < _; omega
  generalize A.deeper (En 10 pm doc cd s.heap.objs.size f) = A' at hA hr' ⊢
  have hLn : s.heap.get? s.heap.objs.size = none := Heap.get?_none_of_le (Nat.le_refl _)
  generalize s.heap.objs.size = L at hLn hns ⊢
  have er : lk [(Str.ofString "row", Value.ref l)].reverse "row" = some (.ref l) := by kernel_rfl
  have hvl : vs.length = ds.length := by rw [hr.length]; exact List.length_mapIdx
  have hmk : (codes ds).map mkc = ds.map mk := codes_mkc (by omega) hds
  have hlen : vs.length = (ds.map mk).length := by rw [hvl, List.length_map]
  have hms : ∀ c ∈ ds.map mk, c = 40 ∨ c = 41 ∨ c = 45 := fun c hc => by
    obtain ⟨d, _, rfl⟩ := List.mem_map.mp hc
    exact mk_cases d
  have k₀ : Kp [] s { s with heap := h₀, toks := s.toks + [(Str.ofString "row", Value.ref l)].length } := ⟨fun b o _ e => B.keep b o e, rfl, fun q => q⟩
  have hns₁ : ({ s with heap := h₀, toks := s.toks + [(Str.ofString "row", Value.ref l)].length } : Shared).heap.Ns L (lk [(Str.ofString "row", Value.ref l)].reverse) := hns
  generalize ({ s with heap := h₀, toks := s.toks + [(Str.ofString "row", Value.ref l)].length } : Shared) = s₁ at k₀ hns₁ ⊢
  have G₁ : GL w s₁.heap mg mb := G.keep fun b o e => k₀.keep b o (by simp) e
  refine wpAny_execs_cons (wpAny_Assign_Name ?_)
  refine e_join rfl rfl rfl ?_
  refine marks_comp (s := { s₁ with toks := s₁.toks + 1 }) (l := l) (vs := vs) (cs := codes ds) (kvs := [(Str.ofString "row", Value.ref l)].reverse) hA (by omega) G₁ hns₁ er (by obtain ⟨o, ho, r⟩ := hl; exact ⟨o, k₀.keep _ o (by simp) ho, r⟩) hr (by omega) fun D s₂ ys B₂ hD hy ha2 => ?_
  rw [hmk] at ha2
  refine ⟨D, ys, _, rfl, hy, strOf_codes ha2, ?_, fun t k => ?_⟩
  · rw [sum_codes, List.length_map]; omega
  rw [cat_codes]
  have k₂ : Kp [] s s₂ := k₀.trans ⟨fun b o _ e => B₂.keep b o e, by rw [B₂.rest], fun q => by rw [B₂.rest]; exact q⟩
  have hns₂ : s₂.heap.Ns L (lk [(Str.ofString "row", Value.ref l)].reverse) := hns₁.at fun o e => B₂.keep _ o e
  refine stA (s := { s₂ with toks := k }) (L := L) (by kernel_rfl) (by kernel_rfl) rfl hns₂ fun s₃ K₃ g₃ hns₃ => ?_
  have k₃ : Kp [] s s₃ := k₂.absorb (absorb1 hLn) ⟨K₃.keep, K₃.os, K₃.bare⟩
  have X₃ : LV s L l (ds.map mk) _ s₃ := ⟨k₃, hns₃, by kernel_rfl, ⟨t, by kernel_rfl⟩⟩
  refine wpAny_execs_cons (st_nil (L := L) (by kernel_rfl) (by kernel_rfl) rfl hns₃ fun s₄ le K₄ hle le₄ hns₄ => ?_)
  have hle₀ : s.heap.get? le = none := none_back k₃ (by simp) hle
  have heL : le ≠ L := ns_ne hns₃ hle
  have X₄ : LV s L l (ds.map mk) _ s₄ := ⟨k₃.absorb (absorb1 hLn) K₄, hns₄, by kernel_rfl, ⟨t, by kernel_rfl⟩⟩
  refine wpAny_execs_cons ?_
  show wpAny (model PR w) A' (exec (LS 2) (En 10 pm doc cd L f)) _ NoE s₄
  refine lv_ends hA hr' G hLn hl hlen (by rw [List.length_map]; omega) hms X₄ hle₀ heL (by kernel_rfl) le₄ fun s₅ H₅ => ?_
  obtain ⟨kvs₅, itsE, X₅, e₅, l₅, a₅⟩ := H₅
  rw [List.length_map] at a₅
  refine wpAny_execs_cons (st_nil (L := L) (by kernel_rfl) (by kernel_rfl) rfl X₅.ns fun s₆ lt K₆ hlt lt₆ hns₆ => ?_)
  have hlt₀ : s.heap.get? lt = none := none_back X₅.kp (by simp) hlt
  have htL : lt ≠ L := ns_ne X₅.ns hlt
  have hel : lt ≠ le := ne_none l₅ hlt
  have X₆ : LV s L l (ds.map mk) _ s₆ := ⟨X₅.kp.absorb (absorb1 hLn) K₆, hns₆, by rw [lk_put_ne (by decide)]; exact X₅.row, by obtain ⟨t, e⟩ := X₅.marks; exact ⟨t, by rw [lk_put_ne (by decide)]; exact e⟩⟩
  refine wpAny_execs_cons ?_
  show wpAny (model PR w) A' (exec (LS 4) (En 10 pm doc cd L f)) _ NoE s₆
  refine lv_told hA hr' G hLn hle₀ hlt₀ heL htL (Ne.symm hel) hl hds hn hr a₅ X₆ (by rw [lk_put_ne (by decide)]; exact e₅) (lk_put_self _ _ _) (list_at l₅ K₆ (by simpa using heL)) lt₆ fun s₇ Wx H₇ => ?_
  obtain ⟨kvs₇, itsT, X₇, e₇, t₇, l₇, m₇, a₇⟩ := H₇
  refine wpAny_execs_cons (wpAny_Return_some ?_)
  refine ldA (L := L) (by kernel_rfl) (by kernel_rfl) rfl X₇.ns t₇ ?_
  exact h s₇ lt itsT X₇.kp hlt₀ m₇ (a₇.mono fun v x r => r.less)
end
end Mine
end

/-! part CPR -/
section
set_option maxRecDepth 100000
open PySem PySem.W PyProof.Rows PySem.Calls
namespace Mine

/-! a list comprehension that unpacks pairs and keeps one of the two names -/
section
variable {w : World} {A : Around} {s : Shared} {env : Env}

def PickR (h : Heap) (x z : Str) (v r : Value) : Prop := ∃ T u₁ u₂, v = .ref T ∧ h.IsTuple T #[u₁, u₂] ∧ r = if z = x then u₁ else u₂
def PairAt (h : Heap) (v : Value) : Prop := ∃ T u₁ u₂, v = .ref T ∧ h.IsTuple T #[u₁, u₂]

def CPInv (s₀ : Shared) (x z : Str) (I ax D C : Addr) (items : Array Value) (k : Nat) (s' : Shared) : Prop := ∃ i ys kvs, i ≤ items.size ∧ k = items.size - i ∧ s'.heap.IsListIter I ax i ∧ s'.heap.PlainList D ys ∧ s'.heap.Ns C (lk kvs) ∧ All2 (PickR s₀.heap x z) (items.toList.take i) ys.toList ∧ Kp [] s₀ s'

theorem comp_pairs_loop {x y z : Str} {px py pz pt : Pos} {kt : Nat} {iter : Expr} {scope : Scope} {pos : Pos} {I ax D C : Addr} {items : Array Value} {R : Result → Shared → Prop} {s₀ : Shared} {m0 : List (Str × Value)} (hh : A.handled = none) (hkind : scope.kind = .function)
    (hx : scope.names.lookup x = some .local) (hy : scope.names.lookup y = some .local) (hxy : x ≠ y) (hz : z = x ∨ z = y) (hzd : (z == ("__debug__" : Str)) = false) (hsz : items.size ≤ 1000)
    (hP : ∀ (j : Nat) v, items[j]? = some v → PairAt s₀.heap v)
    (hI : s₀.heap.get? I = none) (hD : s₀.heap.get? D = none) (hC : s₀.heap.get? C = none) (hID : I ≠ D) (hIC : I ≠ C) (hDC : D ≠ C)
    (hax : s₀.heap.IsList ax items) (hit : s.heap.IsListIter I ax 0) (hacc : s.heap.PlainList D #[]) (hn : s.heap.Ns C (lk m0)) (hk : Kp [] s₀ s)
    (hR : ∀ s' kvs ys, s'.heap.Ns C (lk kvs) → s'.heap.PlainList D ys → All2 (PickR s₀.heap x z) items.toList ys.toList → Kp [] s₀ s' → R (.ok .next) s') :
    codeAny (model PR w) A (.compLoop (.ListComp (.Name z pz) [⟨.Tuple [.Name x px, .Name y py] kt pt, iter, [], 0⟩] scope pos) 0 (.ref I) (.ref D) (compEnv scope C env)) R s := by
  refine codeAny_loop rfl (CPInv s₀ x z I ax D C items) (fun k s' h' => ?_) items.size ⟨0, #[], m0, Nat.zero_le _, rfl, hit, hacc, hn, .nil, hk⟩
  obtain ⟨i, ys, kvs, hi, rfl, hit', hacc', hn', ha, B⟩ := h'
  show wpAny _ A ((compTurn _ 0 (.ref I) (.ref D) (compEnv scope C env)).onRaise (fun x => do noteFrame x (compEnv scope C env); theTreesLotGoes x)) _ _ s'
  refine wpAny_noted ?_
  refine wpAny_mono (E := NoE) (Q := fun fin s' => match fin with | .done f => R (.ok f) s' | .again c' => c' = (.compLoop (.ListComp (.Name z pz) [⟨.Tuple [.Name x px, .Name y py] kt pt, iter, [], 0⟩] scope pos) 0 (.ref I) (.ref D) (compEnv scope C env)) ∧ ∃ m, m < items.size - i ∧ CPInv s₀ x z I ax D C items m s') ?_ (fun _ _ x => x) fun _ _ x => x.elim
  rw [compTurn_list]
  have hl' : s'.heap.IsList ax items := by obtain ⟨o, ho, r⟩ := hax; exact ⟨o, B.keep _ o (by simp) ho, r⟩
  have haxI : ax ≠ I := fun q => by obtain ⟨o, ho, r⟩ := hax; rw [q, hI] at ho; cases ho
  refine wpAny_bind (wpAny_standAt (wpAny_bind ?_))
  cases hv : items[i]? with
  | none =>
    have hin : i = items.size := Nat.le_antisymm hi (by simpa using hv)
    refine wpAny_pyNext_list_end hh hit' hl' hv fun h' he => wpAny_pure ?_
    have keep : ∀ b o, s₀.heap.get? b = some o → h'.get? b = some o := fun b o e => he b o (fun q => by rw [q, hI] at e; cases e) (B.keep b o (by simp) e)
    refine hR { s' with heap := h' } kvs ys (hn'.extBut he (Ne.symm hIC)) (hacc'.at fun o e => he _ o (Ne.symm hID) e) ?_ ⟨fun b o _ e => keep b o e, B.os, B.bare⟩
    rw [hin, List.take_of_length_le (by simp)] at ha
    exact ha
  | some v =>
    have hlt : i < items.size := (Array.getElem?_eq_some_iff.mp hv).1
    obtain ⟨T, u₁, u₂, rfl, hT⟩ := hP i v hv
    refine wpAny_pyNext_list_item hit' hl' hv fun h₁ hit₁ hs₁ => ?_
    have B₁ : Kp [] s₀ { s' with heap := h₁ } := ⟨fun b o _ e => hs₁.extBut b o (fun q => by rw [q, hI] at e; cases e) (B.keep b o (by simp) e), B.os, B.bare⟩
    have hn₁ : h₁.Ns C (lk kvs) := hn'.extBut hs₁.extBut (Ne.symm hIC)
    have hacc₁ : h₁.PlainList D ys := hacc'.at fun o e => hs₁.extBut _ o (Ne.symm hID) e
    refine wpAny_bind (wpAny_letOwnedTupleGo_listiter hit₁ ?_)
    have hT₁ : h₁.IsTuple T #[u₁, u₂] := by obtain ⟨o, ho, r⟩ := hT; exact ⟨o, B₁.keep T o (by simp) ho, r⟩
    refine wpAny_bind (assign_pair hh hT₁ fun s₂ B₂ => ?_)
    have B₂' : Kp [] s₀ s₂ := B₁.then B₂
    refine stA (L := C) hx hkind rfl (hn₁.at fun o e => B₂.keep _ o e) fun s₃ K₃ g₃ hn₃ => ?_
    refine stA (L := C) hy hkind rfl hn₃ fun s₄ K₄ g₄ hn₄ => ?_
    have K₂₄ : Kp [C] s₂ s₄ := K₃.trans K₄
    have hit₄ : s₄.heap.IsListIter I ax (i + 1) := by obtain ⟨o, ho, r⟩ := hit₁; exact ⟨o, K₂₄.keep _ o (by simpa using hIC) (B₂.keep _ o ho), r⟩
    have hacc₄ : s₄.heap.PlainList D ys := hacc₁.at fun o e => K₂₄.keep _ o (by simpa using hDC) (B₂.keep _ o e)
    have k₄ : Kp [] s₀ s₄ := B₂'.absorb (fun d hd => .inr (by rw [List.mem_singleton.mp hd]; exact hC)) K₂₄
    have hzv : lk (put (put kvs x u₁) y u₂) z = some (if z = x then u₁ else u₂) := by
      rcases hz with rfl | rfl
      · rw [lk_put_ne hxy, lk_put_self, if_pos rfl]
      · rw [lk_put_self, if_neg (Ne.symm hxy)]
    refine wpAny_bind (wpAny_tests_nil ?_)
    rw [if_pos rfl]
    have hzl : (compEnv scope C env).kindOf z = some .local := by
      rcases hz with rfl | rfl
      · exact hx
      · exact hy
    refine wpAny_bind (wpAny_bind (ldA (L := C) hkind hzl rfl hn₄ hzv (wpAny_bind (wpAny_list_append_plain (hsz := ?_) hacc₄ fun h₅ hl₅ hs₅ => wpAny_pure (wpAny_pure ⟨rfl, ?_⟩))) hzd))
    · refine ⟨items.size - (i + 1), by omega, i + 1, ys.push _, _, hlt, rfl, ?_, hl₅, hn₄.sameBut hs₅ (Ne.symm hDC), ?_, ?_⟩
      · obtain ⟨o, ho, r⟩ := hit₄; exact ⟨o, hs₅.extBut _ o hID ho, r⟩
      · rw [Array.toList_push]
        have hvl : items.toList[i]? = some (.ref T) := by rw [Array.getElem?_toList]; exact hv
        rw [List.take_add_one, hvl]
        exact ha.snoc ⟨T, u₁, u₂, rfl, hT, rfl⟩
      · exact k₄.absorb (W' := [D]) (fun d hd => .inr (by rw [List.mem_singleton.mp hd]; exact hD)) ⟨fun b o hb e => hs₅.extBut b o (by simpa using hb) e, rfl, fun q => q⟩
    · have := ha.length
      rw [List.length_take] at this
      have h2 : ys.toList.length = ys.size := Array.length_toList
      have h3 : items.toList.length = items.size := Array.length_toList
      rw [sizeLine_eq]; omega

theorem comp_block_pairs {x y z : Str} {px py pz pt : Pos} {kt : Nat} {iter : Expr} {scope : Scope} {pos : Pos} {ax : Addr} {items : Array Value} {RR : Value → Env → Result → Shared → Prop} (hh : A.handled = none) (hcell : ∀ y ∈ scope.names, y.2 ≠ .cell) (hkind : scope.kind = .function)
    (hx : scope.names.lookup x = some .local) (hy : scope.names.lookup y = some .local) (hxy : x ≠ y) (hz : z = x ∨ z = y) (hzd : (z == ("__debug__" : Str)) = false) (hsz : items.size ≤ 1000)
    (hP : ∀ (j : Nat) v, items[j]? = some v → PairAt s.heap v) (hax : s.heap.IsList ax items)
    (h : ∀ s' D C ys kvs, Kp [] s s' → s.heap.get? D = none → s.heap.get? C = none → D ≠ C → s'.heap.Ns C (lk kvs) → s'.heap.PlainList D ys → All2 (PickR s.heap x z) items.toList ys.toList → RR (.ref D) (compEnv scope C env) (.ok .next) s') :
    wpAny (model PR w) A (newList []) (fun acc s₃ => wpAny (model PR w) A (newFunctionEnv scope env.globals [] [] env.qual none .none (some env)) (fun cenv s₄ =>
      codeAny (model PR w) A (.compStart (.ListComp (.Name z pz) [⟨.Tuple [.Name x px, .Name y py] kt pt, iter, [], 0⟩] scope pos) 0 (.ref s.heap.objs.size) acc { cenv with scope := scope }) (RR acc { cenv with scope := scope }) s₄) NoE s₃) NoE
      { s with heap := s.heap.push { cls := .type "list_iterator", data := .fields #[.ref ax, .int 0 0] } } := by
  refine wpAny_newObj_type (wpAny_newFunctionEnv hcell (by intro y hy; simp at hy) (fun h₁ hns₁ hsb₁ => ?_) hkind)
  have n0 : ∀ k, s.heap.get? (s.heap.objs.size + k) = none := fun k => Heap.get?_none_of_le (Nat.le_add_right _ _)
  generalize hI : ({ cls := .type "list_iterator", data := .fields #[.ref ax, .int 0 0] } : Obj) = io at hns₁ hsb₁ ⊢
  have z1 : (s.heap.push io).objs.size = s.heap.objs.size + 1 := Heap.size_push ..
  have z2 : ((s.heap.push io).push { cls := .type "list", data := .seq ([] : List Value).toArray }).objs.size = s.heap.objs.size + 2 := by rw [Heap.size_push, z1]
  dsimp only at hns₁ hsb₁ ⊢
  rw [z2] at hns₁ hsb₁ ⊢
  rw [z1]
  have old : ∀ b o, b < s.heap.objs.size + 2 → ((s.heap.push io).push { cls := .type "list", data := .seq ([] : List Value).toArray }).get? b = some o → h₁.get? b = some o := fun b o hb e => hsb₁.extBut b o (Nat.ne_of_lt hb) (Heap.get?_push_of_some _ e)
  have k₁ : Kp [] s { s with heap := h₁, toks := s.toks + ([] : List (Str × Value)).length } := ⟨fun b o _ e => old b o (Nat.lt_of_lt_of_le (Heap.lt_size e) (Nat.le_add_right _ _)) (Heap.get?_push_of_some _ (Heap.get?_push_of_some _ e)), rfl, fun q => q⟩
  have hit : h₁.IsListIter s.heap.objs.size ax 0 := by
    refine ⟨io, old _ _ (by omega) (Heap.get?_push_of_some _ (Heap.get?_push_size _ (by rw [← hI]; rfl))), by rw [← hI], by rw [← hI]; rfl⟩
  have hacc : h₁.PlainList (s.heap.objs.size + 1) #[] := ⟨_, old _ _ (by omega) (by rw [← z1]; exact Heap.get?_push_size _ rfl)⟩
  have loop : codeAny (model PR w) A (.compLoop (.ListComp (.Name z pz) [⟨.Tuple [.Name x px, .Name y py] kt pt, iter, [], 0⟩] scope pos) 0 (.ref s.heap.objs.size) (.ref (s.heap.objs.size + 1)) (compEnv scope (s.heap.objs.size + 2) env))
      (RR (.ref (s.heap.objs.size + 1)) (compEnv scope (s.heap.objs.size + 2) env)) { s with heap := h₁, toks := s.toks + ([] : List (Str × Value)).length } := by
    refine comp_pairs_loop (m0 := []) hh hkind hx hy hxy hz hzd hsz hP (n0 0) (n0 1) (n0 2) (Nat.ne_of_lt (Nat.lt_succ_self _)) (Nat.ne_of_lt (Nat.lt_succ_of_lt (Nat.lt_succ_self _))) (Nat.ne_of_lt (Nat.lt_succ_self _)) hax hit hacc hns₁ k₁ fun s' kvs ys hn' hl' ha' k' => ?_
    exact h s' _ _ ys kvs k' (n0 1) (n0 2) (Nat.ne_of_lt (Nat.lt_succ_self _)) hn' hl' ha'
  exact codeAny_compStart_list loop (wpAny_pyIter_listiter hit loop)

theorem e_comp_pairs {x y z : Str} {px py pz pt : Pos} {kt : Nat} {iter : Expr} {scope : Scope} {pos : Pos} {ax : Addr} {items : Array Value} {Q : Value → Shared → Prop} (hh : A.handled = none) (hfree : ∀ y ∈ scope.names, y.2 ≠ .free) (hcell : ∀ y ∈ scope.names, y.2 ≠ .cell) (hkind : scope.kind = .function)
    (hnames : ∀ y ∈ scope.names, y.2 = .local → scope.names.lookup y.1 = some .local)
    (hx : scope.names.lookup x = some .local) (hy : scope.names.lookup y = some .local) (hxy : x ≠ y) (hz : z = x ∨ z = y) (hzd : (z == ("__debug__" : Str)) = false) (hsz : items.size ≤ 1000)
    (hP : ∀ (j : Nat) v, items[j]? = some v → PairAt s.heap v) (hax : s.heap.IsList ax items)
    (he : ∀ Q' : Value → Shared → Prop, Q' (.ref ax) s → wpAny (model PR w) A (eval iter env) Q' NoE s)
    (h : ∀ s' D ys, Kp [] s s' → s.heap.get? D = none → s'.heap.PlainList D ys → All2 (PickR s.heap x z) items.toList ys.toList → Q (.ref D) s')
    (hs : ∀ x, foldedSetIterable iter env x = pure x := by intro _; rfl) :
    wpAny (model PR w) A (eval (.ListComp (.Name z pz) [⟨.Tuple [.Name x px, .Name y py] kt pt, iter, [], 0⟩] scope pos) env) Q NoE s := by
  refine wpAny_ListComp hfree hkind hnames (he _ (wpAny_pyIter_list hax ?_)) hs
  refine comp_block_pairs (RR := fun acc cenv r s' => ∃ m, s'.heap.Ns cenv.locals m ∧ ∀ h', Heap.SameBut cenv.locals s'.heap h' →
        match r with | .ok _ => Q acc { s' with heap := h' } | .error x => wpAny (model PR w) A (passOn "comprehension.variables-let-go" x cenv) Q NoE { s' with heap := h' }) hh hcell hkind hx hy hxy hz hzd hsz hP hax fun s' D C ys kvs k' hD hC hDC hn' hl' ha' => ?_
  exact ⟨_, hn', fun h' hs' => h _ _ ys (k'.absorb (W' := [C]) (fun d hd => .inr (by rw [List.mem_singleton.mp hd]; exact hC)) ⟨fun b o hb e => hs'.extBut b o (fun q : b = C => hb (List.mem_singleton.mpr q)) e, rfl, fun q => q⟩) hD (hl'.at fun o e => hs'.extBut D o hDC e) ha'⟩

/-- name = [.. for x, y in ..] -/
theorem a_comp_pairs {x y z v : Str} {px py pz pt pv spos : Pos} {kt : Nat} {iter : Expr} {scope : Scope} {pos : Pos} {ax L : Addr} {kvs : List (Str × Value)} {items : Array Value} {Q : Flow → Shared → Prop} (hh : A.handled = none) (hsw : swapsWith (.ListComp (.Name z pz) [⟨.Tuple [.Name x px, .Name y py] kt pt, iter, [], 0⟩] scope pos) (some (.Name v pv)) spos.line env = pure true)
    (hfree : ∀ y ∈ scope.names, y.2 ≠ .free) (hcell : ∀ y ∈ scope.names, y.2 ≠ .cell) (hkind : scope.kind = .function)
    (hnames : ∀ y ∈ scope.names, y.2 = .local → scope.names.lookup y.1 = some .local)
    (hx : scope.names.lookup x = some .local) (hy : scope.names.lookup y = some .local) (hxy : x ≠ y) (hz : z = x ∨ z = y) (hzd : (z == ("__debug__" : Str)) = false) (hsz : items.size ≤ 1000)
    (hP : ∀ (j : Nat) v, items[j]? = some v → PairAt s.heap v) (hax : s.heap.IsList ax items)
    (hvl : env.kindOf v = some .local) (hek : env.scope.kind = .function) (hL : env.locals = L) (hn : s.heap.Ns L (lk kvs))
    (he : ∀ Q' : Value → Shared → Prop, Q' (.ref ax) s → wpAny (model PR w) A (eval iter env) Q' NoE s)
    (h : ∀ s' D ys, Kp [L] s s' → s.heap.get? D = none → s'.heap.PlainList D ys → All2 (PickR s.heap x z) items.toList ys.toList → s'.heap.Ns L (lk (put kvs v (.ref D))) → Q .next s')
    (hs : ∀ x, foldedSetIterable iter env x = pure x := by intro _; rfl) :
    wpAny (model PR w) A (exec (.Assign [.Name v pv] (.ListComp (.Name z pz) [⟨.Tuple [.Name x px, .Name y py] kt pt, iter, [], 0⟩] scope pos) spos) env) Q NoE s := by
  rw [exec_Assign_Name_used _ _ _ _ hsw]
  refine wpAny_bind (wpAny_standAt (wpAny_bind ?_))
  show wpAny _ A (do let _ ← comprehension (.ListComp (.Name z pz) [⟨.Tuple [.Name x px, .Name y py] kt pt, iter, [], 0⟩] scope pos) scope env _ (newList []) false (eval iter env) (some (assign (.Name v pv) env))) _ _ s
  refine wpAny_bind (wpAny_mono (wpAny_comprehension_use (Q := fun _ s' => Q .next s') rfl hs hfree hkind hnames (he _ (wpAny_pyIter_list hax ?_))) (fun _ s' hq => wpAny_pure (wpAny_pure hq)) fun _ _ e => e)
  refine comp_block_pairs (RR := fun acc cenv r s' => match r with
      | .ok _ => wpAny (model PR w) A (assign (.Name v pv) env acc) (fun _ s'' => ∃ m, s''.heap.Ns cenv.locals m ∧ ∀ h', Heap.SameBut cenv.locals s''.heap h' → Q .next { s'' with heap := h' }) NoE s'
      | .error x => ∃ m, s'.heap.Ns cenv.locals m ∧ ∀ h', Heap.SameBut cenv.locals s'.heap h' → wpAny (model PR w) A (passOn "comprehension.variables-let-go" x cenv) (fun _ s' => Q .next s') NoE { s' with heap := h' }) hh hcell hkind hx hy hxy hz hzd hsz hP hax fun s' D C ys kvs' k' hD hC hDC hn' hl' ha' => ?_
  have hLs : ∃ o, s.heap.get? L = some o := by obtain ⟨o, _, _, ho, _⟩ := hn; exact ⟨o, ho⟩
  have hLC : C ≠ L := by rintro rfl; obtain ⟨o, ho⟩ := hLs; rw [hC] at ho; cases ho
  have hLD : D ≠ L := by rintro rfl; obtain ⟨o, ho⟩ := hLs; rw [hD] at ho; cases ho
  refine wpAny_assign_Name (stA (L := L) hvl hek hL (hn.at fun o e => k'.keep _ o (by simp) e) fun s₂ K₂ g₂ hn₂ => ?_)
  refine ⟨_, hn'.at fun o e => K₂.keep _ o (by simpa using hLC) e, fun h₃ hs₃ => ?_⟩
  have KC : Kp [C] s₂ { s₂ with heap := h₃ } := ⟨fun b o hb e => hs₃.extBut b o (fun q : b = C => hb (List.mem_singleton.mpr q)) e, rfl, fun q => q⟩
  have KL : Kp [L] s s₂ := (Kp.absorb (W := [L]) (Kp.refl _ s) (W' := []) (by simp) k').trans K₂
  refine h _ D ys (KL.absorb (W' := [C]) (fun d hd => .inr (by rw [List.mem_singleton.mp hd]; exact hC)) KC) hD ((hl'.at fun o e => K₂.keep D o (by simpa using hLD) e).at fun o e => hs₃.extBut D o hDC e) ha' (hn₂.sameBut hs₃ (Ne.symm hLC))
end
end Mine
end

/-! part SLC -/
section
set_option maxRecDepth 100000
open PySem PySem.W PyProof.Rows PySem.Calls
namespace Mine

section
variable {w : World} {A : Around} {s : Shared} {env : Env} {mg mb : Str → Option Value}

theorem bounds_plain {a b n : Nat} (hab : a ≤ b) (hb : b ≤ n) : sliceBounds (some (a : Int)) (some (b : Int)) none n = ((a : Int), (b : Int), 1) := by
  unfold sliceBounds
  simp only [Option.getD_none, show ((1 : Int) > 0) = True from by simp, if_true]
  rw [if_neg (show ¬ ((a : Int) < 0) by omega), if_neg (show ¬ ((b : Int) < 0) by omega)]
  rw [show max (0 : Int) (min (a : Int) (n : Int)) = a by omega, show max (0 : Int) (min (b : Int) (n : Int)) = b by omega]

/-- list[a:b] = new -/
theorem setItem_slice {l sl src : Addr} {items new : Array Value} {vl vu : Value} {a b : Nat} {Q : Unit → Shared → Prop} (hl : s.heap.PlainList l items) (hs : s.heap.IsSliceOf sl vl vu .none) (pl : IsPart vl (some (a : Int))) (pu : IsPart vu (some (b : Int)))
    (hab : a ≤ b) (hb : b ≤ items.size) (hsrc : s.heap.IsList src new) (hsz : items.size + new.size ≤ 1000)
    (hQ : ∀ h', h'.PlainList l (items.extract 0 a ++ new ++ items.extract b items.size) → Heap.SameBut l s.heap h' → Q () { s with heap := h' }) :
    wpAny (model PR w) A (setItem (.ref l) (.ref sl) (.ref src)) Q NoE s := by
  obtain ⟨n, ho⟩ := hl
  have hT : s.TypeIs (.ref l) "list" := ⟨_, ho, rfl⟩
  obtain ⟨os, hos, hcs, hds⟩ := id hs
  have hTs : s.TypeIs (.ref sl) "slice" := ⟨os, hos, hcs⟩
  obtain ⟨on, hon, hcn, nn, hdn⟩ := id hsrc
  have hTn : s.TypeIs (.ref src) "list" := ⟨on, hon, hcn⟩
  unfold setItem
  refine wpAny_holding ?_
  refine wpAny_bind (wpAny_sequenceKey hT (by decide) ?_)
  refine wpAny_bind (wpAny_callSpecial?_slot (name := Str.ofString "__setitem__") hT F.slot_list_setitem (wpAny_call_entry F.slot_list_setitem hT F.entry_list_setitem ?_ (F.args_list_setitem_3 _ _ _)))
  show wpAny _ _ (Builtin.List.listSubscript? (.ref sl) >>= _) _ _ s
  refine wpAny_bind ?_
  unfold Builtin.List.listSubscript?
  refine wpAny_bind (wpAny_specialOf hTs slice_no_index ?_)
  simp only [Option.isNone_none, if_true]
  refine wpAny_pure ?_
  show wpAny _ _ (typeOf (.ref sl) >>= _) _ _ s
  refine wpAny_bind (wpAny_typeOf hTs ?_)
  rw [if_neg (by decide)]
  rw [listSliceParts_eq]
  refine wpAny_bind (wpAny_bind (wpAny_field hos hds (x := .none) rfl (wpAny_bind (wpAny_listPart .none ?_))))
  rw [if_neg (show ¬ ((rawPart none == rawInt 0) = true) from Bool.false_ne_true)]
  refine wpAny_bind (wpAny_field hos hds (x := vl) rfl (wpAny_bind (wpAny_listPart pl ?_)))
  refine wpAny_bind (wpAny_field hos hds (x := vu) rfl (wpAny_bind (wpAny_listPart pu (wpAny_pure ?_))))
  have hnew : ∀ {α : Type} {k : Array Value → Sem α} {Q' : α → Shared → Prop} {E' : Value → Shared → Prop} {A' : Around}, wpAny (model PR w) A' (k new) Q' E' s → wpAny (model PR w) A' ((if Builtin.List.listSameRef (.ref l) (.ref src) = true then Builtin.List.listItems (.ref src) >>= k else Builtin.List.listAllItems (.ref src) "must assign iterable to extended slice" >>= k)) Q' E' s := by
    intro α k Q' E' A' hk
    have hitems : wpAny (model PR w) A' (Builtin.List.listItems (.ref src)) (fun a s' => wpAny (model PR w) A' (k a) Q' E' s') E' s := by
      unfold Builtin.List.listItems
      exact wpAny_bind (wpAny_seqItems hon hdn (wpAny_pure hk))
    split
    · exact wpAny_bind hitems
    · refine wpAny_bind ?_
      unfold Builtin.List.listAllItems
      refine wpAny_bind (wpAny_typeOf hTn ?_)
      rw [if_pos (by decide)]
      exact hitems
  refine hnew ?_
  refine wpAny_bind (m := Builtin.List.listItems (.ref l)) ?_
  unfold Builtin.List.listItems
  refine wpAny_bind (wpAny_seqItems ho rfl (wpAny_pure ?_))
  refine wpAny_bind (wpAny_of_eq (sliceIndices_raw (some (a : Int)) (some (b : Int)) none items.size (by simp)) ?_)
  rw [bounds_plain hab hb]
  show wpAny _ _ (if ((1 : Int) == 1) = true then _ else _) _ _ s
  rw [if_pos (by decide)]
  refine wpAny_bind (wpAny_rule ?_)
  have hlong : Builtin.List.listTooLong (items.size + new.size) = false := by
    show decide (_ > _) = false
    exact decide_eq_false (by rw [sizeLine_eq]; omega)
  rw [if_neg (by rw [hlong]; exact Bool.false_ne_true)]
  show wpAny _ _ (updateSeq l _ >>= _) _ _ s
  have hupd : s.heap.update l (Obj.mapSeq fun xs => xs.extract 0 (a : Int).toNat ++ new ++ xs.extract (max (a : Int) (b : Int)).toNat xs.size) = s.heap.update l (Obj.mapSeq fun xs => xs.extract 0 a ++ new ++ xs.extract b xs.size) := by
    rw [show (max (a : Int) (b : Int)).toNat = b by omega, Int.toNat_natCast]
  refine wpAny_bind (wpAny_updateSeq ho rfl ?_ (by rw [sizeLine_eq]; omega) (by simp only [Array.size_append, Array.size_extract]; rw [sizeLine_eq]; omega))
  rw [hupd]
  refine wpAny_bind (wpAny_letGo (wpAny_pure ⟨.none, rfl, wpAny_pure (hQ _ ?_ (Heap.SameBut.update ..))⟩))
  have hm : ∃ n', Obj.mapSeq (fun xs => xs.extract 0 a ++ new ++ xs.extract b xs.size) { cls := .type "list", data := .seq items n } = { cls := .type "list", data := .seq (items.extract 0 a ++ new ++ items.extract b items.size) n' } := by
    unfold Obj.mapSeq
    exact ⟨_, rfl⟩
  obtain ⟨n', hm⟩ := hm
  exact ⟨n', by rw [Heap.get?_update_self _ ho (by rw [hm]; rfl), hm]⟩
end
end Mine
end

/-! part SLC2 -/
section
set_option maxRecDepth 100000
open PySem PySem.W PyProof.Rows PySem.Calls
namespace Mine

theorem pick_down (items : Array Value) : ∀ n, n ≤ items.size → ((List.range n).map fun (k : Nat) => ((n : Int) - 1 + k * (-1)).toNat).filterMap (items[·]?) = (items.toList.take n).reverse
  | 0, _ => by simp
  | n + 1, h => by
    have ih := pick_down items n (by omega)
    have e : ((List.range (n + 1)).map fun (k : Nat) => (((n + 1 : Nat) : Int) - 1 + k * (-1)).toNat) = n :: ((List.range n).map fun (k : Nat) => ((n : Int) - 1 + k * (-1)).toNat) := by
      rw [List.range_succ_eq_map, List.map_cons, List.map_map]
      congr 1
      · omega
      · apply List.map_congr_left
        intro k _
        show (((n + 1 : Nat) : Int) - 1 + ((k + 1 : Nat) : Int) * (-1)).toNat = _
        omega
    rw [e, List.filterMap_cons]
    have hn : items[n]? = some items[n] := Array.getElem?_eq_getElem (by omega)
    rw [hn, ih]
    have hl : items.toList[n]? = some items[n] := by rw [Array.getElem?_toList]; exact hn
    rw [List.take_add_one, hl]
    simp
theorem slicePick_rev (items : Array Value) : slicePick items none none (some (-1)) = items.toList.reverse.toArray := by
  have e : sliceBounds none none (some (-1)) items.size = ((items.size : Int) - 1, -1, -1) := by
    unfold sliceBounds
    simp
  unfold slicePick
  rw [e]
  have r : sliceRange ((items.size : Int) - 1) (-1) (-1) = (List.range items.size).map fun (k : Nat) => ((items.size : Int) - 1 + k * (-1)).toNat := by
    unfold sliceRange
    rw [if_neg (by omega)]
    by_cases h : (items.size : Int) - 1 > -1
    · rw [if_pos h]
      have : (((items.size : Int) - 1 - -1 - -1 - 1) / - -1).toNat = items.size := by
        rw [show -(-1 : Int) = 1 from rfl, Int.ediv_one]; omega
      show List.map _ (List.range (((items.size : Int) - 1 - -1 - -1 - 1) / - -1).toNat) = _
      rw [this]
      apply List.map_congr_left
      intro k _
      omega
    · rw [if_neg h]
      have : items.size = 0 := by omega
      rw [this]; rfl
  show (List.filterMap _ (sliceRange ((items.size : Int) - 1) (-1) (-1))).toArray = _
  rw [r, pick_down items items.size (Nat.le_refl _), List.take_of_length_le (by simp)]

section
variable {w : World} {A : Around} {s : Shared} {env : Env} {mg mb : Str → Option Value}

/-- e[::-1] of a list -/
theorem e_rev {value : Expr} {k : Nat} {p q r r' : Pos} {Q : Value → Shared → Prop}
    (h : wpAny (model PR w) A (eval value env) (fun o s₁ => ∃ l its, o = .ref l ∧ s₁.heap.IsList l its ∧ its.size ≤ 1000 ∧ ∀ s' D, Back s₁ s' → s₁.heap.get? D = none → s'.heap.PlainList D its.toList.reverse.toArray → Q (.ref D) s') NoE s) :
    wpAny (model PR w) A (eval (.Subscript value (.Slice none none (some (.UnaryOp .USub (.Constant (.int 1) k p) q)) r) r') env) Q NoE s := by
  rw [eval_Subscript]
  refine wpAny_bind (wpAny_mono h (fun o s₁ h₁ => wpAny_bind (wpAny_holding ?_)) fun _ _ x => x)
  obtain ⟨l, its, rfl, hl, hsz, hq⟩ := h₁
  refine wpAny_Slice ?_
  simp only [evalPart_none, evalPart_some]
  refine wpAny_pure (wpAny_pure (wpAny_UnaryOp (wpAny_Constant_int (PySem.P.neg_int ?_))))
  refine wpAny_bind (wpAny_standAt ?_)
  refine wpAny_bind ?_
  have hT : Shared.TypeIs { s₁ with heap := s₁.heap.push { cls := .type "slice", data := .fields #[.none, .none, .int (-1) (s₁.toks + 1)] }, toks := s₁.toks + 1 + 1 } (.ref l) "list" := by
    obtain ⟨o, ho, hc, _⟩ := hl
    exact ⟨o, Heap.get?_push_of_some _ ho, hc⟩
  rw [getitemInPython_of_ne hT.not_modules]
  refine wpAny_bind (wpAny_specialOf hT F.slot_list_getitem.lookup ?_)
  have fin : wpAny (model PR w) A (operate [.ref l, .ref s₁.heap.objs.size] (getItem (.ref l) (.ref s₁.heap.objs.size))) (fun r s₃ => wpAny (model PR w) A (letTemporaryGo value (.ref l) r >>= fun _ => pure r) Q NoE s₃) NoE
      { s₁ with heap := s₁.heap.push { cls := .type "slice", data := .fields #[.none, .none, .int (-1) (s₁.toks + 1)] }, toks := s₁.toks + 1 + 1 } := by
    refine wpAny_operating (wpAny_getItem_list_slice (hl.push _) (Heap.IsSliceOf.new ..) .none .none (.int (-1) _) (by decide) (wpAny_bind (wpAny_letTemporaryGo (wpAny_pure ?_))) (by rw [sizeLine_eq]; omega))
    rw [slicePick_rev]
    refine hq _ _ ⟨fun b o e => Heap.get?_push_of_some _ (Heap.get?_push_of_some _ e), rfl⟩ (Heap.get?_none_of_le (by rw [Heap.size_push]; exact Nat.le_succ _)) ⟨_, Heap.get?_push_size _ rfl⟩
  first
    | exact wpAny_pure (wpAny_bind fin)
    | exact wpAny_bind (wpAny_pure (wpAny_bind fin))
    | exact wpAny_bind fin

/-- e[c], c a constant -/
theorem e_subC {value : Expr} {c : Const} {k : Nat} {p r : Pos} {Q : Value → Shared → Prop}
    (h : wpAny (model PR w) A (eval value env) (fun o s₁ => wpAny (model PR w) A (eval (.Constant c k p) env) (fun i s₂ => SubscriptOn (model PR w) A o i Q NoE s₂) NoE s₁) NoE s) :
    wpAny (model PR w) A (eval (.Subscript value (.Constant c k p) r) env) Q NoE s := by
  rw [eval_Subscript]
  refine wpAny_bind (wpAny_mono h (fun o s₁ h₁ => wpAny_bind (wpAny_holding (wpAny_mono h₁ (fun i s₂ h₂ => wpAny_bind (wpAny_standAt ?_)) fun _ _ x => x))) fun _ _ x => x)
  obtain ⟨T, id, hl, hT, hg⟩ := h₂
  refine wpAny_bind ?_
  rw [getitemInPython_of_ne hT.not_modules]
  refine wpAny_bind (wpAny_specialOf hT hl ?_)
  have fin : wpAny (model PR w) A (operate [o, i] (getItem o i)) (fun r s₃ => wpAny (model PR w) A (letTemporaryGo value o r >>= fun _ => pure r) Q NoE s₃) NoE s₂ :=
    wpAny_operating (wpAny_mono hg (fun r s₃ h₃ => wpAny_bind (wpAny_letTemporaryGo (wpAny_pure h₃))) fun _ _ x => x)
  first
    | exact wpAny_pure (wpAny_bind fin)
    | exact wpAny_bind (wpAny_pure (wpAny_bind fin))
    | exact wpAny_bind fin

/-- name[i:j] of a list -/
theorem e_slice_list {L l : Addr} {x : Str} {p q r : Pos} {el eu : Expr} {kvs : List (Str × Value)} {its : Array Value} {Q : Value → Shared → Prop} (hk : env.scope.kind = .function) (hl : env.kindOf x = some .local) (hL : env.locals = L) (hn : s.heap.Ns L (lk kvs))
    (hv : lk kvs x = some (.ref l)) (hsz : its.size ≤ 1000)
    (h : wpAny (model PR w) A (eval el env) (fun v s₁ => ∃ (i : Nat) (t₁ : Tok), v = .int i t₁ ∧ wpAny (model PR w) A (eval eu env) (fun v s₂ => ∃ (j : Nat) (t₂ : Tok), v = .int j t₂ ∧ i ≤ j ∧ j ≤ its.size ∧ s₂.heap.IsList l its ∧
      ∀ D s', Back s₂ s' → s₂.heap.get? D = none → s'.heap.PlainList D ((its.toList.drop i).take (j - i)).toArray → Q (.ref D) s') NoE s₁) NoE s)
    (hd : (x == ("__debug__" : Str)) = false := by decide) :
    wpAny (model PR w) A (eval (.Subscript (.Name x p) (.Slice (some el) (some eu) none q) r) env) Q NoE s := by
  refine wpAny_Subscript_list_slice (ldA hk hl hL hn hv ?_ hd)
  refine wpAny_mono h (fun v s₁ h₁ => ?_) fun _ _ x => x
  obtain ⟨i, t₁, rfl, h₁⟩ := h₁
  refine wpAny_mono h₁ (fun v s₂ h₂ => ?_) fun _ _ x => x
  obtain ⟨j, t₂, rfl, hij, hj, hil, hq⟩ := h₂
  refine ⟨l, its, some (i : Int), some (j : Int), rfl, hil, by rw [sizeLine_eq]; omega, .int _ _, .int _ _, ?_⟩
  rw [slicePick_run its i j hj hij]
  refine hq _ _ ⟨fun b o e => Heap.get?_push_of_some _ (Heap.get?_push_of_some _ e), rfl⟩ (Heap.get?_none_of_le (Nat.le_succ _)) ⟨0, ?_⟩
  have e1 := Heap.get?_push_size (s₂.heap.push { cls := .type "slice", data := .fields #[.int (i : Int) t₁, .int (j : Int) t₂, .none] }) (o := { cls := .type "list", data := .seq ((its.toList.drop i).take (j - i)).toArray }) rfl
  rw [Heap.size_push] at e1
  exact e1
end
end Mine
end

/-! part PLAIN3 -/
section
namespace Mine
abbrev Sg := List Nat

/-- one pass at the bound b: acc is the run so far, turned -/
def rv (b : Nat) : List Nat → List Sg → List Sg → List Sg
  | l :: ls, acc, x :: xs => if b ≤ l then rv b ls (x :: acc) xs else acc ++ x :: rv b ls [] xs
  | _, acc, _ => acc
/-- the passes at the bounds ℓ + k down to ℓ + 1 -/
def app (ls : List Nat) : Nat → Nat → List Sg → List Sg
  | _, 0, xs => xs
  | l, k + 1, xs => rv (l + 1) ls [] (app ls (l + 1) k xs)

theorem app_succ (ls : List Nat) (l k : Nat) (xs : List Sg) : app ls l (k + 1) xs = rv (l + 1) ls [] (app ls (l + 1) k xs) := rfl
theorem rv_length (b : Nat) : ∀ (ls : List Nat) (xs acc : List Sg), ls.length = xs.length → (rv b ls acc xs).length = acc.length + xs.length
  | [], [], acc, _ => by simp [rv]
  | [], _ :: _, _, h => by simp at h
  | _ :: _, [], _, h => by simp at h
  | l :: ls, x :: xs, acc, h => by
    have h' : ls.length = xs.length := by simpa using h
    unfold rv
    split
    · rw [rv_length b ls xs (x :: acc) h']; simp; omega
    · rw [List.length_append, List.length_cons, rv_length b ls xs [] h']; simp
theorem app_length (ls : List Nat) : ∀ (k l : Nat) (xs : List Sg), ls.length = xs.length → (app ls l k xs).length = xs.length
  | 0, _, _, _ => rfl
  | k + 1, l, xs, h => by
    unfold app
    have ih := app_length ls k (l + 1) xs h
    rw [rv_length _ _ _ _ (by rw [ih]; exact h), ih]; simp
theorem rv_single (b l : Nat) (x : Sg) (hl : l < b) : ∀ (l1 l2 : List Nat) (x1 x2 acc : List Sg), l1.length = x1.length → rv b (l1 ++ l :: l2) acc (x1 ++ x :: x2) = rv b l1 acc x1 ++ x :: rv b l2 [] x2
  | [], l2, [], x2, acc, _ => by
    show (if b ≤ l then _ else acc ++ x :: rv b l2 [] x2) = acc ++ x :: rv b l2 [] x2
    rw [if_neg (by omega)]
  | [], _, _ :: _, _, _, h => by simp at h
  | _ :: _, _, [], _, _, h => by simp at h
  | a :: l1, l2, y :: x1, x2, acc, h => by
    have h' : l1.length = x1.length := by simpa using h
    show (if b ≤ a then rv b (l1 ++ l :: l2) (y :: acc) (x1 ++ x :: x2) else acc ++ y :: rv b (l1 ++ l :: l2) [] (x1 ++ x :: x2)) = (if b ≤ a then rv b l1 (y :: acc) x1 else acc ++ y :: rv b l1 [] x1) ++ _
    split
    · exact rv_single b l x hl l1 l2 x1 x2 (y :: acc) h'
    · rw [rv_single b l x hl l1 l2 x1 x2 [] h']; simp
theorem rv_all (b : Nat) : ∀ (ls : List Nat) (xs acc : List Sg), ls.length = xs.length → (∀ l ∈ ls, b ≤ l) → rv b ls acc xs = xs.reverse ++ acc
  | [], [], acc, _, _ => rfl
  | [], _ :: _, _, h, _ => by simp at h
  | _ :: _, [], _, h, _ => by simp at h
  | l :: ls, x :: xs, acc, h, ha => by
    have h' : ls.length = xs.length := by simpa using h
    show (if b ≤ l then rv b ls (x :: acc) xs else _) = _
    rw [if_pos (ha l (by simp)), rv_all b ls xs (x :: acc) h' fun y hy => ha y (by simp [hy])]
    simp
theorem app_single (v : Nat) (x : Sg) (l1 l2 : List Nat) : ∀ (k l : Nat) (x1 x2 : List Sg), v ≤ l → l1.length = x1.length → l2.length = x2.length → app (l1 ++ v :: l2) l k (x1 ++ x :: x2) = app l1 l k x1 ++ x :: app l2 l k x2
  | 0, _, _, _, _, _, _ => rfl
  | k + 1, l, x1, x2, h, h1, h2 => by
    unfold app
    rw [app_single v x l1 l2 k (l + 1) x1 x2 (by omega) h1 h2]
    exact rv_single (l + 1) v x (by omega) _ _ _ _ _ (by rw [app_length _ _ _ _ h1]; exact h1)
theorem app_deep (ls : List Nat) (k l : Nat) (xs : List Sg) (h : ls.length = xs.length) (ha : ∀ y ∈ ls, l + 1 ≤ y) : app ls l (k + 1) xs = (app ls (l + 1) k xs).reverse := by
  rw [app_succ, rv_all (l + 1) ls _ [] (by rw [app_length _ _ _ _ h]; exact h) ha]; simp

def nestLoop (f : List (Sg × Nat) → Sg) (l : Nat) : List (Sg × Nat) → List Sg → List (Sg × Nat) → List Sg
  | [], parts, _ => parts
  | (x, d) :: r, parts, inner => if d ≠ l then nestLoop f l r parts (inner ++ [(x, d)]) else nestLoop f l r ((if inner = [] then parts else parts ++ [f inner]) ++ [x]) []
def finish (l : Nat) (parts : List Sg) : Sg := if l % 2 = 1 then parts.reverse.flatten else parts.flatten
def nest : Nat → List (Sg × Nat) → Nat → Sg
  | 0, items, l => finish l (nestLoop (fun _ => []) l (items ++ [([], l)]) [] [])
  | k + 1, items, l => finish l (nestLoop (fun inner => nest k inner (l + 1)) l (items ++ [([], l)]) [] [])

def lsOf (items : List (Sg × Nat)) : List Nat := items.map (·.2)
def xsOf (items : List (Sg × Nat)) : List Sg := items.map (·.1)
def shownK (k : Nat) (items : List (Sg × Nat)) (l : Nat) : Sg := finish l (app (lsOf items) l k (xsOf items))

theorem len_ls (items : List (Sg × Nat)) : (lsOf items).length = (xsOf items).length := by simp [lsOf, xsOf]

theorem finish_app (l : Nat) (a b : List Sg) : finish l (a ++ b) = if l % 2 = 1 then finish l b ++ finish l a else finish l a ++ finish l b := by
  unfold finish
  split <;> simp
theorem finish_nil (l : Nat) : finish l [] = [] := by unfold finish; split <;> rfl
theorem finish_one (l : Nat) (x : Sg) : finish l [x] = x := by unfold finish; split <;> simp
theorem finish_flip (l : Nat) (a : List Sg) : finish (l + 1) a = finish l a.reverse := by
  unfold finish
  by_cases h : l % 2 = 1
  · rw [if_pos h, if_neg (by omega)]; simp
  · rw [if_neg h, if_pos (by omega)]

theorem loop_is (f : List (Sg × Nat) → Sg) (k l : Nat) (hf : ∀ inner, (∀ y ∈ inner, l < y.2 ∧ y.2 ≤ l + (k + 1)) → inner ≠ [] → f inner = shownK k inner (l + 1)) :
    ∀ (r : List (Sg × Nat)) (parts : List Sg) (inner : List (Sg × Nat)), (∀ y ∈ inner, l < y.2 ∧ y.2 ≤ l + (k + 1)) → (∀ y ∈ r, l ≤ y.2 ∧ y.2 ≤ l + (k + 1)) →
      finish l (nestLoop f l (r ++ [([], l)]) parts inner) = finish l (parts ++ app (lsOf (inner ++ r)) l (k + 1) (xsOf (inner ++ r)))
  | [], parts, inner, hi, _ => by
    show finish l (nestLoop f l [([], l)] parts inner) = _
    unfold nestLoop
    rw [if_neg (by simp)]
    unfold nestLoop
    rw [List.append_nil, app_deep _ _ _ _ (len_ls inner) (fun y hy => by
      obtain ⟨z, hz, rfl⟩ := List.mem_map.mp hy
      exact (hi z hz).1)]
    by_cases hn : inner = []
    · subst hn
      rw [if_pos rfl]
      have : (app (lsOf []) (l + 1) k (xsOf [])).reverse = [] := by
        have := app_length (lsOf []) k (l + 1) (xsOf []) rfl
        have e : app (lsOf []) (l + 1) k (xsOf []) = [] := List.eq_nil_of_length_eq_zero this
        rw [e]; rfl
      rw [this, finish_app, finish_one, List.append_nil]
      split <;> simp
    · rw [if_neg hn, hf inner hi hn]
      unfold shownK
      rw [finish_flip]
      rw [finish_app, finish_app, finish_one, finish_one, finish_app]
      split <;> simp
  | (x, d) :: r, parts, inner, hi, hr => by
    have hr' : ∀ y ∈ r, l ≤ y.2 ∧ y.2 ≤ l + (k + 1) := fun y hy => hr y (by simp [hy])
    show finish l (nestLoop f l ((x, d) :: (r ++ [([], l)])) parts inner) = _
    unfold nestLoop
    by_cases hd : d ≠ l
    · rw [if_pos hd, loop_is f k l hf r parts (inner ++ [(x, d)]) (fun y hy => by
        rcases List.mem_append.mp hy with h | h
        · exact hi y h
        · obtain rfl := List.mem_singleton.mp h
          have := hr (x, d) (by simp)
          exact ⟨by show l < d; have : l ≤ d := this.1; omega, this.2⟩) hr']
      simp
    · rw [if_neg hd]
      obtain rfl : d = l := by omega
      rw [loop_is f k d hf r _ [] (by simp) hr', List.nil_append]
      have e1 : lsOf (inner ++ (x, d) :: r) = lsOf inner ++ d :: lsOf r := by simp [lsOf]
      have e2 : xsOf (inner ++ (x, d) :: r) = xsOf inner ++ x :: xsOf r := by simp [xsOf]
      rw [e1, e2, app_single d x _ _ (k + 1) d _ _ (Nat.le_refl _) (len_ls inner) (len_ls r), app_deep _ _ _ _ (len_ls inner) (fun y hy => by
        obtain ⟨z, hz, rfl⟩ := List.mem_map.mp hy
        exact (hi z hz).1)]
      by_cases hn : inner = []
      · subst hn
        have : (app (lsOf []) (d + 1) k (xsOf [])).reverse = [] := by
          have := app_length (lsOf []) k (d + 1) (xsOf []) rfl
          have e : app (lsOf []) (d + 1) k (xsOf []) = [] := List.eq_nil_of_length_eq_zero this
          rw [e]; rfl
        rw [if_pos rfl, this]
        simp
      · rw [if_neg hn, hf inner hi hn]
        unfold shownK
        rw [finish_flip]
        generalize (app (lsOf inner) (d + 1) k (xsOf inner)).reverse = Y
        generalize app (lsOf r) d (k + 1) (xsOf r) = Z
        have c : ∀ (Z : List Sg), x :: Z = [x] ++ Z := fun _ => rfl
        rw [c Z]
        simp only [finish_app, finish_one]
        split <;> simp

theorem app_stay (ls : List Nat) (k l : Nat) : ∀ (xs : List Sg), ls.length = xs.length → (∀ y ∈ ls, y ≤ l) → app ls l k xs = xs := by
  have rvs : ∀ (b : Nat) (ls : List Nat) (xs : List Sg), ls.length = xs.length → (∀ y ∈ ls, y < b) → rv b ls [] xs = xs := by
    intro b ls
    induction ls with
    | nil => intro xs h _; cases xs with | nil => rfl | cons _ _ => simp at h
    | cons a ls ih =>
      intro xs h ha
      cases xs with
      | nil => simp at h
      | cons x xs =>
        unfold rv
        rw [if_neg (by have := ha a (by simp); omega), ih xs (by simpa using h) fun y hy => ha y (by simp [hy])]
        rfl
  intro xs h ha
  induction k generalizing l with
  | zero => rfl
  | succ k ih =>
    unfold app
    rw [ih (l + 1) fun y hy => Nat.le_succ_of_le (ha y hy)]
    exact rvs (l + 1) ls xs h fun y hy => Nat.lt_succ_of_le (ha y hy)

theorem loop_zero (f : List (Sg × Nat) → Sg) (l : Nat) : ∀ (r : List (Sg × Nat)) (parts : List Sg), (∀ y ∈ r, y.2 = l) → nestLoop f l (r ++ [([], l)]) parts [] = parts ++ xsOf r ++ [[]]
  | [], parts, _ => by simp [nestLoop, xsOf]
  | (x, d) :: r, parts, h => by
    obtain rfl : d = l := h (x, d) (by simp)
    show nestLoop f d ((x, d) :: (r ++ [([], d)])) parts [] = _
    unfold nestLoop
    rw [if_neg (by simp), if_pos rfl, loop_zero f d r _ fun y hy => h y (by simp [hy])]
    simp [xsOf]
theorem nest_is : ∀ (k : Nat) (items : List (Sg × Nat)) (l : Nat), (∀ y ∈ items, l ≤ y.2 ∧ y.2 ≤ l + k) → nest k items l = shownK k items l
  | 0, items, l, h => by
    unfold nest
    rw [loop_zero _ l items [] fun y hy => by have := h y hy; omega]
    unfold shownK app finish
    split <;> simp
  | k + 1, items, l, h => by
    unfold nest
    rw [loop_is (fun inner => nest k inner (l + 1)) k l (fun inner hi _ => nest_is k inner (l + 1) fun y hy => by have := hi y hy; omega) items [] [] (by simp) h]
    rfl
end Mine
end

/-! part SH1 -/
section
set_option maxRecDepth 100000
open PySem PySem.W PyProof.Rows PySem.Calls
namespace Mine

/-! one pass, by places -/
theorem rv_stop (b v : Nat) (x : Sg) (hv : ¬ b ≤ v) (l2 : List Nat) (x2 : List Sg) : ∀ (l1 : List Nat) (x1 acc : List Sg), l1.length = x1.length → (∀ l ∈ l1, b ≤ l) → rv b (l1 ++ v :: l2) acc (x1 ++ x :: x2) = x1.reverse ++ acc ++ x :: rv b l2 [] x2
  | [], [], acc, _, _ => by
    show (if b ≤ v then _ else acc ++ x :: rv b l2 [] x2) = _
    rw [if_neg hv]; simp
  | [], _ :: _, _, h, _ => by simp at h
  | _ :: _, [], _, h, _ => by simp at h
  | l :: l1, y :: x1, acc, h, ha => by
    have h' : l1.length = x1.length := by simpa using h
    show (if b ≤ l then rv b (l1 ++ v :: l2) (y :: acc) (x1 ++ x :: x2) else _) = _
    rw [if_pos (ha l (by simp)), rv_stop b v x hv l2 x2 l1 x1 (y :: acc) h' fun z hz => ha z (by simp [hz])]
    simp

/-- one turn of the outer while -/
theorem rv_turn (b : Nat) (ls : List Nat) (xs : List Sg) (st e : Nat) (hlen : ls.length = xs.length) (hse : st ≤ e) (hen : e ≤ xs.length) (hin : ∀ j, st ≤ j → j < e → ∃ l, ls[j]? = some l ∧ b ≤ l) (hout : ∀ l, ls[e]? = some l → ¬ b ≤ l) :
    xs.take st ++ rv b (ls.drop st) [] (xs.drop st) = (xs.take st ++ ((xs.drop st).take (e - st)).reverse ++ xs.drop e).take (e + 1) ++ rv b (ls.drop (e + 1)) [] ((xs.take st ++ ((xs.drop st).take (e - st)).reverse ++ xs.drop e).drop (e + 1)) := by
  have hA : (xs.take st ++ ((xs.drop st).take (e - st)).reverse).length = e := by
    simp only [List.length_append, List.length_take, List.length_reverse, List.length_drop]; omega
  have hall : ∀ l ∈ (ls.drop st).take (e - st), b ≤ l := by
    intro l hl
    obtain ⟨i, hi⟩ := List.mem_iff_getElem?.mp hl
    rw [List.getElem?_take] at hi
    split at hi
    · rename_i hlt
      rw [List.getElem?_drop] at hi
      obtain ⟨l', h1, h2⟩ := hin (st + i) (by omega) (by omega)
      rw [h1] at hi
      cases hi
      exact h2
    · cases hi
  have hl1 : ((ls.drop st).take (e - st)).length = ((xs.drop st).take (e - st)).length := by simp [hlen]
  have e1 : ls.drop st = (ls.drop st).take (e - st) ++ ls.drop e := by
    have := (List.take_append_drop (e - st) (ls.drop st)).symm
    rwa [List.drop_drop, show st + (e - st) = e by omega] at this
  have e2 : xs.drop st = (xs.drop st).take (e - st) ++ xs.drop e := by
    have := (List.take_append_drop (e - st) (xs.drop st)).symm
    rwa [List.drop_drop, show st + (e - st) = e by omega] at this
  by_cases he : e < xs.length
  · have hx : xs.drop e = xs[e] :: xs.drop (e + 1) := List.drop_eq_getElem_cons he
    have hl : ls.drop e = ls[e]'(by omega) :: ls.drop (e + 1) := List.drop_eq_getElem_cons (by omega)
    have key : rv b (ls.drop st) [] (xs.drop st) = ((xs.drop st).take (e - st)).reverse ++ [] ++ xs[e] :: rv b (ls.drop (e + 1)) [] (xs.drop (e + 1)) := by
      rw [e1]
      conv => lhs; rw [e2]
      rw [hl, hx]
      rw [rv_stop b _ _ (hout _ (List.getElem?_eq_getElem (by omega))) _ _ _ _ _ hl1 hall]

    rw [key]
    have t1 : (xs.take st ++ ((xs.drop st).take (e - st)).reverse ++ xs.drop e).take (e + 1) = xs.take st ++ ((xs.drop st).take (e - st)).reverse ++ [xs[e]] := by
      rw [hx, List.take_append, hA, List.take_of_length_le (by omega), show e + 1 - e = 1 by omega]; rfl
    have t2 : (xs.take st ++ ((xs.drop st).take (e - st)).reverse ++ xs.drop e).drop (e + 1) = xs.drop (e + 1) := by
      rw [hx, List.drop_append, hA, List.drop_of_length_le (by omega), show e + 1 - e = 1 by omega]; rfl
    rw [t1, t2]; simp
  · have he' : e = xs.length := by omega
    have hx : xs.drop e = [] := List.drop_of_length_le (by omega)
    have hl : ls.drop e = [] := List.drop_of_length_le (by omega)
    have key : rv b (ls.drop st) [] (xs.drop st) = ((xs.drop st).take (e - st)).reverse := by
      rw [e1]
      conv => lhs; rw [e2]
      rw [hl, hx, List.append_nil, List.append_nil, rv_all b _ _ [] hl1 hall, List.append_nil]
    rw [key, hx, List.append_nil]
    have tA : (xs.take st ++ ((xs.drop st).take (e - st)).reverse).take (e + 1) = xs.take st ++ ((xs.drop st).take (e - st)).reverse := List.take_of_length_le (by omega)
    rw [tA]
    have : rv b (ls.drop (e + 1)) [] ((xs.take st ++ ((xs.drop st).take (e - st)).reverse).drop (e + 1)) = [] := by
      rw [List.drop_of_length_le (by omega : ls.length ≤ e + 1)]; rfl
    rw [this, List.append_nil]

def SgV (v : Value) (x : Sg) : Prop := ∃ t, v = .str ⟨x.toArray⟩ t
theorem strOf_sgs {vs : List Value} {xs : List Sg} (h : All2 SgV vs xs) : All2 StrOf vs (xs.map fun x => ⟨x.toArray⟩) := by
  induction h with
  | nil => exact .nil
  | cons x _ ih => exact .cons x ih
theorem cat_sgs (xs : List Sg) : catS (xs.map fun x => ⟨x.toArray⟩) = ⟨xs.flatten.toArray⟩ := by
  unfold catS
  congr 2
  induction xs with
  | nil => rfl
  | cons x xs ih => rw [List.map_cons, List.flatMap_cons, ih, List.flatten_cons]
theorem sum_sgs (xs : List Sg) : ((xs.map fun x => (⟨x.toArray⟩ : Str)).map (·.length)).sum = xs.flatten.length := by
  induction xs with
  | nil => rfl
  | cons x xs ih => rw [List.map_cons, List.map_cons, List.sum_cons, ih, List.flatten_cons, List.length_append]; congr 1

section
variable {w : World} {A : Around} {s : Shared} {env : Env} {mg mb : Str → Option Value}

theorem nat_items {vs : List Value} {ns : List Nat} (h : All2 NatV vs ns) : ∃ xs : Array (Int × Tok), vs.toArray = intItems xs ∧ xs.size = ns.length ∧ ∀ (i n : Nat), ns[i]? = some n → numAt xs i = (n : Int) := by
  have : ∃ l : List (Int × Tok), vs = l.map (fun p => .int p.1 p.2) ∧ l.map (·.1) = ns.map fun (n : Nat) => (n : Int) := by
    induction h with
    | nil => exact ⟨[], rfl, rfl⟩
    | cons x _ ih =>
      obtain ⟨t, rfl⟩ := x
      obtain ⟨l, rfl, e⟩ := ih
      exact ⟨(_, t) :: l, rfl, by rw [List.map_cons, List.map_cons, e]⟩
  obtain ⟨l, rfl, e⟩ := this
  have hlen : l.length = ns.length := by have := congrArg List.length e; simpa using this
  refine ⟨l.toArray, by unfold intItems; simp, by simpa using hlen, fun i n hn => ?_⟩
  unfold numAt
  have h1 : (l.map (·.1))[i]? = some (n : Int) := by rw [e, List.getElem?_map, hn]; rfl
  rw [List.getElem?_map] at h1
  simp only [List.getElem?_toArray]
  rw [h1]; rfl

theorem call_max {l : Addr} {vs : List Value} {ns : List Nat} {Q : Value → Shared → Prop} (hh : A.handled = none) (hl : s.heap.IsList l vs.toArray) (ha : All2 NatV vs ns) (hne : ns ≠ [])
    (h : ∀ M t s', Back s s' → M ∈ ns → (∀ a ∈ ns, a ≤ M) → Q (.int (M : Nat) t) s') : wpAny (model PR w) A (call (.builtin "max") [.ref l]) Q NoE s := by
  obtain ⟨xs, hx, hsz, hnum⟩ := nat_items ha
  rw [hx] at hl
  have hpos : 0 < ns.length := by cases ns with | nil => exact absurd rfl hne | cons _ _ => simp
  refine max_intList hh hl (by omega) fun v h' tk hv hk => ?_
  obtain ⟨hb1, hb2⟩ := argBest_gt (numAt xs) (xs.size - 1)
  generalize argBest (fun i j => decide (numAt xs i > numAt xs j)) (xs.size - 1) = i at hv hb1 hb2
  obtain ⟨t, rfl⟩ := intItems_at hv
  have hi : i < ns.length := by omega
  have e := hnum i ns[i] (List.getElem?_eq_getElem hi)
  rw [e]
  refine h ns[i] t _ ⟨hk, rfl⟩ (List.getElem_mem hi) fun a ha' => ?_
  obtain ⟨j, hj⟩ := List.mem_iff_getElem?.mp ha'
  have hjl : j < ns.length := (List.getElem?_eq_some_iff.mp hj).1
  have := hb2 j (by omega)
  rw [e, hnum j a hj] at this
  omega

/-- for x in range(e, 0, -1) -/
theorem for_down {x : Str} {px pr pos q p1 p2 p3 : Pos} {k1 k2 : Nat} {e : Expr} {body : List Stmt} {Q : Flow → Shared → Prop} (hh : A.handled = none) (hk : env.scope.kind = .function) (hx : env.kindOf "range" = some .globalImplicit) (hg0 : env.globals = mainGlobals) (hb0 : env.builtins = builtinsNs)
    (G : GL w s.heap mg mb) (hs : noStar [e, .Constant (.int 0) k1 p1, .UnaryOp .USub (.Constant (.int 1) k2 p2) p3] = true)
    (he : wpAny (model PR w) A (eval e env) (fun v s₁ => ∃ (n : Nat) (t : Tok), v = .int n t ∧ n < 1000 ∧ ∀ I, s₁.heap.get? I = none → ∃ Inv : Nat → Shared → Prop,
      (∀ i s s', Inv i s → Kp [I] s s' → s'.gens = s.gens → Inv i s') ∧ (∀ s₂, Back s₁ s₂ → Inv 0 s₂) ∧
      (∀ i t s₂, i < n → Inv i s₂ → (∃ o, s₂.heap.get? I = some o) → wpAny (model PR w) A (storeName env x (.int ((n - i : Nat) : Int) t)) (fun _ s₃ => wpAny (model PR w) A (execs body env)
        (fun f s₄ => match f with | .next | .cont => Inv (i + 1) s₄ ∧ (∀ o, s₂.heap.get? I = some o → s₄.heap.get? I = some o) | .brk => Q .next s₄ | .ret v => Q (.ret v) s₄) NoE s₃) NoE s₂) ∧
      (∀ s₂, Inv n s₂ → Q .next s₂)) NoE s) :
    wpAny (model PR w) A (exec (.For (.Name x px) (.Call (.Name "range" pr) [e, .Constant (.int 0) k1 p1, .UnaryOp .USub (.Constant (.int 1) k2 p2) p3] [] q) body [] pos) env) Q NoE s := by
  refine wpAny_For ?_
  refine e_ty (id := "range") hk hx hg0 hb0 G (by decide +kernel) (by kernel_rfl) (by decide) ?_ hs
  refine sp_cons (wpAny_mono he (fun v s₁ h₁ => sp_cons (wpAny_Constant_int (sp_cons (wpAny_UnaryOp (wpAny_Constant_int (PySem.P.neg_int (sp_nil ?_))))))) fun _ _ x => x)
  obtain ⟨n, t, rfl, hn, h₁⟩ := h₁
  refine call_range_3 (by decide) ?_ (Or.inl (PyProof.noPylong_small (by omega)))
  have hsz : Builtin.Range.rangeSize (n : Int) 0 (-1) = (n : Int) := by
    unfold Builtin.Range.rangeSize
    rw [if_neg (by decide)]
    split
    · rw [show -(-1 : Int) = 1 from rfl, Int.ediv_one]; omega
    · omega
  have hsm : Builtin.Range.small (n : Int) 0 (-1) = true := by
    unfold Builtin.Range.small
    rw [hsz]
    simp only [Builtin.Range.rangeFitsLong, Bool.and_eq_true, Bool.or_eq_true, decide_eq_true_eq, beq_iff_eq, show ¬ ((-1 : Int) > 0) by decide, if_false]
    omega
  refine wpAny_pyIter_range (IsRange.new _ n 0 (-1) _ _ _) hsm ?_
  generalize hr : ({ cls := .type "range", data := .fields #[.int n t, .int 0 s₁.toks, .int (-1) (s₁.toks + 1 + 1)] } : Obj) = ro
  have hI : s₁.heap.get? (s₁.heap.push ro).objs.size = none := Heap.get?_none_of_le (by rw [Heap.size_push]; exact Nat.le_succ _)
  obtain ⟨Inv, stab, i0, step, done⟩ := h₁ _ hI
  refine for_walk' (Walks.range hh (s₁.heap.push ro).objs.size n (-1) n) Inv stab ?_ (i0 _ ⟨fun b o e => Heap.get?_push_of_some _ (Heap.get?_push_of_some _ e), rfl⟩) (fun i v s₂ hi hP hst hinv => ?_) done
  · show Heap.get? _ _ = _
    rw [hsz]
    simp only [Int.natCast_zero, Int.zero_mul, Int.add_zero, Int.sub_zero]
    exact Heap.get?_push_size _ rfl
  · obtain ⟨t', rfl⟩ := hP
    refine wpAny_pure (wpAny_assign_Name ?_)
    have hz : (n : Int) + (i : Int) * (-1) = ((n - i : Nat) : Int) := by omega
    rw [hz]
    refine wpAny_mono (step i t' s₂ hi hinv ⟨_, hst⟩) (fun _ s₃ h₃ => wpAny_mono h₃ (fun f s₄ h₄ => ?_) fun _ _ x => x) fun _ _ x => x
    cases f with
    | next => exact ⟨h₄.1, fun b hb o e => by rw [List.mem_singleton.mp hb] at e ⊢; exact h₄.2 o e⟩
    | cont => exact ⟨h₄.1, fun b hb o e => by rw [List.mem_singleton.mp hb] at e ⊢; exact h₄.2 o e⟩
    | brk => exact h₄
    | ret v => exact h₄
end
end Mine
end

/-! part SH2 -/
section
set_option maxRecDepth 100000
open PySem PySem.W PyProof.Rows PySem.Calls
namespace Mine

def TupIn (h : Heap) (v : Value) (x : Sg × Nat) : Prop := ∃ T t u, v = .ref T ∧ h.IsTuple T #[.str ⟨x.1.toArray⟩ t, .int (x.2 : Nat) u]
def SS (i : Nat) : Stmt := (D 11).body.getD i noSt
def outerW : Stmt := (forBody (SS 1)).getD 1 noSt
def whileBody : Stmt → List Stmt | .While _ b _ _ => b | _ => []
def innerW : Stmt := (whileBody outerW).getD 1 noSt

section
variable {w : World} {A : Around} {s s₀ : Shared} {mg mb : Str → Option Value} {pm doc : Value} {cd L a lt ll : Addr} {its cur : Array Value} {ps : List (Sg × Nat)} {kvs : List (Str × Value)}

structure SV (s₀ : Shared) (L lt ll : Addr) (cur : Array Value) (kvs : List (Str × Value)) (s : Shared) : Prop where
  kp : Kp [] s₀ s
  ns : s.heap.Ns L (lk kvs)
  told : lk kvs "told" = some (.ref lt)
  letters : lk kvs "letters" = some (.ref ll)
  list : s.heap.PlainList ll cur
theorem SV.then {s' : Shared} {W : List Addr} (X : SV s₀ L lt ll cur kvs s) (K : Kp W s s') (hW : ∀ d ∈ W, s₀.heap.get? d = none) (hL : L ∉ W) (hl : ll ∉ W) : SV s₀ L lt ll cur kvs s' :=
  ⟨X.kp.absorb (fun d hd => .inr (hW d hd)) K, X.ns.at fun o e => K.keep _ o hL e, X.told, X.letters, list_at X.list K hl⟩
theorem SV.back {s' : Shared} (X : SV s₀ L lt ll cur kvs s) (B : Back s s') : SV s₀ L lt ll cur kvs s' := X.then (B.kp []) (by simp) (by simp) (by simp)
theorem SV.store {x : Str} {v : Value} {Q : Unit → Shared → Prop} (hL : s₀.heap.get? L = none) (hlL : ll ≠ L) (X : SV s₀ L lt ll cur kvs s) (h1 : x ≠ "told") (h2 : x ≠ "letters") (hl : (En 11 pm doc cd L a).kindOf x = some .local)
    (h : ∀ s', SV s₀ L lt ll cur (put kvs x v) s' → Kp [L] s s' → Q () s') : wpAny (model PR w) A (storeName (En 11 pm doc cd L a) x v) Q NoE s := by
  refine stA (L := L) hl (by kernel_rfl) rfl X.ns fun s' K g hn => h s' ⟨X.kp.absorb (absorb1 hL) K, hn, ?_, ?_, list_at X.list K (by simpa using hlL)⟩ K
  · rw [lk_put_ne (Ne.symm h1)]; exact X.told
  · rw [lk_put_ne (Ne.symm h2)]; exact X.letters

theorem tup_sub {T : Addr} {u1 u2 : Value} {c : Int} {t : Tok} {v : Value} {Q : Value → Shared → Prop} (hT : s.heap.IsTuple T #[u1, u2]) (hc : c = 0 ∨ c = 1) (hv : v = if c = 0 then u1 else u2) (h : Q v s) : SubscriptOn (model PR w) A (.ref T) (.int c t) Q NoE s := by
  have hty : s.TypeIs (.ref T) "tuple" := by obtain ⟨o, ho, hc, _⟩ := hT; exact ⟨o, ho, hc⟩
  refine ⟨"tuple", _, PySem.F.slot_tuple_getitem.lookup, hty, ?_⟩
  rcases hc with rfl | rfl
  · exact PyProof.Rows.getItem_tuple (j := 0) (x := v) hT (by decide) (by decide) rfl (by rw [hv]; rfl) h
  · exact PyProof.Rows.getItem_tuple (j := 1) (x := v) hT (by decide) (by decide) rfl (by rw [hv]; rfl) h

theorem sh_while1 {b st : Nat} {tb te0 : Tok} {Q : Flow → Shared → Prop} (hh : A.handled = none) (hroom : A.depth + 1 < recursionLimit) (G : GL w s₀.heap mg mb) (hL : s₀.heap.get? L = none) (hlL : ll ≠ L) (hlt : s₀.heap.IsList lt its) (hp : All2 (TupIn s₀.heap) its.toList ps) (hsz : ps.length ≤ 100)
    (X : SV s₀ L lt ll cur kvs s) (hb : lk kvs "bound" = some (.int (b : Nat) tb)) (he : lk kvs "end" = some (.int (st : Nat) te0)) (hst : st ≤ ps.length)
    (h : ∀ s' kvs' t e, SV s₀ L lt ll cur kvs' s' → Kp [L] s s' → lk kvs' "end" = some (.int (e : Nat) t) → (∀ y : Str, y ≠ "end" → lk kvs' y = lk kvs y) → st ≤ e → e ≤ ps.length → (∀ j, st ≤ j → j < e → ∃ l, (lsOf ps)[j]? = some l ∧ b ≤ l) → (∀ l, (lsOf ps)[e]? = some l → ¬ b ≤ l) → Q .next s') :
    wpAny (model PR w) A (exec innerW (En 11 pm doc cd L a)) Q NoE s := by
  show wpAny (model PR w) A (exec (.While _ _ [] _) (En 11 pm doc cd L a)) Q NoE s
  have hszi : its.size = ps.length := by have := hp.length; simpa using this
  refine while_inv (fun f s' => ∃ e kvs' t, SV s₀ L lt ll cur kvs' s' ∧ Kp [L] s s' ∧ lk kvs' "end" = some (.int (e : Nat) t) ∧ (∀ y : Str, y ≠ "end" → lk kvs' y = lk kvs y) ∧ st ≤ e ∧ e ≤ ps.length ∧ (∀ j, st ≤ j → j < e → ∃ l, (lsOf ps)[j]? = some l ∧ b ≤ l) ∧ f = ps.length - e) (ps.length - st)
    ⟨st, kvs, te0, X, Kp.refl _ _, he, fun _ _ => rfl, Nat.le_refl _, hst, fun j h1 h2 => absurd h2 (Nat.not_lt.mpr h1), rfl⟩ ?_
  rintro f s' ⟨e, kvs', te, X', K', he', hy, hle, hel, hin, rfl⟩
  have G' := G.keep fun b o q => X'.kp.keep b o (by simp) q
  have hb' : lk kvs' "bound" = some (.int (b : Nat) tb) := by rw [hy _ (by decide)]; exact hb
  have ltAt : ∀ {s'' : Shared}, Kp [] s₀ s'' → s''.heap.IsList lt its := fun K => by obtain ⟨o, ho, r⟩ := hlt; exact ⟨o, K.keep _ o (by simp) ho, r⟩
  refine wpAny_isTrue_BoolOp (wpAny_allTrue_And_cons (wpAny_isTrue_Compare1 ?_))
  refine ldA (L := L) (by kernel_rfl) (by kernel_rfl) rfl X'.ns he' ?_
  refine e_len (L := L) (l := lt) (its := its) (by kernel_rfl) (by kernel_rfl) rfl rfl G' (by kernel_rfl) rfl X'.ns X'.told (ltAt X'.kp) (by omega) fun t2 => ?_
  refine lt_int (wpAny_truthy_bool ?_)
  by_cases hlt' : e < ps.length
  rotate_left
  · rw [if_neg (by rw [decide_eq_true_eq]; omega), if_neg Bool.false_ne_true]
    have hee : e = ps.length := by omega
    refine h _ kvs' te e (X'.back ⟨fun _ _ e => e, rfl⟩) (K'.tok _) he' hy hle hel hin fun l hl => ?_
    have := (List.getElem?_eq_some_iff.mp hl).1
    simp [lsOf] at this
    omega
  rw [if_pos (by rw [decide_eq_true_eq]; omega)]
  refine wpAny_allTrue_And_cons (wpAny_isTrue_value ?_)
  have hpe : ps[e]? = some ps[e] := List.getElem?_eq_getElem hlt'
  have hlse : (lsOf ps)[e]? = some ps[e].2 := by unfold lsOf; rw [List.getElem?_map, hpe]; rfl
  obtain ⟨v, hv, T, t3, u3, rfl, hT⟩ := hp.get hpe
  obtain ⟨f3, hf3⟩ := fn_of G' 3 (by simp [theDefs])
  have hf3 : mg "ge" = some (.ref f3) := hf3
  refine gen_st (s := s') ⟨fun _ _ e => e, rfl⟩ fun s₂ B₂ => ?_
  have X₂ := X'.back B₂
  have G₂ := G'.keep B₂.keep
  refine e_fn (a := f3) 3 (by simp [theDefs]) (by kernel_rfl) (by kernel_rfl) rfl G₂ (by kernel_rfl) hf3 (by decide) ?_
  refine sp_cons (e_subC ?_)
  refine e_listAt (L := L) (l := lt) (its := its) (v := .ref T) (by kernel_rfl) (by kernel_rfl) (by kernel_rfl) rfl X₂.ns X₂.told he' (ltAt X₂.kp) (by rw [← Array.getElem?_toList]; exact hv) (by omega) ?_
  refine wpAny_Constant_int ?_
  refine tup_sub (u1 := .str ⟨ps[e].1.toArray⟩ t3) (u2 := .int (ps[e].2 : Nat) u3) (by obtain ⟨o, ho, r⟩ := hT; exact ⟨o, X₂.kp.keep _ o (by simp) ho, r⟩) (.inr rfl) (by rw [if_neg (by decide)]) ?_
  refine sp_cons (ldA (L := L) (by kernel_rfl) (by kernel_rfl) rfl X₂.ns hb' (sp_nil ⟨fun _ _ e => e, ?_⟩))
  refine sp_ge G₂ (Nat.lt_of_succ_lt hroom) hf3 fun s₃ B₃ => wpAny_truthy_bool ?_
  have B₃' : Back s₂ s₃ := ⟨B₃.keep, B₃.rest⟩
  have X₃ := X₂.back B₃'
  have K₃ : Kp [L] s s₃ := (K'.then B₂).then B₃'
  by_cases hge : b ≤ ps[e].2
  · rw [if_pos (by rw [decide_eq_true_eq]; omega)]
    refine wpAny_allTrue_And_nil ?_
    rw [if_pos rfl]
    refine wpAny_execs_cons (wpAny_AugAssign_Name (wpAny_loadName_local (by kernel_rfl) (by kernel_rfl) X₃.ns he' (wpAny_Constant_int (wpAny_iadd_int ?_))))
    refine SV.store (s := { s₃ with toks := s₃.toks + 1 + 1 }) hL hlL (X₃.back ⟨fun _ _ e => e, rfl⟩) (by decide) (by decide) (by kernel_rfl) fun s₄ X₄ K₄ => wpAny_execs_nil ?_
    refine ⟨ps.length - (e + 1), by omega, e + 1, _, s₃.toks + 1, X₄, K₃.trans ⟨K₄.keep, K₄.os, K₄.bare⟩, ?_, fun y hy' => by rw [lk_put_ne hy']; exact hy y hy', by omega, hlt', fun j h1 h2 => ?_, rfl⟩
    · rw [lk_put_self, Int.natCast_add]; rfl
    · by_cases hje : j = e
      · subst hje; exact ⟨_, hlse, hge⟩
      · exact hin j h1 (by omega)
  · rw [if_neg (by rw [decide_eq_true_eq]; omega), if_neg Bool.false_ne_true]
    refine h _ kvs' te e X₃ K₃ he' hy hle hel hin fun l hl => ?_
    rw [hlse] at hl
    cases hl
    exact hge

/-- one pass at the bound b -/
theorem sh_pass {b : Nat} {tb t0 : Tok} {xs : List Sg} {Q : Flow → Shared → Prop} (hh : A.handled = none) (hroom : A.depth + 1 < recursionLimit) (G : GL w s₀.heap mg mb) (hL : s₀.heap.get? L = none) (hll : s₀.heap.get? ll = none) (hlL : ll ≠ L) (hlt : s₀.heap.IsList lt its) (hp : All2 (TupIn s₀.heap) its.toList ps) (hsz : ps.length ≤ 100)
    (X : SV s₀ L lt ll cur kvs s) (hb : lk kvs "bound" = some (.int (b : Nat) tb)) (hst : lk kvs "start" = some (.int (0 : Nat) t0)) (hx : All2 SgV cur.toList xs) (hxl : xs.length = ps.length)
    (h : ∀ s' kvs' cur', SV s₀ L lt ll cur' kvs' s' → Kp [L, ll] s s' → All2 SgV cur'.toList (rv b (lsOf ps) [] xs) → Q .next s') :
    wpAny (model PR w) A (exec outerW (En 11 pm doc cd L a)) Q NoE s := by
  show wpAny (model PR w) A (exec (.While _ _ [] _) (En 11 pm doc cd L a)) Q NoE s
  have hszi : its.size = ps.length := by have := hp.length; simpa using this
  have hlsl : (lsOf ps).length = ps.length := by simp [lsOf]
  refine while_inv (fun f s' => ∃ st kvs' t cur' xs', SV s₀ L lt ll cur' kvs' s' ∧ Kp [L, ll] s s' ∧ lk kvs' "start" = some (.int (st : Nat) t) ∧ lk kvs' "bound" = some (.int (b : Nat) tb) ∧ st ≤ ps.length + 1 ∧ f = ps.length + 1 - st ∧ All2 SgV cur'.toList xs' ∧ xs'.length = ps.length ∧
      rv b (lsOf ps) [] xs = xs'.take st ++ rv b ((lsOf ps).drop st) [] (xs'.drop st)) (ps.length + 1) ⟨0, kvs, t0, cur, xs, X, Kp.refl _ _, hst, hb, Nat.zero_le _, rfl, hx, hxl, rfl⟩ ?_
  rintro f s' ⟨st, kvs', t, cur', xs', X', K', hs', hb', hle, rfl, hx', hxl', hrv⟩
  have G' := G.keep fun b o q => X'.kp.keep b o (by simp) q
  have ltAt : ∀ {s'' : Shared}, Kp [] s₀ s'' → s''.heap.IsList lt its := fun K => by obtain ⟨o, ho, r⟩ := hlt; exact ⟨o, K.keep _ o (by simp) ho, r⟩
  refine wpAny_isTrue_Compare1 ?_
  refine ldA (L := L) (by kernel_rfl) (by kernel_rfl) rfl X'.ns hs' ?_
  refine e_len (L := L) (l := lt) (its := its) (by kernel_rfl) (by kernel_rfl) rfl rfl G' (by kernel_rfl) rfl X'.ns X'.told (ltAt X'.kp) (by omega) fun t2 => ?_
  refine lt_int (wpAny_truthy_bool ?_)
  by_cases hlt' : st < ps.length
  rotate_left
  · rw [if_neg (by rw [decide_eq_true_eq]; omega)]
    refine h _ kvs' cur' (X'.back ⟨fun _ _ e => e, rfl⟩) (K'.tok _) ?_
    have : rv b ((lsOf ps).drop st) [] (xs'.drop st) = [] := by rw [List.drop_of_length_le (by omega : (lsOf ps).length ≤ st)]; rfl
    rw [hrv, this, List.append_nil, List.take_of_length_le (by omega)]
    exact hx'
  rw [if_pos (by rw [decide_eq_true_eq]; omega)]
  refine gen_st (s := s') ⟨fun _ _ e => e, rfl⟩ fun s₂ B₂ => ?_
  have X₂ := X'.back B₂
  have K₂ := K'.then B₂
  refine wpAny_execs_cons (wpAny_Assign_Name (ldA (L := L) (by kernel_rfl) (by kernel_rfl) rfl X₂.ns hs' ?_))
  refine SV.store hL hlL X₂ (by decide) (by decide) (by kernel_rfl) fun s₃ X₃ K₃ => ?_
  refine wpAny_execs_cons ?_
  show wpAny (model PR w) A (exec innerW (En 11 pm doc cd L a)) _ NoE s₃
  refine sh_while1 (b := b) (st := st) (tb := tb) (te0 := t) hh hroom G hL hlL hlt hp hsz X₃ (by rw [lk_put_ne (by decide)]; exact hb') (lk_put_self _ _ _) (by omega) fun s₄ kvs₄ t₄ e X₄ K₄ he₄ hy₄ hse hen hin hout => ?_
  have hs₄ : lk kvs₄ "start" = some (.int (st : Nat) t) := by rw [hy₄ _ (by decide), lk_put_ne (by decide)]; exact hs'
  have hb₄ : lk kvs₄ "bound" = some (.int (b : Nat) tb) := by rw [hy₄ _ (by decide), lk_put_ne (by decide)]; exact hb'
  have hcs : cur'.size = ps.length := by have := hx'.length; rw [hxl'] at this; simpa using this
  have k24 : Kp [L] s₂ s₄ := K₃.trans K₄
  have k4 : Kp [L, ll] s s₄ := K₂.absorb (by simp) k24
  refine wpAny_execs_cons (wpAny_Assign_Subscript ?_ (by kernel_rfl))
  refine e_rev (e_slice_list (L := L) (l := ll) (x := "letters") (its := cur') (by kernel_rfl) (by kernel_rfl) rfl X₄.ns X₄.letters (by omega) ?_)
  refine ldA (L := L) (by kernel_rfl) (by kernel_rfl) rfl X₄.ns hs₄ ⟨st, t, rfl, ?_⟩
  refine ldA (L := L) (by kernel_rfl) (by kernel_rfl) rfl X₄.ns he₄ ⟨e, t₄, rfl, hse, by omega, X₄.list.isList, fun D₁ s₅ B₅ hD₁ l₅ => ?_⟩
  refine ⟨D₁, _, rfl, l₅.isList, ?_, fun s₆ D₂ B₆ hD₂ l₆ => ?_⟩
  · simp only [List.size_toArray, List.length_take, List.length_drop, Array.length_toList]; omega
  have X₆ := (X₄.back B₅).back B₆
  refine ldA (L := L) (by kernel_rfl) (by kernel_rfl) rfl X₆.ns X₆.letters ?_
  refine wpAny_Slice ?_
  simp only [evalPart_none, evalPart_some]
  refine ldA (L := L) (by kernel_rfl) (by kernel_rfl) rfl X₆.ns hs₄ ?_
  refine ldA (L := L) (by kernel_rfl) (by kernel_rfl) rfl X₆.ns he₄ (wpAny_pure ?_)
  have hll₄ : s₄.heap.get? ll ≠ none := by obtain ⟨n, q⟩ := X₄.list; rw [q]; exact fun h => nomatch h
  refine setItem_slice (l := ll) (items := cur') (a := st) (b := e) (X₆.list.at fun o q => Heap.get?_push_of_some _ q) (Heap.IsSliceOf.new ..) (.int _ _) (.int _ _) hse (by omega) (src := D₂) (l₆.isList.push _) ?_ fun h' hl' hs'' => ?_
  · simp only [List.size_toArray, List.length_reverse, List.length_take, List.length_drop, Array.length_toList]
    omega
  · have B₄₆ : Back s₄ s₆ := B₅.trans B₆
    have K₇ : Kp [ll] s₄ { s₆ with heap := h' } := ⟨fun b o hb q => hs''.extBut b o (by simpa using hb) (Heap.get?_push_of_some _ (B₄₆.keep b o q)), by show s₆.os = s₄.os; rw [B₄₆.rest], by show AllBare s₄.gens → AllBare s₆.gens; rw [B₄₆.rest]; exact fun q => q⟩
    have Y : SV s₀ L lt ll _ kvs₄ { s₆ with heap := h' } := ⟨X₄.kp.absorb (fun d hd => .inr (by rw [List.mem_singleton.mp hd]; exact hll)) K₇, X₄.ns.at fun o q => K₇.keep _ o (by simpa using Ne.symm hlL) q, X₄.told, X₄.letters, hl'⟩
    have KY := k4.absorb (W' := [ll]) (by simp) K₇
    generalize ({ s₆ with heap := h' } : Shared) = s₇ at Y KY ⊢
    refine wpAny_execs_cons (wpAny_Assign_Name (wpAny_BinOp (ldA (L := L) (by kernel_rfl) (by kernel_rfl) rfl Y.ns he₄ (wpAny_Constant_int (wpAny_add_int ?_)))))
    refine SV.store (s := { s₇ with toks := s₇.toks + 1 + 1 }) hL hlL (Y.back ⟨fun _ _ e => e, rfl⟩) (by decide) (by decide) (by kernel_rfl) fun s₈ X₈ K₈ => wpAny_execs_nil ?_
    have hxs : All2 SgV (cur'.extract 0 st ++ ((cur'.toList.drop st).take (e - st)).reverse.toArray ++ cur'.extract e cur'.size).toList (xs'.take st ++ ((xs'.drop st).take (e - st)).reverse ++ xs'.drop e) := by
      have e1 : (cur'.extract 0 st ++ ((cur'.toList.drop st).take (e - st)).reverse.toArray ++ cur'.extract e cur'.size).toList = cur'.toList.take st ++ ((cur'.toList.drop st).take (e - st)).reverse ++ cur'.toList.drop e := by
        simp [Array.toList_append, Array.toList_extract, List.extract]
        exact List.take_of_length_le (by simp)
      rw [e1]
      exact ((hx'.take st).append ((hx'.drop st).take (e - st)).reverse).append (hx'.drop e)
    refine ⟨ps.length + 1 - (e + 1), by omega, e + 1, _, s₇.toks + 1, _, _, X₈, KY.absorb (W' := [L]) (by simp) ⟨K₈.keep, K₈.os, K₈.bare⟩, ?_, by rw [lk_put_ne (by decide)]; exact hb₄, by omega, rfl, hxs, ?_, ?_⟩
    · rw [lk_put_self, Int.natCast_add]; rfl
    · simp only [List.length_append, List.length_take, List.length_reverse, List.length_drop]; omega
    · rw [hrv]
      exact rv_turn b (lsOf ps) xs' st e (by omega) hse (by omega) hin hout
end
end Mine
end

/-! part SH3 -/
section
set_option maxRecDepth 100000
open PySem PySem.W PyProof.Rows PySem.Calls
namespace Mine

theorem rv_flat (b : Nat) : ∀ (ls : List Nat) (acc xs : List Sg), (rv b ls acc xs).flatten.length ≤ acc.flatten.length + xs.flatten.length
  | [], acc, xs => by show acc.flatten.length ≤ _; omega
  | _ :: _, acc, [] => by show acc.flatten.length ≤ _; omega
  | l :: ls, acc, x :: xs => by
    show (if b ≤ l then rv b ls (x :: acc) xs else acc ++ x :: rv b ls [] xs).flatten.length ≤ _
    split
    · have := rv_flat b ls (x :: acc) xs
      simp only [List.flatten_cons, List.length_append] at this ⊢
      omega
    · have := rv_flat b ls [] xs
      simp only [List.flatten_cons, List.flatten_append, List.length_append, List.flatten_nil, List.length_nil] at this ⊢
      omega
theorem app_flat (ls : List Nat) : ∀ (k l : Nat) (xs : List Sg), (app ls l k xs).flatten.length ≤ xs.flatten.length
  | 0, _, _ => Nat.le_refl _
  | k + 1, l, xs => by
    have h1 := rv_flat (l + 1) ls [] (app ls (l + 1) k xs)
    have h2 := app_flat ls k (l + 1) xs
    rw [app_succ]
    simp only [List.flatten_nil, List.length_nil] at h1
    omega

theorem tup_same {h : Heap} {T : Addr} {u1 u2 v1 v2 : Value} (a : h.IsTuple T #[u1, u2]) (b : h.IsTuple T #[v1, v2]) : u1 = v1 ∧ u2 = v2 := by
  obtain ⟨o, ho, _, n, hd⟩ := a
  obtain ⟨o', ho', _, n', hd'⟩ := b
  rw [ho] at ho'
  cases ho'
  rw [hd] at hd'
  injection hd' with e _
  have e0 := congrArg (fun x : Array Value => x[0]?) e
  have e1 := congrArg (fun x : Array Value => x[1]?) e
  simp at e0 e1
  exact ⟨e0, e1⟩

section
variable {w : World} {A : Around} {s s₀ : Shared} {mg mb : Str → Option Value} {pm doc : Value} {cd L a lt ll : Addr} {its cur : Array Value} {ps : List (Sg × Nat)} {kvs : List (Str × Value)}

theorem pick_first {h : Heap} {vs ys : List Value} {x z : Str} (hz : z = x) (hp : All2 (TupIn h) vs ps) (hF : All2 (PickR h x z) vs ys) : All2 SgV ys (xsOf ps) := by
  refine All2.through hp hF fun v p y hv hy => ?_
  obtain ⟨T, t, u, rfl, hT⟩ := hv
  obtain ⟨T', u1, u2, e, hT', rfl⟩ := hy
  cases e
  rw [if_pos hz, ← (tup_same hT hT').1]
  exact ⟨t, rfl⟩
theorem pick_second {h : Heap} {vs ys : List Value} {x z : Str} (hz : z ≠ x) (hp : All2 (TupIn h) vs ps) (hF : All2 (PickR h x z) vs ys) : All2 NatV ys (lsOf ps) := by
  refine All2.through hp hF fun v p y hv hy => ?_
  obtain ⟨T, t, u, rfl, hT⟩ := hv
  obtain ⟨T', u1, u2, e, hT', rfl⟩ := hy
  cases e
  rw [if_neg hz, ← (tup_same hT hT').2]
  exact ⟨u, rfl⟩
theorem TupIn.keep {W : List Addr} {s s' : Shared} {v : Value} {x : Sg × Nat} (h : TupIn s.heap v x) (K : Kp W s s') (hW : ∀ d ∈ W, s.heap.get? d = none) : TupIn s'.heap v x := by
  obtain ⟨T, t, u, rfl, o, ho, r⟩ := h
  exact ⟨T, t, u, rfl, o, K.keep T o (fun q => by rw [hW T q] at ho; cases ho) ho, r⟩

theorem sp_shown {f : Addr} {Q : Value → Shared → Prop} (hh : A.handled = none) (hroom : A.depth + 2 < recursionLimit) (G : GL w s.heap mg mb) (ha : mg "_law_shown" = some (.ref f)) (hlt : s.heap.IsList lt its) (hp : All2 (TupIn s.heap) its.toList ps) (hsz : ps.length ≤ 100)
    (hfl : (xsOf ps).flatten.length ≤ 1000) (hlev : ∀ y ∈ ps, y.2 ≤ 20)
    (h : ∀ s' M t, Kp [] s s' → M ≤ 20 → (∀ y ∈ ps, y.2 ≤ M) → Q (.str ⟨(shownK M ps 0).toArray⟩ t) s') :
    wpAny (model PR w) A (call (.ref f) [.ref lt]) Q NoE s := by
  refine enter 11 (by simp [theDefs]) G (by omega) ha (binds := [("told", .ref lt)]) ?b ?c ?l (fun pm doc cd h₀ B sz hns => ?_) ?co ?g ?k
  case b => intro _ _ _; kernel_rfl
  case c => decide +kernel
  case l => kernel_rfl
  case co => kernel_rfl
  case g => kernel_rfl
  case k => kernel_rfl
  have hA : (A.deeper (En 11 pm doc cd s.heap.objs.size f)).handled = none := hh
  have hr' : (A.deeper (En 11 pm doc cd s.heap.objs.size f)).depth + 1 < recursionLimit := by show A.depth + 1 + 1 < _; omega
  generalize A.deeper (En 11 pm doc cd s.heap.objs.size f) = A' at hA hr' ⊢
  have hLn : s.heap.get? s.heap.objs.size = none := Heap.get?_none_of_le (Nat.le_refl _)
  generalize s.heap.objs.size = L at hLn hns ⊢
  have et : lk [(Str.ofString "told", Value.ref lt)].reverse "told" = some (.ref lt) := by kernel_rfl
  have hszi : its.size = ps.length := by have := hp.length; simpa using this
  have k₁ : Kp [] s { s with heap := h₀, toks := s.toks + [(Str.ofString "told", Value.ref lt)].length } := ⟨fun b o _ e => B.keep b o e, rfl, fun q => q⟩
  have hns₁ : ({ s with heap := h₀, toks := s.toks + [(Str.ofString "told", Value.ref lt)].length } : Shared).heap.Ns L (lk [(Str.ofString "told", Value.ref lt)].reverse) := hns
  generalize ({ s with heap := h₀, toks := s.toks + [(Str.ofString "told", Value.ref lt)].length } : Shared) = s₁ at k₁ hns₁ ⊢
  have ltAt : ∀ {s'' : Shared}, Kp [] s s'' → s''.heap.IsList lt its := fun K => by obtain ⟨o, ho, r⟩ := hlt; exact ⟨o, K.keep _ o (by simp) ho, r⟩
  have pAt : ∀ {s'' : Shared}, Kp [] s s'' → All2 (TupIn s''.heap) its.toList ps := fun K => hp.mono fun v x r => r.keep K (by simp)
  have prAt : ∀ {s'' : Shared}, Kp [] s s'' → ∀ (j : Nat) v, its[j]? = some v → PairAt s''.heap v := fun K j v hv => by
    obtain ⟨x, hx, T, t, u, rfl, hT⟩ := (pAt K).get' (by rw [Array.getElem?_toList]; exact hv)
    exact ⟨T, _, _, rfl, hT⟩
  refine wpAny_execs_cons ?_
  refine a_comp_pairs (x := "letter") (y := "level") (z := "letter") (v := "letters") (L := L) hA (by kernel_rfl) (by decide +kernel) (by decide +kernel) (by kernel_rfl) (by decide +kernel) (by kernel_rfl) (by kernel_rfl) (by decide) (.inl rfl) (by decide) (by omega) (prAt k₁) (ltAt k₁)
    (by kernel_rfl) (by kernel_rfl) rfl hns₁ (fun Q' q => ldA (L := L) (by kernel_rfl) (by kernel_rfl) rfl hns₁ et q) (fun s₃ ll ys K₃ hll l₃ F₂ hns₃ => ?_)
  have xs₂ : All2 SgV ys.toList (xsOf ps) := pick_first rfl (pAt k₁) F₂
  have hll₀ : s.heap.get? ll = none := none_back k₁ (by simp) hll
  have hllL : ll ≠ L := ns_ne hns₁ hll
  have k₃ : Kp [] s s₃ := k₁.absorb (absorb1 hLn) K₃
  have X₃ : SV s L lt ll ys _ s₃ := ⟨k₃, hns₃, by rw [lk_put_ne (by decide)]; exact et, lk_put_self _ _ _, l₃⟩
  have G₃ : GL w s₃.heap mg mb := G.keep fun b o e => k₃.keep b o (by simp) e
  refine wpAny_execs_cons ?_
  show wpAny (model PR w) A' (exec (.For (.Name _ _) (.Call (.Name "range" _) [_, _, _] [] _) _ [] _) (En 11 pm doc cd L f)) _ NoE s₃
  refine for_down hA (by kernel_rfl) (by kernel_rfl) rfl rfl G₃ rfl ?_
  refine e_bi (id := "max") (by kernel_rfl) (by kernel_rfl) rfl rfl G₃ (by decide +kernel) (by kernel_rfl) (by decide) ?_
  refine sp_cons (wpAny_BinOp ?_)
  refine e_comp_pairs (x := "letter") (y := "level") (z := "level") hA (by decide +kernel) (by decide +kernel) (by kernel_rfl) (by decide +kernel) (by kernel_rfl) (by kernel_rfl) (by decide) (.inr rfl) (by decide) (by omega) (prAt k₃) (ltAt k₃)
    (fun Q' q => ldA (L := L) (by kernel_rfl) (by kernel_rfl) rfl hns₃ X₃.told q) (fun s₄ lv ys' K₄ hlv l₄ F₄ => ?_)
  have ns₄ : All2 NatV ys'.toList (lsOf ps) := pick_second (by decide) (pAt k₃) F₄
  have hys' : ys'.size = ps.length := by have := ns₄.length; simpa [lsOf] using this
  have k₄ := k₃.trans K₄
  refine e_list (sp_cons (wpAny_Constant_int (sp_nil ⟨by size_fits, ?_⟩)))
  refine cat_lists (l₄.isList.push _) ⟨_, Heap.get?_push_size _ rfl, rfl, _, rfl⟩ (by simp; rw [sizeLine_eq]; omega) ?_
  refine sp_nil ?_
  have B₅ : Back s₄ { s₄ with heap := (s₄.heap.push { cls := .type "list", data := .seq [Value.int 0 s₄.toks].toArray }).push { cls := .type "list", data := .seq (ys' ++ [Value.int 0 s₄.toks].toArray) }, toks := s₄.toks + 1 } :=
    ⟨fun b o e => Heap.get?_push_of_some _ (Heap.get?_push_of_some _ e), rfl⟩
  have hl₅ : ({ s₄ with heap := (s₄.heap.push { cls := .type "list", data := .seq [Value.int 0 s₄.toks].toArray }).push { cls := .type "list", data := .seq (ys' ++ [Value.int 0 s₄.toks].toArray) }, toks := s₄.toks + 1 } : Shared).heap.IsList
      (s₄.heap.push { cls := .type "list", data := .seq [Value.int 0 s₄.toks].toArray }).objs.size (ys'.toList ++ [Value.int 0 s₄.toks]).toArray := by
    refine ⟨_, Heap.get?_push_size _ rfl, rfl, 0, ?_⟩
    show Data.seq (ys' ++ [Value.int 0 s₄.toks].toArray) 0 = _
    congr 1
    apply Array.toList_inj.mp
    simp
  refine call_max (ns := lsOf ps ++ [0]) hA hl₅ (ns₄.append (.cons ⟨_, rfl⟩ .nil)) (by simp) fun M t₆ s₆ B₆ hM hmax => ?_
  have hM' : M ≤ 20 := by
    rcases List.mem_append.mp hM with h1 | h1
    · obtain ⟨y, hy, rfl⟩ := List.mem_map.mp h1
      exact hlev y hy
    · simp at h1; omega
  have hmax' : ∀ y ∈ ps, y.2 ≤ M := fun y hy => hmax _ (List.mem_append_left _ (List.mem_map.mpr ⟨y, hy, rfl⟩))
  have K₆ : Kp [] s₃ s₆ := (K₄.then B₅).then B₆
  have X₆ : SV s L lt ll ys _ s₆ := X₃.then K₆ (by simp) (by simp) (by simp)
  generalize put [(Str.ofString "told", Value.ref lt)].reverse (Str.ofString "letters") (Value.ref ll) = kv at X₃ X₆ hns₃
  refine ⟨M, t₆, rfl, by omega, fun I hI => ?_⟩
  have hI₀ : s.heap.get? I = none := none_back X₆.kp (by simp) hI
  have hIL : L ≠ I := Ne.symm (ns_ne X₆.ns hI)
  have hIl : ll ≠ I := Ne.symm (ne_none X₆.list hI)
  refine ⟨fun i s' => ∃ kvs cur, SV s L lt ll cur kvs s' ∧ All2 SgV cur.toList (app (lsOf ps) (M - i) i (xsOf ps)), ?_, ?_, ?_, ?_⟩
  · rintro i s₇ s₈ ⟨kvs, cur, X, ha⟩ K g
    exact ⟨kvs, cur, X.then K (by simpa using hI₀) (by simpa using hIL) (by simpa using hIl), ha⟩
  · intro s₇ B
    exact ⟨kv, ys, X₆.back B, xs₂⟩
  · rintro i t s₇ hi ⟨kvs, cur, X, ha⟩ ⟨oI, hoI⟩
    refine SV.store hLn hllL X (by decide) (by decide) (by kernel_rfl) fun s₈ X₈ K₈ => ?_
    refine wpAny_execs_cons (wpAny_Assign_Name (wpAny_Constant_int ?_))
    refine SV.store (s := { s₈ with toks := s₈.toks + 1 }) hLn hllL (X₈.back ⟨fun _ _ e => e, rfl⟩) (by decide) (by decide) (by kernel_rfl) fun s₉ X₉ K₉ => ?_
    have K₇₉ : Kp [L] s₇ s₉ := K₈.trans ⟨K₉.keep, K₉.os, K₉.bare⟩
    refine wpAny_execs_cons ?_
    show wpAny (model PR w) A' (exec outerW (En 11 pm doc cd L f)) _ NoE s₉
    refine sh_pass (b := M - i) (tb := t) (t0 := s₈.toks) (xs := app (lsOf ps) (M - i) i (xsOf ps)) hA hr' G hLn hll₀ hllL hlt hp hsz X₉ (by rw [lk_put_ne (by decide), lk_put_self]) (lk_put_self _ _ _) ha ?_ fun s₁₀ kvs₁₀ cur₁₀ X₁₀ K₁₀ ha₁₀ => wpAny_execs_nil ?_
    · rw [app_length _ _ _ _ (len_ls ps)]; simp [xsOf]
    · refine ⟨⟨kvs₁₀, cur₁₀, X₁₀, ?_⟩, fun o e => ?_⟩
      · have e1 : M - i = (M - (i + 1)) + 1 := by omega
        rw [app_succ, ← e1]
        exact ha₁₀
      · exact K₁₀.keep I o (by simp only [List.mem_cons, List.not_mem_nil, or_false, not_or]; exact ⟨Ne.symm hIL, Ne.symm hIl⟩) (K₇₉.keep I o (by simpa using Ne.symm hIL) e)
  · rintro s₇ ⟨kvs, cur, X, ha⟩
    rw [Nat.sub_self] at ha
    refine wpAny_execs_cons (wpAny_Return_some (e_join rfl rfl rfl ?_))
    refine ldA (s := { s₇ with toks := s₇.toks + 1 }) (L := L) (by kernel_rfl) (by kernel_rfl) rfl X.ns X.letters ?_
    refine ⟨ll, cur, _, rfl, X.list.isList, strOf_sgs ha, ?_, fun t k => ?_⟩
    · rw [sum_sgs]
      exact Nat.le_trans (app_flat _ _ _ _) hfl
    · rw [cat_sgs]
      have := h { s₇ with toks := k } M t (X.kp.tok k) hM' hmax'
      exact this
end
end Mine
end

/-! part NE1 -/
section
set_option maxRecDepth 100000
open PySem PySem.W PyProof.Rows PySem.Calls
namespace Mine

def FK : Nat → Nat → List (Sg × Nat) → Sg
  | 0, _ => fun _ => []
  | k + 1, l => fun inner => nest k inner (l + 1)
theorem nest_FK (K : Nat) (items : List (Sg × Nat)) (l : Nat) : nest K items l = finish l (nestLoop (FK K l) l (items ++ [([], l)]) [] []) := by cases K <;> rfl

theorem nestLoop_flat (f : List (Sg × Nat) → Sg) (hf : ∀ inner, (f inner).length ≤ (xsOf inner).flatten.length) (l : Nat) : ∀ (r : List (Sg × Nat)) (parts : List Sg) (inner : List (Sg × Nat)),
    (nestLoop f l r parts inner).flatten.length ≤ parts.flatten.length + (xsOf inner).flatten.length + (xsOf r).flatten.length
  | [], parts, inner => by show parts.flatten.length ≤ _; omega
  | (x, d) :: r, parts, inner => by
    have hr : (xsOf ((x, d) :: r)).flatten.length = x.length + (xsOf r).flatten.length := by simp [xsOf]
    show (if d ≠ l then nestLoop f l r parts (inner ++ [(x, d)]) else nestLoop f l r ((if inner = [] then parts else parts ++ [f inner]) ++ [x]) []).flatten.length ≤ _
    rw [hr]
    split
    · have := nestLoop_flat f hf l r parts (inner ++ [(x, d)])
      have e : (xsOf (inner ++ [(x, d)])).flatten.length = (xsOf inner).flatten.length + x.length := by simp [xsOf]
      omega
    · have := nestLoop_flat f hf l r ((if inner = [] then parts else parts ++ [f inner]) ++ [x]) []
      have e0 : (xsOf ([] : List (Sg × Nat))).flatten.length = 0 := rfl
      have h1 : ((if inner = [] then parts else parts ++ [f inner]) ++ [x]).flatten.length ≤ parts.flatten.length + (xsOf inner).flatten.length + x.length := by
        have := hf inner
        split <;> (simp only [List.flatten_append, List.length_append, List.flatten_cons, List.flatten_nil, List.length_nil]; omega)
      omega
theorem finish_flat (l : Nat) (parts : List Sg) : (finish l parts).length = parts.flatten.length := by
  unfold finish
  split
  · induction parts with
    | nil => rfl
    | cons x r ih => rw [List.reverse_cons, List.flatten_append, List.length_append, ih, List.flatten_cons, List.length_append]; simp; omega
  · rfl
theorem nest_flat : ∀ (K : Nat) (items : List (Sg × Nat)) (l : Nat), (nest K items l).length ≤ (xsOf items).flatten.length
  | K, items, l => by
    have hf : ∀ inner, (FK K l inner).length ≤ (xsOf inner).flatten.length := by
      intro inner
      cases K with
      | zero => exact Nat.zero_le _
      | succ k => exact nest_flat k inner (l + 1)
    rw [nest_FK, finish_flat]
    have := nestLoop_flat (FK K l) hf l (items ++ [([], l)]) [] []
    have e : (xsOf (items ++ [(([] : Sg), l)])).flatten.length = (xsOf items).flatten.length := by simp [xsOf]
    have e0 : (xsOf ([] : List (Sg × Nat))).flatten.length = 0 := rfl
    simp only [List.flatten_nil, List.length_nil] at this
    omega
theorem FK_flat (K l : Nat) (inner : List (Sg × Nat)) : (FK K l inner).length ≤ (xsOf inner).flatten.length := by
  cases K with
  | zero => exact Nat.zero_le _
  | succ k => exact nest_flat k inner (l + 1)

def NTup (Wx : List Addr) (h : Heap) (v : Value) (x : Sg × Nat) : Prop := ∃ T t u, v = .ref T ∧ T ∉ Wx ∧ h.IsTuple T #[.str ⟨x.1.toArray⟩ t, .int (x.2 : Nat) u]
theorem NTup.keep {Wx W : List Addr} {s s' : Shared} {v : Value} {x : Sg × Nat} (h : NTup Wx s.heap v x) (K : Kp W s s') (hW : ∀ d ∈ W, d ∈ Wx ∨ s.heap.get? d = none) : NTup Wx s'.heap v x := by
  obtain ⟨T, t, u, rfl, hT, o, ho, r⟩ := h
  refine ⟨T, t, u, rfl, hT, o, K.keep T o (fun q => ?_) ho, r⟩
  rcases hW T q with hx | hx
  · exact hT hx
  · rw [ho] at hx; cases hx
theorem NTup.tup {Wx : List Addr} {h : Heap} {v : Value} {x : Sg × Nat} (H : NTup Wx h v x) : TupIn h v x := by
  obtain ⟨T, t, u, rfl, _, r⟩ := H
  exact ⟨T, t, u, rfl, r⟩

def NS (i : Nat) : Stmt := (D 12).body.getD i noSt

section
variable {w : World} {A : Around} {s s₀ : Shared} {mg mb : Str → Option Value} {pm doc : Value} {cd L a lp li : Addr} {lvl : Nat} {pa ia : Array Value} {kvs : List (Str × Value)}

structure NV (s₀ : Shared) (L lp li : Addr) (lvl : Nat) (pa ia : Array Value) (kvs : List (Str × Value)) (s : Shared) : Prop where
  kp : Kp [] s₀ s
  ns : s.heap.Ns L (lk kvs)
  level : ∃ t, lk kvs "level" = some (.int (lvl : Nat) t)
  parts : lk kvs "parts" = some (.ref lp)
  inner : lk kvs "inner" = some (.ref li)
  plist : s.heap.PlainList lp pa
  ilist : s.heap.PlainList li ia
theorem NV.then {s' : Shared} {W : List Addr} (X : NV s₀ L lp li lvl pa ia kvs s) (K : Kp W s s') (hW : ∀ d ∈ W, s₀.heap.get? d = none) (hL : L ∉ W) (hp : lp ∉ W) (hi : li ∉ W) : NV s₀ L lp li lvl pa ia kvs s' :=
  ⟨X.kp.absorb (fun d hd => .inr (hW d hd)) K, X.ns.at fun o e => K.keep _ o hL e, X.level, X.parts, X.inner, list_at X.plist K hp, list_at X.ilist K hi⟩
theorem NV.back {s' : Shared} (X : NV s₀ L lp li lvl pa ia kvs s) (B : Back s s') : NV s₀ L lp li lvl pa ia kvs s' := X.then (B.kp []) (by simp) (by simp) (by simp) (by simp)
theorem NV.store {x : Str} {v : Value} {Q : Unit → Shared → Prop} (hL : s₀.heap.get? L = none) (hpL : lp ≠ L) (hiL : li ≠ L) (X : NV s₀ L lp li lvl pa ia kvs s) (h1 : x ≠ "level") (h2 : x ≠ "parts") (h3 : x ≠ "inner") (hl : (En 12 pm doc cd L a).kindOf x = some .local)
    (h : ∀ s', NV s₀ L lp li lvl pa ia (put kvs x v) s' → Kp [L] s s' → Q () s') : wpAny (model PR w) A (storeName (En 12 pm doc cd L a) x v) Q NoE s := by
  refine stA (L := L) hl (by kernel_rfl) rfl X.ns fun s' K g hn => h s' ⟨X.kp.absorb (absorb1 hL) K, hn, ?_, ?_, ?_, list_at X.plist K (by simpa using hpL), list_at X.ilist K (by simpa using hiL)⟩ K
  · obtain ⟨t, e⟩ := X.level
    exact ⟨t, by rw [lk_put_ne (Ne.symm h1)]; exact e⟩
  · rw [lk_put_ne (Ne.symm h2)]; exact X.parts
  · rw [lk_put_ne (Ne.symm h3)]; exact X.inner

/-- l != [] -/
theorem t_ne_nil {env : Env} {L l : Addr} {x : Str} {p q r : Pos} {kvs : List (Str × Value)} {its : Array Value} {whole : Sem Value} {Q : Bool → Shared → Prop} (hu : A.units < cLine) (hk : env.scope.kind = .function) (hl : env.kindOf x = some .local) (hL : env.locals = L) (hn : s.heap.Ns L (lk kvs))
    (hv : lk kvs x = some (.ref l)) (hil : s.heap.IsList l its) (h : ∀ s', Back s s' → Q (!decide (its.size = 0)) s') (hd : (x == ("__debug__" : Str)) = false := by decide) :
    wpAny (model PR w) A (isTrue (.Compare (.Name x p) [.NotEq] [.List [] q] r) env whole) Q NoE s := by
  refine wpAny_isTrue_Compare1 (ldA hk hl hL hn hv (e_list (sp_nil ⟨by size_fits, ?_⟩)) hd)
  have B : Back s { s with heap := s.heap.push { cls := .type "list", data := .seq ([] : List Value).toArray } } := ⟨fun b o e => Heap.get?_push_of_some _ e, rfl⟩
  have hnew : (s.heap.push { cls := .type "list", data := .seq ([] : List Value).toArray }).IsList s.heap.objs.size #[] := ⟨_, Heap.get?_push_size _ rfl, rfl, _, rfl⟩
  by_cases hz : its.size = 0
  · refine SeqAt.RcNeAt.lists (e := fun _ => true) (hil.push _) hnew (by simpa using hz) hu (fun j h1 h2 => absurd h2 (by simp)) _ _ _ _ (wpAny_truthy_bool ?_)
    have := h _ B
    rw [decide_eq_true hz] at this
    rw [hz]
    exact this
  · refine SeqAt.RcNeAt.lists_lengths (hil.push _) hnew (by simpa using hz) hu _ _ _ _ (wpAny_truthy_bool ?_)
    have := h _ B
    rw [decide_eq_false hz] at this
    exact this
end
end Mine
end

/-! part NE2 -/
section
set_option maxRecDepth 100000
open PySem PySem.W PyProof.Rows PySem.Calls
namespace Mine

section
variable {w : World} {A : Around} {s s₀ : Shared} {mg mb : Str → Option Value} {pm doc : Value} {cd L a lp li l f : Addr} {lvl K : Nat} {pa ia its : Array Value} {kvs : List (Str × Value)} {ps : List (Sg × Nat)}

/-- what the recursive call answers -/
def Rec (w : World) (A : Around) (s₀ : Shared) (f : Addr) (K lvl : Nat) : Prop := ∀ (s : Shared) (li : Addr) (ia : Array Value) (xs : List (Sg × Nat)) (t : Tok) (Q : Value → Shared → Prop), xs ≠ [] → (∀ y ∈ xs, lvl < y.2 ∧ y.2 ≤ lvl + K) → Kp [] s₀ s → s.heap.IsList li ia → All2 (TupIn s.heap) ia.toList xs → xs.length ≤ 50 → (xsOf xs).flatten.length ≤ 1000 →
  (∀ s' t, Kp [] s s' → Q (.str ⟨(FK K lvl xs).toArray⟩ t) s') → wpAny (model PR w) A (call (.ref f) [.ref li, .int ((lvl : Int) + 1) t]) Q NoE s

def neInv (s₀ s₁ : Shared) (L lp I li0 : Addr) (lvl K : Nat) (ps' : List (Sg × Nat)) : Nat → Shared → Prop := fun i s => ∃ kvs pa ia li xsP xsI, NV s₀ L lp li lvl pa ia kvs s ∧ Kp [L, lp, li0] s₁ s ∧ (li = li0 ∨ s₁.heap.get? li = none) ∧ li ≠ L ∧ li ≠ lp ∧ li ≠ I ∧ s₀.heap.get? li = none ∧
  All2 SgV pa.toList xsP ∧ All2 (NTup [L, lp, li, I] s.heap) ia.toList xsI ∧ (∀ y ∈ xsI, lvl < y.2 ∧ y.2 ≤ lvl + K) ∧ nestLoop (FK K lvl) lvl (ps'.drop i) xsP xsI = nestLoop (FK K lvl) lvl ps' [] [] ∧ ia.size ≤ i ∧ pa.size ≤ 2 * i ∧ xsP.flatten.length + (xsOf xsI).flatten.length + (xsOf (ps'.drop i)).flatten.length ≤ (xsOf ps').flatten.length ∧ ∃ o, s.heap.get? li0 = some o

def ifInner : Stmt := (forBody (NS 2)).getD 1 noSt
theorem ne_if {xsP : List Sg} {xsI : List (Sg × Nat)} {Wx : List Addr} {Q : Flow → Shared → Prop} (hu : A.units < cLine) (G : GL w s₀.heap mg mb) (hf : mg "_law_nested" = some (.ref f)) (hrec : Rec w A s₀ f K lvl) (hp0 : s₀.heap.get? lp = none) (hpL : lp ≠ L) (hip : li ≠ lp)
    (X : NV s₀ L lp li lvl pa ia kvs s) (haP : All2 SgV pa.toList xsP) (haI : All2 (NTup Wx s.heap) ia.toList xsI) (hI : ∀ y ∈ xsI, lvl < y.2 ∧ y.2 ≤ lvl + K) (hszI : ia.size ≤ 50) (hszP : pa.size ≤ 200) (hfl : (xsOf xsI).flatten.length ≤ 1000)
    (h : ∀ s' pa', NV s₀ L lp li lvl pa' ia kvs s' → Kp [lp] s s' → All2 SgV pa'.toList (if xsI = [] then xsP else xsP ++ [FK K lvl xsI]) → pa'.size ≤ pa.size + 1 → Q .next s') :
    wpAny (model PR w) A (exec ifInner (En 12 pm doc cd L a)) Q NoE s := by
  show wpAny (model PR w) A (exec (.If (.Compare (.Name _ _) [.NotEq] [.List [] _] _) _ [] _) (En 12 pm doc cd L a)) Q NoE s
  have hlen := haI.length
  rw [Array.length_toList] at hlen
  refine wpAny_If (t_ne_nil (L := L) (l := li) hu (by kernel_rfl) (by kernel_rfl) rfl X.ns X.inner X.ilist.isList fun s₁ B₁ => ?_)
  have X₁ := X.back B₁
  by_cases hz : ia.size = 0
  · have hx : xsI = [] := List.eq_nil_of_length_eq_zero (by omega)
    rw [decide_eq_true hz, if_neg (show ¬ ((!true) = true) by decide)]
    refine wpAny_execs_nil (h s₁ pa X₁ (B₁.kp _) ?_ (Nat.le_succ _))
    rw [if_pos hx]; exact haP
  · have hx : xsI ≠ [] := fun e => hz (by rw [hlen, e]; rfl)
    rw [decide_eq_false hz, if_pos (show (!false) = true from rfl)]
    have G₁ := G.keep fun b o q => X₁.kp.keep b o (by simp) q
    obtain ⟨tl, hlev⟩ := X₁.level
    refine wpAny_execs_cons (e_append (L := L) (l := lp) (its := pa) (by kernel_rfl) (by kernel_rfl) rfl X₁.ns X₁.parts X₁.plist (by rw [sizeLine_eq]; omega) rfl rfl rfl (by kernel_rfl) (by kernel_rfl) ?_)
    refine e_fn (a := f) 12 (by simp [theDefs]) (by kernel_rfl) (by kernel_rfl) rfl G₁ (by kernel_rfl) hf (by decide) ?_
    refine sp_cons (ldA (L := L) (by kernel_rfl) (by kernel_rfl) rfl X₁.ns X₁.inner ?_)
    refine sp_cons (wpAny_BinOp (ldA (L := L) (by kernel_rfl) (by kernel_rfl) rfl X₁.ns hlev (wpAny_Constant_int (wpAny_add_int (sp_nil ⟨fun _ _ e => e, ?_⟩)))))
    have X₂ : NV s₀ L lp li lvl pa ia kvs { s₁ with toks := s₁.toks + 1 + 1 } := X₁.back ⟨fun _ _ e => e, rfl⟩
    refine hrec { s₁ with toks := s₁.toks + 1 + 1 } li ia xsI _ _ hx hI X₂.kp X₂.ilist.isList (haI.mono fun v x r => (NTup.keep r (B₁.kp []) (by simp)).tup) (by omega) hfl fun s₃ t₃ K₃ => ?_
    have X₃ := X₂.then K₃ (by simp) (by simp) (by simp) (by simp)
    refine ⟨X₃.plist, fun s₄ K₄ g₄ l₄ => wpAny_execs_nil ?_⟩
    have K₁₃ : Kp [] s₁ s₃ := ⟨K₃.keep, K₃.os, K₃.bare⟩
    have Kall : Kp [lp] s s₄ := (((B₁.kp [lp]).absorb (by simp) K₁₃)).trans K₄
    refine h s₄ _ ⟨X₃.kp.absorb (fun d hd => .inr (by rw [List.mem_singleton.mp hd]; exact hp0)) K₄, X₃.ns.at fun o e => K₄.keep _ o (by simpa using Ne.symm hpL) e, X₃.level, X₃.parts, X₃.inner, l₄, list_at X₃.ilist K₄ (by simpa using hip)⟩ Kall ?_ (by simp)
    rw [if_neg hx, Array.toList_push]
    exact haP.snoc ⟨t₃, rfl⟩

theorem ne_loop {Q : Flow → Shared → Prop} (hh : A.handled = none) (hu : A.units < cLine) (G : GL w s₀.heap mg mb) (hf : mg "_law_nested" = some (.ref f)) (hrec : Rec w A s₀ f K lvl)
    (hL : s₀.heap.get? L = none) (hp0 : s₀.heap.get? lp = none) (hi0 : s₀.heap.get? li = none) (hpL : lp ≠ L) (hiL : li ≠ L) (hip : li ≠ lp)
    (hl : s₀.heap.IsList l its) (hps : All2 (TupIn s₀.heap) its.toList ps) (hsz : ps.length ≤ 50) (hfl : (xsOf ps).flatten.length ≤ 1000) (hlv : ∀ y ∈ ps, lvl ≤ y.2 ∧ y.2 ≤ lvl + K)
    (X : NV s₀ L lp li lvl #[] #[] kvs s) (hitems : lk kvs "items" = some (.ref l))
    (h : ∀ s' kvs' pa xsP, s'.heap.Ns L (lk kvs') → Kp [] s₀ s' → lk kvs' "parts" = some (.ref lp) → (∃ t, lk kvs' "level" = some (.int (lvl : Nat) t)) → s'.heap.PlainList lp pa → All2 SgV pa.toList xsP → xsP = nestLoop (FK K lvl) lvl (ps ++ [([], lvl)]) [] [] → pa.size ≤ 102 → Q .next s') :
    wpAny (model PR w) A (exec (NS 2) (En 12 pm doc cd L a)) Q NoE s := by
  show wpAny (model PR w) A (exec (.For (.Tuple [.Name _ _, .Name _ _] _ _) (.BinOp (.Name _ _) .Add (.List [.Tuple [_, _] _ _] _) _) _ [] _) (En 12 pm doc cd L a)) Q NoE s
  have hszi : its.size = ps.length := by have := hps.length; simpa using this
  obtain ⟨tl, hlev⟩ := X.level
  refine wpAny_For (wpAny_BinOp ?_)
  refine ldA (L := L) (by kernel_rfl) (by kernel_rfl) rfl X.ns hitems ?_
  refine e_list (sp_cons (e_tuple (sp_cons (wpAny_Constant_str (sp_cons (ldA (s := { s with toks := s.toks + 1 }) (L := L) (by kernel_rfl) (by kernel_rfl) rfl X.ns hlev (sp_nil ⟨by size_fits, ?_⟩)))))))
  refine sp_nil ⟨by size_fits, ?_⟩
  -- the tuple, the one-list, the sum
  have hT0n : s.heap.get? s.heap.objs.size = none := Heap.get?_none_of_le (Nat.le_refl _)
  generalize hto : ({ cls := .type "tuple", data := .seq [Value.str (Str.ofString "") s.toks, Value.int (lvl : Nat) tl].toArray } : Obj) = to
  have hlAt : ((s.heap.push to).push { cls := .type "list", data := .seq [Value.ref s.heap.objs.size].toArray }).IsList l its := by
    obtain ⟨o, ho, r⟩ := hl
    exact ⟨o, Heap.get?_push_of_some _ (Heap.get?_push_of_some _ (X.kp.keep _ o (by simp) ho)), r⟩
  refine cat_lists (s := { s with heap := (s.heap.push to).push { cls := .type "list", data := .seq [Value.ref s.heap.objs.size].toArray }, toks := s.toks + 1 }) hlAt ⟨_, Heap.get?_push_size _ rfl, rfl, _, rfl⟩ (by simp; rw [sizeLine_eq]; omega) ?_
  generalize hlc : ((s.heap.push to).push { cls := .type "list", data := .seq [Value.ref s.heap.objs.size].toArray }).objs.size = lc
  have hlcn : s.heap.get? lc = none := Heap.get?_none_of_le (by rw [← hlc, Heap.size_push, Heap.size_push]; exact Nat.le_succ_of_le (Nat.le_succ _))
  generalize hco : ({ cls := .type "list", data := .seq (its ++ [Value.ref s.heap.objs.size].toArray) } : Obj) = co
  have B₁ : Back s { s with heap := ((s.heap.push to).push { cls := .type "list", data := .seq [Value.ref s.heap.objs.size].toArray }).push co, toks := s.toks + 1 } := ⟨fun b o e => Heap.get?_push_of_some _ (Heap.get?_push_of_some _ (Heap.get?_push_of_some _ e)), rfl⟩
  have hT0 : (((s.heap.push to).push { cls := .type "list", data := .seq [Value.ref s.heap.objs.size].toArray }).push co).IsTuple s.heap.objs.size #[.str ⟨#[]⟩ s.toks, .int (lvl : Nat) tl] := by
    refine ⟨to, Heap.get?_push_of_some _ (Heap.get?_push_of_some _ (Heap.get?_push_size _ (by rw [← hto]; rfl))), by rw [← hto], 0, by rw [← hto]; rfl⟩
  have hlcl : (((s.heap.push to).push { cls := .type "list", data := .seq [Value.ref s.heap.objs.size].toArray }).push co).IsList lc (its ++ [Value.ref s.heap.objs.size].toArray) := by
    rw [← hlc]; exact ⟨co, Heap.get?_push_size _ (by rw [← hco]; rfl), by rw [← hco], 0, by rw [← hco]⟩
  generalize hs₁ : ({ s with heap := ((s.heap.push to).push { cls := .type "list", data := .seq [Value.ref s.heap.objs.size].toArray }).push co, toks := s.toks + 1 } : Shared) = s₁ at B₁ ⊢
  have e₁ : ((s.heap.push to).push { cls := .type "list", data := .seq [Value.ref s.heap.objs.size].toArray }).push co = s₁.heap := by rw [← hs₁]
  rw [e₁] at hT0 hlcl
  show wpAny (model PR w) A (pyIter (.ref lc)) _ NoE s₁
  generalize s.heap.objs.size = T0 at hT0 hlcl hT0n
  have X₁ := X.back B₁
  refine wpAny_pyIter_list (s := s₁) hlcl ?_
  have hIn : s₁.heap.get? s₁.heap.objs.size = none := Heap.get?_none_of_le (Nat.le_refl _)
  have hlcI : lc ≠ s₁.heap.objs.size := by obtain ⟨o, ho, _⟩ := hlcl; exact Nat.ne_of_lt (Heap.lt_size ho)
  have B₂ : Back s₁ { s₁ with heap := s₁.heap.push { cls := .type "list_iterator", data := .fields #[.ref lc, .int 0 0] } } := ⟨fun b o e => Heap.get?_push_of_some _ e, rfl⟩
  have hst0 : ({ s₁ with heap := s₁.heap.push { cls := .type "list_iterator", data := .fields #[.ref lc, .int 0 0] } } : Shared).heap.IsListIter s₁.heap.objs.size lc 0 := ⟨_, Heap.get?_push_size _ rfl, rfl, rfl⟩
  have hlcl₂ : ({ s₁ with heap := s₁.heap.push { cls := .type "list_iterator", data := .fields #[.ref lc, .int 0 0] } } : Shared).heap.IsList lc (its ++ [Value.ref T0].toArray) := hlcl.push _
  generalize ({ s₁ with heap := s₁.heap.push { cls := .type "list_iterator", data := .fields #[.ref lc, .int 0 0] } } : Shared) = s₂ at B₂ hst0 hlcl₂ ⊢
  generalize s₁.heap.objs.size = I at hIn hlcI hst0 ⊢
  have hI₀ : s₀.heap.get? I = none := none_back X₁.kp (by simp) hIn
  have hLI : L ≠ I := Ne.symm (ns_ne X₁.ns hIn)
  have hpI : lp ≠ I := Ne.symm (ne_none X₁.plist hIn)
  have hiI : li ≠ I := Ne.symm (ne_none X₁.ilist hIn)
  have hTW : T0 ∉ [L, lp, li] := by
    simp only [List.mem_cons, List.not_mem_nil, or_false, not_or]
    exact ⟨ns_ne X.ns hT0n, ne_none X.plist hT0n, ne_none X.ilist hT0n⟩
  have hlcW : lc ∉ [L, lp, li] := by
    simp only [List.mem_cons, List.not_mem_nil, or_false, not_or]
    exact ⟨ns_ne X.ns hlcn, ne_none X.plist hlcn, ne_none X.ilist hlcn⟩
  have hall : All2 (NTup [L, lp, li] s₁.heap) (its ++ [Value.ref T0].toArray).toList (ps ++ [([], lvl)]) := by
    rw [Array.toList_append]
    refine All2.append (hps.mono fun v x r => ?_) (.cons ⟨T0, s.toks, tl, rfl, hTW, hT0⟩ .nil)
    obtain ⟨T, t, u, rfl, o, ho, r⟩ := r
    refine ⟨T, t, u, rfl, ?_, o, X₁.kp.keep T o (by simp) ho, r⟩
    simp only [List.mem_cons, List.not_mem_nil, or_false, not_or]
    exact ⟨(fun q => by rw [q, hL] at ho; cases ho), (fun q => by rw [q, hp0] at ho; cases ho), (fun q => by rw [q, hi0] at ho; cases ho)⟩
  have hsz' : (its ++ [Value.ref T0].toArray).size = ps.length + 1 := by simp [hszi]
  generalize hps' : ps ++ [(([] : Sg), lvl)] = ps' at hall
  have hps'l : ps'.length = ps.length + 1 := by rw [← hps']; simp
  have hfl' : (xsOf ps').flatten.length ≤ 1000 := by rw [← hps']; simp [xsOf] at hfl ⊢; exact hfl
  generalize its ++ [Value.ref T0].toArray = itx at hlcl hlcl₂ hall hsz' ⊢
  refine for_walk' (Walks.list hh I lc hlcI itx) (neInv s₀ s₁ L lp I li lvl K ps') ?_ ⟨hst0, hlcl₂⟩ ?_ ?_ ?_
  · rintro i s₃ s₄ ⟨kvs, pa, ia, lj, xsP, xsI, X₃, K₃, hj1, hj2, hj3, hj4, hj5, aP, aI, bI, hn, z1, z2, z3, oj, hoj⟩ KK g
    exact ⟨kvs, pa, ia, lj, xsP, xsI, X₃.then KK (by simpa using hI₀) (by simpa using hLI) (by simpa using hpI) (by simpa using hj4), K₃.absorb (W' := [I]) (fun d hd => .inr (by rw [List.mem_singleton.mp hd]; exact hIn)) KK, hj1, hj2, hj3, hj4, hj5, aP, aI.mono fun v x r => r.keep KK (by simp), bI, hn, z1, z2, z3, oj, KK.keep li oj (by simpa using hiI) hoj⟩
  · exact ⟨kvs, #[], #[], li, [], [], X₁.back B₂, B₂.kp _, .inl rfl, hiL, hip, hiI, hi0, .nil, .nil, (fun y hy => by cases hy), rfl, Nat.le_refl _, Nat.le_refl _, by simp [xsOf], by obtain ⟨n, q⟩ := X₁.ilist; exact ⟨_, B₂.keep _ _ q⟩⟩
  · rintro i v s₃ hi hv ⟨hit, hlc₃⟩ ⟨kvs, pa, ia, lj, xsP, xsI, X₃, K₃, hj1, hj2, hj3, hj4, hj5, aP, aI, bI, hn, z1, z2, z3, oj, hoj⟩
    rw [hsz'] at hi
    obtain ⟨⟨x, d⟩, hx, hnt⟩ := hall.get' (by rw [Array.getElem?_toList]; exact hv)
    obtain ⟨T, tx, td, rfl, hTn, hT⟩ := hnt.keep K₃ (fun d hd => .inl hd)
    refine wpAny_letOwnedTupleGo_listiter hit ?_
    refine assign_pair hh hT fun s₄ B₄ => ?_
    have X₄ := X₃.back B₄
    have K₄ := K₃.then B₄
    refine NV.store hL hpL hj2 X₄ (by decide) (by decide) (by decide) (by kernel_rfl) fun s₅ X₅ KL₅ => ?_
    refine NV.store hL hpL hj2 X₅ (by decide) (by decide) (by decide) (by kernel_rfl) fun s₆ X₆ KL₆ => ?_
    have KL : Kp [L] s₄ s₆ := KL₅.trans KL₆
    have K₆ : Kp [L, lp, li] s₁ s₆ := K₄.absorb (W' := [L]) (by simp) KL
    have K₃₆ : Kp [L] s₃ s₆ := (B₄.kp [L]).trans KL
    have aI₆ : All2 (NTup [L, lp, lj, I] s₆.heap) ia.toList xsI := aI.mono fun v x r => r.keep K₃₆ (by simp)
    have hlet : lk (put (put kvs "letter" (.str ⟨x.toArray⟩ tx)) "deep" (.int (d : Nat) td)) "letter" = some (.str ⟨x.toArray⟩ tx) := by rw [lk_put_ne (by decide), lk_put_self]
    have hdee : lk (put (put kvs "letter" (.str ⟨x.toArray⟩ tx)) "deep" (.int (d : Nat) td)) "deep" = some (.int (d : Nat) td) := lk_put_self _ _ _
    generalize put (put kvs "letter" (.str ⟨x.toArray⟩ tx)) "deep" (.int (d : Nat) td) = kv at X₆ hlet hdee
    obtain ⟨tlv, hlv₆⟩ := X₆.level
    have hdrop : ps'.drop i = (x, d) :: ps'.drop (i + 1) := by
      have hi' : i < ps'.length := by omega
      rw [List.drop_eq_getElem_cons hi']
      have : ps'[i]? = some ps'[i] := List.getElem?_eq_getElem hi'
      rw [hx] at this
      rw [← Option.some.inj this]
    have hxfl : (xsOf ((x, d) :: ps'.drop (i + 1))).flatten.length = x.length + (xsOf (ps'.drop (i + 1))).flatten.length := by simp [xsOf]
    rw [hdrop] at hn z3
    rw [hxfl] at z3
    have keepF : ∀ {s' : Shared}, Kp [L, lp, lj] s₃ s' → ∀ b ∈ [I, lc], ∀ o, s₃.heap.get? b = some o → s'.heap.get? b = some o := by
      intro s' KK b hb o e
      refine KK.keep b o ?_ e
      simp only [List.mem_cons, List.not_mem_nil, or_false] at hb ⊢
      simp only [List.mem_cons, List.not_mem_nil, or_false, not_or] at hlcW
      rcases hb with rfl | rfl
      · rintro (q | q | q)
        · exact hLI q.symm
        · exact hpI q.symm
        · exact hj4 q.symm
      · rintro (q | q | q)
        · exact hlcW.1 q
        · exact hlcW.2.1 q
        · rcases hj1 with e1 | e1
          · exact hlcW.2.2 (q.trans e1)
          · obtain ⟨o', ho', _⟩ := hlcl
            rw [q, e1] at ho'; cases ho'
    have absj : ∀ {s' s'' : Shared}, Kp [L, lp, li] s₁ s' → Kp [lj] s' s'' → Kp [L, lp, li] s₁ s'' := by
      intro s' s'' k1 k2
      refine k1.absorb (fun e he => ?_) k2
      rw [List.mem_singleton.mp he]
      rcases hj1 with e1 | e1
      · left; rw [e1]; simp
      · exact .inr e1
    refine wpAny_execs_cons (wpAny_If (wpAny_isTrue_Compare1 ?_))
    refine ldA (L := L) (by kernel_rfl) (by kernel_rfl) rfl X₆.ns hdee ?_
    refine ldA (L := L) (by kernel_rfl) (by kernel_rfl) rfl X₆.ns hlv₆ ?_
    refine ne_int (wpAny_truthy_bool ?_)
    by_cases hdl : d = lvl
    rotate_left
    · rw [if_pos (by simp; omega)]
      have hmem : (x, d) ∈ ps := by
        have h1 : (x, d) ∈ ps' := List.mem_of_getElem? hx
        rw [← hps'] at h1
        rcases List.mem_append.mp h1 with h1 | h1
        · exact h1
        · simp at h1; exact absurd h1.2 hdl
      have hb := hlv _ hmem
      refine wpAny_execs_cons (e_append (L := L) (l := lj) (its := ia) (by kernel_rfl) (by kernel_rfl) rfl X₆.ns X₆.inner X₆.ilist (by rw [sizeLine_eq]; omega) rfl rfl rfl (by kernel_rfl) (by kernel_rfl) ?_)
      refine e_tuple (sp_cons (ldA (L := L) (by kernel_rfl) (by kernel_rfl) rfl X₆.ns hlet (sp_cons (ldA (L := L) (by kernel_rfl) (by kernel_rfl) rfl X₆.ns hdee (sp_nil ⟨by size_fits, ?_⟩)))))
      have Bp : Back s₆ { s₆ with heap := s₆.heap.push { cls := .type "tuple", data := .seq [Value.str ⟨x.toArray⟩ tx, Value.int (d : Nat) td].toArray } } := ⟨fun b o e => Heap.get?_push_of_some _ e, rfl⟩
      have X₇ := X₆.back Bp
      refine ⟨X₇.ilist, fun s₈ K₈ g₈ l₈ => ?_⟩
      have hTnew : s₆.heap.get? s₆.heap.objs.size = none := Heap.get?_none_of_le (Nat.le_refl _)
      have hIal : ∃ o, s₆.heap.get? I = some o := by obtain ⟨o, ho, _⟩ := hit; exact ⟨o, K₃₆.keep I o (by simpa using Ne.symm hLI) ho⟩
      refine wpAny_execs_cons (wpAny_Continue ?_)
      refine ⟨⟨kv, pa, ia.push _, lj, xsP, xsI ++ [(x, d)], ⟨X₇.kp.absorb (fun e he => .inr (by rw [List.mem_singleton.mp he]; exact hj5)) K₈, X₇.ns.at fun o e => K₈.keep _ o (by simpa using Ne.symm hj2) e, X₇.level, X₇.parts, X₇.inner, list_at X₇.plist K₈ (by simpa using Ne.symm hj3), l₈⟩,
        absj (K₆.then Bp) K₈, hj1, hj2, hj3, hj4, hj5, aP, ?_, ?_, ?_, by simp; omega, by omega, ?_, ?_⟩, keepF (((K₃₆.absorb (W := [L]) (by simp) (Bp.kp [])).absorb (W := [L]) (W' := []) (by simp) (Kp.refl [] _)) |> fun k => ⟨fun b o hb e => K₈.keep b o (by simp only [List.mem_cons, List.not_mem_nil, or_false, not_or] at hb ⊢; exact hb.2.2) (k.keep b o (by simp only [List.mem_cons, List.not_mem_nil, or_false, not_or] at hb ⊢; exact hb.1) e), K₈.os.trans k.os, fun q => K₈.bare (k.bare q)⟩)⟩
      · rw [Array.toList_push]
        refine All2.snoc (aI₆.mono fun v x r => (r.keep (Bp.kp []) (by simp)).keep K₈ (by simp)) ?_
        refine NTup.keep (s := { s₆ with heap := s₆.heap.push { cls := .type "tuple", data := .seq [Value.str ⟨x.toArray⟩ tx, Value.int (d : Nat) td].toArray } }) ⟨s₆.heap.objs.size, tx, td, rfl, ?_, ⟨_, Heap.get?_push_size _ rfl, rfl, _, rfl⟩⟩ K₈ (by simp)
        simp only [List.mem_cons, List.not_mem_nil, or_false, not_or]
        exact ⟨ns_ne X₆.ns hTnew, ne_none X₆.plist hTnew, ne_none X₆.ilist hTnew, fun q => by obtain ⟨o, ho⟩ := hIal; rw [q, ho] at hTnew; cases hTnew⟩
      · intro y hy
        rcases List.mem_append.mp hy with h1 | h1
        · exact bI y h1
        · simp at h1; subst h1; exact ⟨by omega, hb.2⟩
      · rw [← hn]
        show _ = (if d ≠ lvl then _ else _)
        rw [if_pos hdl]
      · have : (xsOf (xsI ++ [(x, d)])).flatten.length = (xsOf xsI).flatten.length + x.length := by simp [xsOf]
        omega
      · by_cases hq : li = lj
        · obtain ⟨n, q⟩ := l₈
          exact ⟨_, by rw [hq]; exact q⟩
        · exact ⟨oj, K₈.keep li oj (by simpa using hq) (Bp.keep _ _ (K₃₆.keep li oj (by simpa using hiL) hoj))⟩
    · rw [if_neg (by simp; omega)]
      refine wpAny_execs_nil ?_
      refine wpAny_execs_cons ?_
      show wpAny (model PR w) A (exec ifInner (En 12 pm doc cd L a)) _ NoE s₆
      refine ne_if hu G hf hrec hp0 hpL hj3 X₆ aP aI₆ bI (by omega) (by omega) (by omega) fun s₇ pa₇ X₇ KP₇ aP₇ hsz₇ => ?_
      have KP₇' : Kp [L, lp, lj] s₃ s₇ := ⟨fun b o hb e => KP₇.keep b o (by simp only [List.mem_cons, List.not_mem_nil, or_false, not_or] at hb ⊢; exact hb.2.1) (K₃₆.keep b o (by simp only [List.mem_cons, List.not_mem_nil, or_false, not_or] at hb ⊢; exact hb.1) e), KP₇.os.trans K₃₆.os, fun q => KP₇.bare (K₃₆.bare q)⟩
      have K₇ : Kp [L, lp, li] s₁ s₇ := K₆.absorb (W' := [lp]) (by simp) KP₇
      refine wpAny_execs_cons (st_nil (L := L) (by kernel_rfl) (by kernel_rfl) rfl X₇.ns fun s₈ lj' K₈ hlj' l₈ hns₈ => ?_)
      have hlj'₀ : s₀.heap.get? lj' = none := none_back X₇.kp (by simp) hlj'
      have hlj'₁ : s₁.heap.get? lj' = none := by
        cases e : s₁.heap.get? lj' with
        | none => rfl
        | some o =>
          exfalso
          by_cases hm : lj' ∈ [L, lp, li]
          · simp only [List.mem_cons, List.not_mem_nil, or_false] at hm
            rcases hm with q | q | q
            · exact ns_ne X₇.ns hlj' q
            · exact ne_none X₇.plist hlj' q
            · have := KP₇.keep li oj (by simpa using hip) (K₃₆.keep li oj (by simpa using hiL) hoj)
              rw [← q, hlj'] at this; cases this
          · rw [K₇.keep lj' o hm e] at hlj'; cases hlj'
      have hlj'L : lj' ≠ L := ns_ne X₇.ns hlj'
      have hlj'p : lj' ≠ lp := ne_none X₇.plist hlj'
      have hIal : ∃ o, s₇.heap.get? I = some o := by obtain ⟨o, ho, _⟩ := hit; exact ⟨o, keepF KP₇' I (by simp) o ho⟩
      have hlj'I : lj' ≠ I := fun q => by obtain ⟨o, ho⟩ := hIal; rw [q, ho] at hlj'; cases hlj'
      have X₈ : NV s₀ L lp lj' lvl pa₇ #[] _ s₈ := ⟨X₇.kp.absorb (absorb1 hL) K₈, hns₈, by obtain ⟨t, e⟩ := X₇.level; exact ⟨t, by rw [lk_put_ne (by decide)]; exact e⟩, by rw [lk_put_ne (by decide)]; exact X₇.parts, lk_put_self _ _ _, list_at X₇.plist K₈ (by simpa using hpL), l₈⟩
      have hlet₈ : lk (put kv "inner" (.ref lj')) "letter" = some (.str ⟨x.toArray⟩ tx) := by rw [lk_put_ne (by decide)]; exact hlet
      refine wpAny_execs_cons (e_append (L := L) (l := lp) (its := pa₇) (by kernel_rfl) (by kernel_rfl) rfl X₈.ns X₈.parts X₈.plist (by rw [sizeLine_eq]; omega) rfl rfl rfl (by kernel_rfl) (by kernel_rfl) ?_)
      refine ldA (L := L) (by kernel_rfl) (by kernel_rfl) rfl X₈.ns hlet₈ ⟨X₈.plist, fun s₉ K₉ g₉ l₉ => wpAny_execs_nil ?_⟩
      have KP₈ : Kp [L, lp, lj] s₃ s₉ := ⟨fun b o hb e => K₉.keep b o (by simp only [List.mem_cons, List.not_mem_nil, or_false, not_or] at hb ⊢; exact hb.2.1) (K₈.keep b o (by simp only [List.mem_cons, List.not_mem_nil, or_false, not_or] at hb ⊢; exact hb.1) (KP₇'.keep b o hb e)), K₉.os.trans (K₈.os.trans KP₇'.os), fun q => K₉.bare (K₈.bare (KP₇'.bare q))⟩
      refine ⟨⟨_, pa₇.push _, #[], lj', (if xsI = [] then xsP else xsP ++ [FK K lvl xsI]) ++ [x], [], ⟨X₈.kp.absorb (fun e he => .inr (by rw [List.mem_singleton.mp he]; exact hp0)) K₉, X₈.ns.at fun o e => K₉.keep _ o (by simpa using Ne.symm hpL) e, X₈.level, X₈.parts, X₈.inner, l₉, list_at X₈.ilist K₉ (by simpa using hlj'p)⟩,
        (K₇.absorb (W' := [L]) (by simp) K₈).absorb (W' := [lp]) (by simp) K₉, .inr hlj'₁, hlj'L, hlj'p, hlj'I, hlj'₀, ?_, .nil, (fun y hy => by cases hy), ?_, by simp, by simp; omega, ?_, ⟨oj, K₉.keep li oj (by simpa using hip) (K₈.keep li oj (by simpa using hiL) (KP₇.keep li oj (by simpa using hip) (K₃₆.keep li oj (by simpa using hiL) hoj)))⟩⟩, keepF KP₈⟩
      · rw [Array.toList_push]; exact aP₇.snoc ⟨tx, rfl⟩
      · rw [← hn]
        have e2 : nestLoop (FK K lvl) lvl ((x, d) :: ps'.drop (i + 1)) xsP xsI = nestLoop (FK K lvl) lvl (ps'.drop (i + 1)) ((if xsI = [] then xsP else xsP ++ [FK K lvl xsI]) ++ [x]) [] := by
          show (if d ≠ lvl then _ else _) = _
          rw [if_neg (by simpa using hdl)]
        rw [e2]
      · have hF := FK_flat K lvl xsI
        have e0 : (xsOf ([] : List (Sg × Nat))).flatten.length = 0 := rfl
        rw [e0]
        split
        · simp only [List.flatten_append, List.length_append, List.flatten_cons, List.flatten_nil, List.length_nil]; omega
        · simp only [List.flatten_append, List.length_append, List.flatten_cons, List.flatten_nil, List.length_nil]; omega
  · rintro s₃ ⟨kvs, pa, ia, lj, xsP, xsI, X₃, K₃, hj1, hj2, hj3, hj4, hj5, aP, aI, bI, hn, z1, z2, z3, oj, hoj⟩
    rw [hsz', ← hps'l, List.drop_of_length_le (Nat.le_refl _)] at hn
    exact h s₃ kvs pa xsP X₃.ns X₃.kp X₃.parts X₃.level X₃.plist aP (by rw [hps']; exact hn) (by omega)
end
end Mine
end

/-! part NE3 -/
section
set_option maxRecDepth 100000
open PySem PySem.W PyProof.Rows PySem.Calls
namespace Mine

section
variable {w : World} {mg mb : Str → Option Value}

theorem sp_nested {f : Addr} (ha : mg "_law_nested" = some (.ref f)) : ∀ (K : Nat) (A : Around) (s : Shared) (l : Addr) (its : Array Value) (ps : List (Sg × Nat)) (lvl : Nat) (t : Tok) (Q : Value → Shared → Prop), A.handled = none → A.depth + K + 1 < recursionLimit → A.units + 3 * K + 6 < cLine → GL w s.heap mg mb →
    s.heap.IsList l its → All2 (TupIn s.heap) its.toList ps → ps.length ≤ 50 → (xsOf ps).flatten.length ≤ 1000 → (∀ y ∈ ps, lvl ≤ y.2 ∧ y.2 ≤ lvl + K) → (∀ s' t, Kp [] s s' → Q (.str ⟨(nest K ps lvl).toArray⟩ t) s') →
    wpAny (model PR w) A (call (.ref f) [.ref l, .int (lvl : Nat) t]) Q NoE s
  | K, A, s, l, its, ps, lvl, t, Q, hh, hroom, hu, G, hl, hps, hsz, hfl, hlv, h => by
    have hrec' : ∀ (A' : Around) (s₀ : Shared), A'.handled = none → A'.depth = A.depth + 1 → A'.units = A.units + 3 → GL w s₀.heap mg mb → Rec w A' s₀ f K lvl := by
      intro A' s₀ h1 h2 h3 G₀ s' li ia xs t' Q' hne hx K' hli ha' hsz' hfl' hq
      cases K with
      | zero =>
        exfalso
        cases xs with
        | nil => exact hne rfl
        | cons y r => have := hx y (by simp); omega
      | succ k =>
        have G' := G₀.keep fun b o q => K'.keep b o (by simp) q
        have e : ((lvl : Int) + 1) = ((lvl + 1 : Nat) : Int) := by omega
        rw [e]
        exact sp_nested ha k A' s' li ia xs (lvl + 1) t' Q' h1 (by omega) (by omega) G' hli ha' hsz' hfl' (fun y hy => by have := hx y hy; omega) hq
    refine enter 12 (by simp [theDefs]) G (by omega) ha (binds := [("items", .ref l), ("level", .int (lvl : Nat) t)]) ?b ?c ?l (fun pm doc cd h₀ B sz hns => ?_) ?co ?g ?k
    case b => intro _ _ _; kernel_rfl
    case c => decide +kernel
    case l => kernel_rfl
    case co => kernel_rfl
    case g => kernel_rfl
    case k => kernel_rfl
    have hA : (A.deeper (En 12 pm doc cd s.heap.objs.size f)).handled = none := hh
    have hd : (A.deeper (En 12 pm doc cd s.heap.objs.size f)).depth = A.depth + 1 := rfl
    have huu : (A.deeper (En 12 pm doc cd s.heap.objs.size f)).units = A.units + 3 := rfl
    generalize A.deeper (En 12 pm doc cd s.heap.objs.size f) = A' at hA hd huu ⊢
    have hLn : s.heap.get? s.heap.objs.size = none := Heap.get?_none_of_le (Nat.le_refl _)
    generalize s.heap.objs.size = L at hLn hns ⊢
    have ei : lk [(Str.ofString "items", Value.ref l), (Str.ofString "level", Value.int (lvl : Nat) t)].reverse "items" = some (.ref l) := by kernel_rfl
    have el : lk [(Str.ofString "items", Value.ref l), (Str.ofString "level", Value.int (lvl : Nat) t)].reverse "level" = some (.int (lvl : Nat) t) := by kernel_rfl
    have k₁ : Kp [] s { s with heap := h₀, toks := s.toks + [(Str.ofString "items", Value.ref l), (Str.ofString "level", Value.int (lvl : Nat) t)].length } := ⟨fun b o _ e => B.keep b o e, rfl, fun q => q⟩
    have hns₁ : ({ s with heap := h₀, toks := s.toks + [(Str.ofString "items", Value.ref l), (Str.ofString "level", Value.int (lvl : Nat) t)].length } : Shared).heap.Ns L (lk [(Str.ofString "items", Value.ref l), (Str.ofString "level", Value.int (lvl : Nat) t)].reverse) := hns
    generalize ({ s with heap := h₀, toks := s.toks + [(Str.ofString "items", Value.ref l), (Str.ofString "level", Value.int (lvl : Nat) t)].length } : Shared) = s₁ at k₁ hns₁ ⊢
    generalize [(Str.ofString "items", Value.ref l), (Str.ofString "level", Value.int (lvl : Nat) t)].reverse = kv at hns₁ ei el
    refine wpAny_execs_cons (st_nil (L := L) (by kernel_rfl) (by kernel_rfl) rfl hns₁ fun s₂ lp K₂ hlp l₂ hns₂ => ?_)
    have k₂ := k₁.absorb (absorb1 hLn) K₂
    have hp0 : s.heap.get? lp = none := none_back k₁ (by simp) hlp
    have hpL : lp ≠ L := ns_ne hns₁ hlp
    refine wpAny_execs_cons (st_nil (L := L) (by kernel_rfl) (by kernel_rfl) rfl hns₂ fun s₃ li K₃ hli l₃ hns₃ => ?_)
    have k₃ := k₂.absorb (absorb1 hLn) K₃
    have hi0 : s.heap.get? li = none := none_back k₂ (by simp) hli
    have hiL : li ≠ L := ns_ne hns₂ hli
    have hip : li ≠ lp := ne_none l₂ hli
    have X₃ : NV s L lp li lvl #[] #[] _ s₃ := ⟨k₃, hns₃, ⟨t, by rw [lk_put_ne (by decide), lk_put_ne (by decide)]; exact el⟩, by rw [lk_put_ne (by decide), lk_put_self], lk_put_self _ _ _, list_at l₂ K₃ (by simpa using hpL), l₃⟩
    refine wpAny_execs_cons ?_
    show wpAny (model PR w) A' (exec (NS 2) (En 12 pm doc cd L f)) _ NoE s₃
    refine ne_loop hA (by omega) G ha (hrec' A' s hA hd huu G) hLn hp0 hi0 hpL hiL hip hl hps hsz hfl hlv X₃ (by rw [lk_put_ne (by decide), lk_put_ne (by decide)]; exact ei) fun s₄ kv₄ pa xsP hns₄ k₄ hpa hlev l₄ aP hxs hpsz => ?_
    obtain ⟨tl, hlev⟩ := hlev
    have hfin : nest K ps lvl = finish lvl xsP := by rw [nest_FK, hxs]
    have hflat : xsP.flatten.length ≤ 1000 := by
      have h1 := nest_flat K ps lvl
      rw [hfin, finish_flat] at h1
      omega
    refine wpAny_execs_cons (wpAny_Return_some (e_join rfl rfl rfl ?_))
    refine wpAny_IfExp (wpAny_isTrue_value (wpAny_BinOp ?_))
    refine ldA (s := { s₄ with toks := s₄.toks + 1 }) (L := L) (by kernel_rfl) (by kernel_rfl) rfl hns₄ hlev ?_
    refine wpAny_Constant_int (mod_int (by decide) ?_)
    refine truthy_int ?_
    have hmod : ((lvl : Int).fmod 2 != 0) = decide (lvl % 2 = 1) := by
      rw [Int.fmod_eq_emod_of_nonneg _ (by decide)]
      by_cases q : lvl % 2 = 1
      · rw [decide_eq_true q]; simp; omega
      · rw [decide_eq_false q]; simp; omega
    rw [hmod]
    have out : ∀ {s' : Shared} {xs : List Sg}, Kp [] s s' → finish lvl xsP = xs.flatten → xs.flatten.length ≤ 1000 → ∀ t k, Q (.str (catS (xs.map fun x => ⟨x.toArray⟩)) t) { s' with toks := k } := by
      intro s' xs hk hx _ t k
      rw [cat_sgs, ← hx, ← hfin]
      exact h _ t (hk.tok k)
    by_cases q : lvl % 2 = 1
    · rw [if_pos (by simpa using q)]
      have hfx : finish lvl xsP = xsP.reverse.flatten := by unfold finish; rw [if_pos q]
      have hfl2 : xsP.reverse.flatten.length ≤ 1000 := by rw [← hfx, finish_flat]; exact hflat
      refine e_rev (ldA (s := { s₄ with toks := s₄.toks + 1 + 1 + 1 }) (L := L) (by kernel_rfl) (by kernel_rfl) rfl hns₄ hpa ?_)
      refine ⟨lp, pa, rfl, l₄.isList, by omega, fun s₅ D B₅ hD l₅ => ⟨D, _, xsP.reverse.map (fun x => ⟨x.toArray⟩), rfl, l₅.isList, ?_, ?_, ?_⟩⟩
      · have := strOf_sgs aP.reverse
        simpa using this
      · rw [sum_sgs]; exact hfl2
      · intro t k
        exact out (s' := s₅) (k₄.trans ⟨fun b o _ e => B₅.keep b o e, by rw [B₅.rest], fun q => by rw [B₅.rest]; exact q⟩) hfx hfl2 t k
    · rw [if_neg (by simpa using q)]
      have hfx : finish lvl xsP = xsP.flatten := by unfold finish; rw [if_neg q]
      refine ldA (s := { s₄ with toks := s₄.toks + 1 + 1 + 1 }) (L := L) (by kernel_rfl) (by kernel_rfl) rfl hns₄ hpa ?_
      exact ⟨lp, pa, _, rfl, l₄.isList, strOf_sgs aP, by rw [sum_sgs]; exact hflat, fun t k => out k₄ hfx hflat t k⟩
end
end Mine
end

/-! part LA1 -/
section
set_option maxRecDepth 100000
open PySem PySem.W PyProof.Rows PySem.Calls
namespace Mine

section
variable {w : World} {A : Around} {s : Shared} {env : Env} {mg mb : Str → Option Value}

/-- e[i], i no slice -/
theorem e_sub {value slice : Expr} {r : Pos} {Q : Value → Shared → Prop}
    (h : wpAny (model PR w) A (eval value env) (fun o s₁ => wpAny (model PR w) A (eval slice env) (fun i s₂ => SubscriptOn (model PR w) A o i Q NoE s₂) NoE s₁) NoE s)
    (hsub : ∀ o i, subscripted slice false o i = operate [o, i] (getItem o i) := by intro _ _; rfl) :
    wpAny (model PR w) A (eval (.Subscript value slice r) env) Q NoE s := by
  rw [eval_Subscript]
  refine wpAny_bind (wpAny_mono h (fun o s₁ h₁ => wpAny_bind (wpAny_holding (wpAny_mono h₁ (fun i s₂ h₂ => wpAny_bind (wpAny_standAt ?_)) fun _ _ x => x))) fun _ _ x => x)
  obtain ⟨T, id, hl, hT, hg⟩ := h₂
  refine wpAny_bind ?_
  rw [getitemInPython_of_ne hT.not_modules]
  refine wpAny_bind (wpAny_specialOf hT hl (wpAny_pure ?_))
  rw [hsub]
  exact wpAny_bind (wpAny_operating (wpAny_mono hg (fun r s₃ h₃ => wpAny_bind (wpAny_letTemporaryGo (wpAny_pure h₃))) fun _ _ x => x))

/-- e[i:j] of a list -/
theorem e_sliceL {value : Expr} {lower upper : Option Expr} {q r : Pos} {Q : Value → Shared → Prop}
    (h : wpAny (model PR w) A (eval value env) (fun o s₁ => wpAny (model PR w) A (evalPart lower env) (fun vl s₂ => wpAny (model PR w) A (evalPart upper env) (fun vu s₃ => ∃ l items lo hi, o = .ref l ∧ s₃.heap.IsList l items ∧ items.size ≤ 1000 ∧ IsPart vl lo ∧ IsPart vu hi ∧
      ∀ s' D, Back s₃ s' → s₃.heap.get? D = none → s'.heap.PlainList D (slicePick items lo hi none) → Q (.ref D) s') NoE s₂) NoE s₁) NoE s) :
    wpAny (model PR w) A (eval (.Subscript value (.Slice lower upper none q) r) env) Q NoE s := by
  rw [eval_Subscript]
  refine wpAny_bind (wpAny_mono h (fun o s₁ h₁ => wpAny_bind (wpAny_holding (wpAny_Slice (wpAny_mono h₁ (fun vl s₂ h₂ => wpAny_mono h₂ (fun vu s₃ h₃ => ?_) fun _ _ x => x) fun _ _ x => x)))) fun _ _ x => x)
  obtain ⟨l, its, lo, hi, rfl, hl, hsz, pl, pu, hq⟩ := h₃
  rw [evalPart_none]
  refine wpAny_pure (wpAny_bind (wpAny_standAt (wpAny_bind ?_)))
  have hT : Shared.TypeIs { s₃ with heap := s₃.heap.push { cls := .type "slice", data := .fields #[vl, vu, .none] } } (.ref l) "list" := by
    obtain ⟨o, ho, hc, _⟩ := hl
    exact ⟨o, Heap.get?_push_of_some _ ho, hc⟩
  rw [getitemInPython_of_ne hT.not_modules]
  refine wpAny_bind (wpAny_specialOf hT F.slot_list_getitem.lookup (wpAny_pure ?_))
  refine wpAny_bind (wpAny_operating (wpAny_getItem_list_slice (hl.push _) (Heap.IsSliceOf.new ..) pl pu .none (by simp) (wpAny_bind (wpAny_letTemporaryGo (wpAny_pure ?_))) (by rw [sizeLine_eq]; omega)))
  refine hq _ _ ⟨fun b o e => Heap.get?_push_of_some _ (Heap.get?_push_of_some _ e), rfl⟩ (Heap.get?_none_of_le (by rw [Heap.size_push]; exact Nat.le_succ _)) ⟨_, Heap.get?_push_size _ rfl⟩

theorem sub_list {l : Addr} {its : Array Value} {k : Int} {t : Tok} {v : Value} {Q : Value → Shared → Prop} (hl : s.heap.IsList l its) (h0 : 0 ≤ k) (hfit : k < 2 ^ 32) (hx : its[k.toNat]? = some v) (h : Q v s) : SubscriptOn (model PR w) A (.ref l) (.int k t) Q NoE s :=
  ⟨"list", _, F.slot_list_getitem.lookup, hl.typeIs, wpAny_getItem_list hl h0 (by omega) hx h⟩
theorem sub_str {x : Str} {c : Nat} {k : Int} {t u : Tok} {Q : Value → Shared → Prop} (h0 : 0 ≤ k) (hfit : k < 2 ^ 32) (hx : x.cps[k.toNat]? = some c) (h : ∀ t, Q (.str ⟨#[c]⟩ t) { s with toks := s.toks + 1 }) : SubscriptOn (model PR w) A (.str x t) (.int k u) Q NoE s := by
  refine ⟨"str", _, F.slot_str_getitem.lookup, typeIs_str _ _ _, PySem.P.getItem_str ?_ ?_ (h _)⟩
  · rw [decide_eq_false (by omega), decide_eq_false (by omega)]; rfl
  · have hlt : k.toNat < x.length := (Array.getElem?_eq_some_iff.mp hx).1
    rw [seqIndex_of h0 (by omega)]
    exact hx

/-- chr(e) -/
theorem e_chrE {e : Expr} {p r : Pos} {Q : Value → Shared → Prop} (hk : env.scope.kind = .function) (hx : env.kindOf "chr" = some .globalImplicit) (hg0 : env.globals = mainGlobals) (hb0 : env.builtins = builtinsNs)
    (G : GL w s.heap mg mb) (hs : noStar [e] = true) (h : wpAny (model PR w) A (eval e env) (fun v s₁ => ∃ (k : Nat) (t : Tok), v = .int (k : Nat) t ∧ k < 2 ^ 20 ∧ ∀ t s', Back s₁ s' → Q (.str ⟨#[k]⟩ t) s') NoE s) :
    wpAny (model PR w) A (eval (.Call (.Name "chr" p) [e] [] r) env) Q NoE s := by
  refine e_bi (id := "chr") hk hx hg0 hb0 G (by decide +kernel) (by kernel_rfl) (by decide) ?_ hs
  refine sp_cons (wpAny_mono h (fun v s₁ h₁ => sp_nil ?_) fun _ _ x => x)
  obtain ⟨k, t, rfl, hk, hq⟩ := h₁
  have hi : (decide ((k : Int) < 0) || decide ((k : Int) > 0x10FFFF)) = false := by
    rw [decide_eq_false (by omega), decide_eq_false (by omega)]; rfl
  refine P.chr_of_int hi ?_
  rw [Int.toNat_natCast]
  exact hq _ _ ⟨fun _ _ e => e, rfl⟩

/-- pile[-1] -/
theorem e_last {L l : Addr} {x : Str} {k : Nat} {p p1 p2 r : Pos} {kvs : List (Str × Value)} {its : Array Value} {v : Value} {Q : Value → Shared → Prop} (hk : env.scope.kind = .function) (hl : env.kindOf x = some .local) (hL : env.locals = L) (hn : s.heap.Ns L (lk kvs))
    (hv : lk kvs x = some (.ref l)) (hil : s.heap.IsList l its) (hsz : its.size < 2 ^ 32) (hx : its.toList.getLast? = some v) (h : ∀ s', Back s s' → Q v s') (hd : (x == ("__debug__" : Str)) = false := by decide) :
    wpAny (model PR w) A (eval (.Subscript (.Name x p) (.UnaryOp .USub (.Constant (.int 1) k p1) p2) r) env) Q NoE s := by
  refine e_sub (ldA hk hl hL hn hv (wpAny_UnaryOp (wpAny_Constant_int (PySem.P.neg_int ?_))) hd)
  have hne : its.toList ≠ [] := fun e => by rw [e] at hx; cases hx
  have hpos : 0 < its.size := by
    cases q : its.toList with
    | nil => exact absurd q hne
    | cons a r => have := congrArg List.length q; simp at this; omega
  refine ⟨"list", _, F.slot_list_getitem.lookup, hil.typeIs, wpAny_getItem_list_neg hil (by decide) (by omega) (by decide) ?_ (h _ ⟨fun _ _ e => e, rfl⟩)⟩
  rw [List.getLast?_eq_getElem?, Array.length_toList, Array.getElem?_toList] at hx
  rw [← hx]
  congr 1
  omega

def LB (i : Nat) : Stmt := (D 13).body.getD i noSt
def lbody : List Stmt := forBody (LB 5)
abbrev Ev (pm doc : Value) (cd L a : Addr) : Env := En 13 pm doc cd L a
def dig (n : Int) : Nat := (n % 5).toNat
theorem dig_lt (n : Int) : dig n < 5 := by unfold dig; omega
theorem dig_mod (n : Int) : n.fmod 5 = (dig n : Int) := by
  rw [Int.fmod_eq_emod_of_nonneg _ (by decide)]
  unfold dig; omega

section
variable {pm doc : Value} {cd L a : Addr} {kvs : List (Str × Value)}
/-- v % 5 -/
theorem v_mod {n : Int} {t : Tok} {p q p' : Pos} {k : Nat} {Q : Value → Shared → Prop} (hn : s.heap.Ns L (lk kvs)) (hv : lk kvs "v" = some (.int n t)) (h : ∀ t s', Back s s' → Q (.int (dig n : Nat) t) s') :
    wpAny (model PR w) A (eval (.BinOp (.Name "v" p) .Mod (.Constant (.int 5) k q) p') (Ev pm doc cd L a)) Q NoE s := by
  refine wpAny_BinOp (ldA (L := L) (by kernel_rfl) (by kernel_rfl) rfl hn hv (wpAny_Constant_int (mod_int (by decide) ?_)))
  rw [dig_mod]
  exact h _ _ ⟨fun _ _ e => e, rfl⟩
/-- v % 5 == c -/
theorem v_test {n : Int} {t : Tok} {c : Nat} {p q p' q' r : Pos} {k k' : Nat} {whole : Sem Value} {Q : Bool → Shared → Prop} (hn : s.heap.Ns L (lk kvs)) (hv : lk kvs "v" = some (.int n t)) (h : ∀ s', Back s s' → Q (decide (dig n = c)) s') :
    wpAny (model PR w) A (isTrue (.Compare (.BinOp (.Name "v" p) .Mod (.Constant (.int 5) k q) p') [.Eq] [.Constant (.int (c : Nat)) k' q'] r) (Ev pm doc cd L a) whole) Q NoE s := by
  refine wpAny_isTrue_Compare1 (v_mod hn hv fun t s₁ B₁ => wpAny_Constant_int (eq_int (wpAny_truthy_bool ?_)))
  have : (((dig n : Nat) : Int) == ((c : Nat) : Int)) = decide (dig n = c) := by
    by_cases e : dig n = c
    · rw [decide_eq_true e, e]; simp
    · rw [decide_eq_false e]; simp; omega
  rw [this]
  exact h _ (B₁.trans ⟨fun _ _ e => e, rfl⟩)

def rowE : Expr := match lbody.head? with | some (.Expr (.Call _ [e] _ _) _) => e | _ => .Constant .none 0 ⟨0, 0, 0, 0⟩
theorem row_elt {n : Int} {i : Nat} {t u : Tok} {Q : Value → Shared → Prop} (hi : i < 100) (G : GL w s.heap mg mb) (hn : s.heap.Ns L (lk kvs)) (hv : lk kvs "v" = some (.int n t)) (hp : lk kvs "place" = some (.int (i : Nat) u)) (h : ∀ t s', Back s s' → Q (.str ⟨#[sgn i (dig n)]⟩ t) s') :
    wpAny (model PR w) A (eval rowE (Ev pm doc cd L a)) Q NoE s := by
  show wpAny (model PR w) A (eval (.Subscript (.List [_, _, _, _, _] _) (.BinOp (.Name "v" _) .Mod _ _) _) (Ev pm doc cd L a)) Q NoE s
  refine e_sub (e_list ?_)
  refine sp_cons (e_chr (k := 8234) (by kernel_rfl) (by kernel_rfl) rfl rfl G (by decide) fun t1 => ?_)
  refine sp_cons (e_chr (k := 8235) (by kernel_rfl) (by kernel_rfl) rfl rfl G (by decide) fun t2 => ?_)
  refine sp_cons (e_chr (k := 8236) (by kernel_rfl) (by kernel_rfl) rfl rfl G (by decide) fun t3 => ?_)
  refine gen_st (s := s) ⟨fun _ _ e => e, rfl⟩ fun s₁ B₁ => ?_
  have G₁ := G.keep B₁.keep
  have hn₁ := hn.at fun o e => B₁.keep _ o e
  refine sp_cons (e_chrE (by kernel_rfl) (by kernel_rfl) rfl rfl G₁ rfl (wpAny_BinOp (wpAny_Constant_int (ldA (s := { s₁ with toks := s₁.toks + 1 }) (L := L) (by kernel_rfl) (by kernel_rfl) rfl hn₁ hp (wpAny_add_int ?_)))))
  refine ⟨65 + i, _, by rw [Int.natCast_add]; rfl, by omega, fun t4 s₂ B₂ => ?_⟩
  have B₂' : Back s s₂ := B₁.trans ⟨B₂.keep, B₂.rest⟩
  have G₂ := G.keep B₂'.keep
  have hn₂ := hn.at fun o e => B₂'.keep _ o e
  refine sp_cons (e_chrE (by kernel_rfl) (by kernel_rfl) rfl rfl G₂ rfl (wpAny_BinOp (wpAny_Constant_int (ldA (s := { s₂ with toks := s₂.toks + 1 }) (L := L) (by kernel_rfl) (by kernel_rfl) rfl hn₂ hp (wpAny_add_int ?_)))))
  refine ⟨119808 + i, _, by rw [Int.natCast_add]; rfl, by omega, fun t5 s₃ B₃ => ?_⟩
  have B₃' : Back s s₃ := B₂'.trans ⟨B₃.keep, B₃.rest⟩
  refine sp_nil ⟨by size_fits, ?_⟩
  have hn₃ := hn.at fun o e => B₃'.keep _ o e
  have Bp : Back s₃ { s₃ with heap := s₃.heap.push { cls := .type "list", data := .seq [Value.str ⟨#[8234]⟩ t1, Value.str ⟨#[8235]⟩ t2, Value.str ⟨#[8236]⟩ t3, Value.str ⟨#[65 + i]⟩ t4, Value.str ⟨#[119808 + i]⟩ t5].toArray } } := ⟨fun b o e => Heap.get?_push_of_some _ e, rfl⟩
  refine v_mod (hn₃.at fun o e => Bp.keep _ o e) hv fun t6 s₅ B₅ => ?_
  have hd := dig_lt n
  have hl : s₅.heap.IsList s₃.heap.objs.size [Value.str ⟨#[8234]⟩ t1, Value.str ⟨#[8235]⟩ t2, Value.str ⟨#[8236]⟩ t3, Value.str ⟨#[65 + i]⟩ t4, Value.str ⟨#[119808 + i]⟩ t5].toArray := ⟨_, B₅.keep _ _ (Heap.get?_push_size _ rfl), rfl, _, rfl⟩
  have hfin : ∀ t s', Back s₅ s' → Q (.str ⟨#[sgn i (dig n)]⟩ t) s' := fun t s' B => h t s' (((B₃'.trans Bp).trans B₅).trans B)
  have h5 : dig n = 0 ∨ dig n = 1 ∨ dig n = 2 ∨ dig n = 3 ∨ dig n = 4 := by omega
  rcases h5 with e | e | e | e | e <;> rw [e] at hfin ⊢
  · exact sub_list hl (by decide) (by decide) (v := .str ⟨#[8234]⟩ t1) rfl (hfin t1 s₅ (Back.refl _))
  · exact sub_list hl (by decide) (by decide) (v := .str ⟨#[8235]⟩ t2) rfl (hfin t2 s₅ (Back.refl _))
  · exact sub_list hl (by decide) (by decide) (v := .str ⟨#[8236]⟩ t3) rfl (hfin t3 s₅ (Back.refl _))
  · exact sub_list hl (by decide) (by decide) (v := .str ⟨#[65 + i]⟩ t4) rfl (hfin t4 s₅ (Back.refl _))
  · exact sub_list hl (by decide) (by decide) (v := .str ⟨#[119808 + i]⟩ t5) rfl (hfin t5 s₅ (Back.refl _))
end
end
end Mine
end

/-! part LA2 -/
section
set_option maxRecDepth 100000
open PySem PySem.W PyProof.Rows PySem.Calls
namespace Mine

def pileL (st : St) : List Nat := 0 :: st.pile.reverse
theorem pileL_last (st : St) : (pileL st).getLast? = some (top st.pile) := by
  unfold pileL top
  cases st.pile with
  | nil => rfl
  | cons a r =>
    show (0 :: (a :: r).reverse).getLast? = some a
    rw [List.reverse_cons, ← List.cons_append, List.getLast?_concat]
def plainL (st : St) : List (Sg × Nat) := st.plain.map fun x => ([x.1], x.2)

section
variable {w : World} {A : Around} {s s₀ : Shared} {mg mb : Str → Option Value} {pm doc : Value} {cd L a rl pj ql : Addr} {kvs : List (Str × Value)} {rA pA qA : Array Value} {sp : Nat}

structure WV (s₀ : Shared) (L rl pj ql : Addr) (rA pA qA : Array Value) (sp : Nat) (kvs : List (Str × Value)) (s : Shared) : Prop where
  kp : Kp [] s₀ s
  ns : s.heap.Ns L (lk kvs)
  row : lk kvs "row" = some (.ref rl)
  pile : lk kvs "pile" = some (.ref pj)
  plain : lk kvs "plain" = some (.ref ql)
  spare : ∃ t, lk kvs "spare" = some (.int (sp : Nat) t)
  rlist : s.heap.PlainList rl rA
  plist : s.heap.PlainList pj pA
  qlist : s.heap.PlainList ql qA
theorem WV.then {s' : Shared} {W : List Addr} (X : WV s₀ L rl pj ql rA pA qA sp kvs s) (K : Kp W s s') (hW : ∀ d ∈ W, s₀.heap.get? d = none) (hL : L ∉ W) (h1 : rl ∉ W) (h2 : pj ∉ W) (h3 : ql ∉ W) : WV s₀ L rl pj ql rA pA qA sp kvs s' :=
  ⟨X.kp.absorb (fun d hd => .inr (hW d hd)) K, X.ns.at fun o e => K.keep _ o hL e, X.row, X.pile, X.plain, X.spare, list_at X.rlist K h1, list_at X.plist K h2, list_at X.qlist K h3⟩
theorem WV.back {s' : Shared} (X : WV s₀ L rl pj ql rA pA qA sp kvs s) (B : Back s s') : WV s₀ L rl pj ql rA pA qA sp kvs s' := X.then (B.kp []) (by simp) (by simp) (by simp) (by simp) (by simp)
structure Apart (L rl pj ql : Addr) : Prop where
  rL : rl ≠ L
  pL : pj ≠ L
  qL : ql ≠ L
  rp : rl ≠ pj
  rq : rl ≠ ql
  pq : pj ≠ ql
theorem WV.store {x : Str} {v : Value} {Q : Unit → Shared → Prop} (hL : s₀.heap.get? L = none) (ap : Apart L rl pj ql) (X : WV s₀ L rl pj ql rA pA qA sp kvs s) (h1 : x ≠ "row") (h2 : x ≠ "pile") (h3 : x ≠ "plain") (h4 : x ≠ "spare") (hl : (Ev pm doc cd L a).kindOf x = some .local)
    (h : ∀ s', WV s₀ L rl pj ql rA pA qA sp (put kvs x v) s' → Kp [L] s s' → Q () s') : wpAny (model PR w) A (storeName (Ev pm doc cd L a) x v) Q NoE s := by
  refine stA (L := L) hl (by kernel_rfl) rfl X.ns fun s' K g hn => h s' ⟨X.kp.absorb (absorb1 hL) K, hn, ?_, ?_, ?_, ?_, list_at X.rlist K (by simpa using ap.rL), list_at X.plist K (by simpa using ap.pL), list_at X.qlist K (by simpa using ap.qL)⟩ K
  · rw [lk_put_ne (Ne.symm h1)]; exact X.row
  · rw [lk_put_ne (Ne.symm h2)]; exact X.pile
  · rw [lk_put_ne (Ne.symm h3)]; exact X.plain
  · obtain ⟨t, e⟩ := X.spare
    exact ⟨t, by rw [lk_put_ne (Ne.symm h4)]; exact e⟩

theorem NTup.add {Wx : List Addr} {h : Heap} {v : Value} {x : Sg × Nat} {d : Addr} (H : NTup Wx h v x) (hd : d ∈ Wx ∨ h.get? d = none) : NTup (d :: Wx) h v x := by
  obtain ⟨T, t, u, rfl, hT, o, ho, r⟩ := H
  refine ⟨T, t, u, rfl, ?_, o, ho, r⟩
  rw [List.mem_cons, not_or]
  refine ⟨fun q => ?_, hT⟩
  rcases hd with h1 | h1
  · exact hT (q ▸ h1)
  · rw [← q, ho] at h1; cases h1
theorem NTup.sub {W W' : List Addr} {h : Heap} {v : Value} {x : Sg × Nat} (H : NTup W h v x) (hs : ∀ d ∈ W', d ∈ W) : NTup W' h v x := by
  obtain ⟨T, t, u, rfl, hT, r⟩ := H
  exact ⟨T, t, u, rfl, fun q => hT (hs _ q), r⟩
/-- the If of the turn -/
def turnS : Stmt := lbody.getD 1 noSt

theorem law_turn {n : Int} {i : Nat} {t u : Tok} {st : St} {Wx : List Addr} {Q : Flow → Shared → Prop} (hi : i < 20) (G : GL w s₀.heap mg mb) (hL : s₀.heap.get? L = none) (hp0 : s₀.heap.get? pj = none) (hq0 : s₀.heap.get? ql = none) (ap : Apart L rl pj ql)
    (X : WV s₀ L rl pj ql rA pA qA st.spare kvs s) (hv : lk kvs "v" = some (.int n t)) (hpl : lk kvs "place" = some (.int (i : Nat) u)) (aP : All2 NatV pA.toList (pileL st)) (aQ : All2 (NTup Wx s.heap) qA.toList (plainL st)) (hsz : pA.size ≤ 100) (hqz : qA.size ≤ 100) (hqW : L ∈ Wx ∧ pj ∈ Wx ∧ ql ∈ Wx) (hWx : ∀ d ∈ Wx, s.heap.get? d ≠ none)
    (hlv : top st.pile < 1000)
    (h : ∀ s' kvs' pj' pA' qA', WV s₀ L rl pj' ql rA pA' qA' (turn i (dig n) st).spare kvs' s' → Kp [L, pj, ql] s s' → (pj' = pj ∨ s.heap.get? pj' = none) → s₀.heap.get? pj' = none → Apart L rl pj' ql →
      (∀ y : Str, y ≠ "spare" → y ≠ "pile" → lk kvs' y = lk kvs y) → All2 NatV pA'.toList (pileL (turn i (dig n) st)) → All2 (NTup (pj' :: Wx) s'.heap) qA'.toList (plainL (turn i (dig n) st)) → pA'.size ≤ pA.size + 1 → qA'.size ≤ qA.size + 1 → (∃ o, s'.heap.get? pj = some o) → Q .next s') :
    wpAny (model PR w) A (exec turnS (Ev pm doc cd L a)) Q NoE s := by
  have Gk : ∀ {s' : Shared}, Kp [] s₀ s' → GL w s'.heap mg mb := fun K => G.keep fun b o q => K.keep b o (by simp) q
  obtain ⟨vl, hvl, tv, rfl⟩ : ∃ vl, pA.toList.getLast? = some vl ∧ NatV vl (top st.pile) := by
    rw [List.getLast?_eq_getElem?]
    have h1 := pileL_last st
    rw [List.getLast?_eq_getElem?, ← aP.length] at h1
    exact aP.get h1
  have hmod : ((top st.pile : Nat) : Int).fmod 2 = ((top st.pile % 2 : Nat) : Int) := by
    rw [Int.fmod_eq_emod_of_nonneg _ (by decide)]; omega
  show wpAny (model PR w) A (exec (.If _ _ _ _) (Ev pm doc cd L a)) Q NoE s
  refine wpAny_If (v_test (c := 0) X.ns hv fun s₁ B₁ => ?_)
  have X₁ := X.back B₁
  have aQ₁ : All2 (NTup Wx s₁.heap) qA.toList (plainL st) := aQ.mono fun v x r => r.keep (B₁.kp []) (by simp)
  -- the append to the pile
  have push : ∀ {s' : Shared} {m : Nat} {tm : Tok} {s'' : Shared}, Back s s' → (turn i (dig n) st) = { st with pile := m :: st.pile } → Kp [pj] s' s'' → s''.heap.PlainList pj (pA.push (.int (m : Nat) tm)) → Q .next s'' := by
    intro s' m tm s'' B ht K l'
    have X' := X.back B
    have K' : Kp [pj] s s'' := (B.kp [pj]).trans K
    refine h s'' kvs pj _ qA ⟨X'.kp.absorb (fun d hd => .inr (by rw [List.mem_singleton.mp hd]; exact hp0)) K, X'.ns.at fun o e => K.keep _ o (by simpa using Ne.symm ap.pL) e, X'.row, X'.pile, X'.plain, by rw [ht]; exact X'.spare, list_at X'.rlist K (by simpa using ap.rp), l', list_at X'.qlist K (by simpa using Ne.symm ap.pq)⟩
      ⟨fun b o hb e => K'.keep b o (by simp only [List.mem_cons, List.not_mem_nil, or_false, not_or] at hb ⊢; exact hb.2.1) e, K'.os, K'.bare⟩ (.inl rfl) hp0 ap (fun _ _ _ => rfl) ?_ ?_ (by simp) (Nat.le_succ _) (by obtain ⟨n, q⟩ := l'; exact ⟨_, q⟩)
    · rw [ht, Array.toList_push]
      show All2 NatV _ (0 :: (m :: st.pile).reverse)
      rw [List.reverse_cons]
      exact aP.snoc ⟨tm, rfl⟩
    · rw [ht]
      exact aQ.mono fun v x r => (r.add (.inl hqW.2.1)).keep K' (fun d hd => .inl (by rw [List.mem_singleton.mp hd]; exact List.mem_cons_self ..))
  by_cases h0 : dig n = 0
  · rw [if_pos (by simpa using h0)]
    have ht : turn i (dig n) st = { st with pile := upEven (top st.pile) :: st.pile } := by unfold turn; rw [if_pos h0]
    refine wpAny_execs_cons (e_append (L := L) (l := pj) (its := pA) (by kernel_rfl) (by kernel_rfl) rfl X₁.ns X₁.pile X₁.plist (by rw [sizeLine_eq]; omega) rfl rfl rfl (by kernel_rfl) (by kernel_rfl) ?_)
    refine wpAny_BinOp (wpAny_BinOp (e_last (L := L) (l := pj) (by kernel_rfl) (by kernel_rfl) rfl X₁.ns X₁.pile X₁.plist.isList (by omega) hvl fun s₂ B₂ => wpAny_Constant_int (wpAny_add_int ?_)))
    have X₂ := X₁.back B₂
    refine wpAny_BinOp (e_last (s := { s₂ with toks := s₂.toks + 1 + 1 }) (L := L) (l := pj) (by kernel_rfl) (by kernel_rfl) rfl X₂.ns X₂.pile X₂.plist.isList (by omega) hvl fun s₃ B₃ => wpAny_Constant_int (mod_int (by decide) (sub_int ?_)))
    have B₃' : Back s s₃ := (B₁.trans B₂).trans ⟨B₃.keep, B₃.rest⟩
    have X₃ := X.back B₃'
    rw [hmod]
    have e1 : ((top st.pile : Nat) : Int) + 2 - ((top st.pile % 2 : Nat) : Int) = ((upEven (top st.pile) : Nat) : Int) := by unfold upEven; omega
    rw [e1]
    refine ⟨X₃.plist, fun s₄ K₄ g₄ l₄ => wpAny_execs_nil (push (s' := s₃) B₃' ht ⟨K₄.keep, K₄.os, K₄.bare⟩ l₄)⟩
  rw [if_neg (by simpa using h0)]
  refine wpAny_execs_cons (wpAny_If (v_test (c := 1) X₁.ns hv fun s₂ B₂ => ?_))
  have X₂ := X₁.back B₂
  have B₂' := B₁.trans B₂
  by_cases h1 : dig n = 1
  · rw [if_pos (by simpa using h1)]
    have ht : turn i (dig n) st = { st with pile := upOdd (top st.pile) :: st.pile } := by unfold turn; rw [if_neg h0, if_pos h1]
    refine wpAny_execs_cons (e_append (L := L) (l := pj) (its := pA) (by kernel_rfl) (by kernel_rfl) rfl X₂.ns X₂.pile X₂.plist (by rw [sizeLine_eq]; omega) rfl rfl rfl (by kernel_rfl) (by kernel_rfl) ?_)
    refine wpAny_BinOp (wpAny_BinOp (e_last (L := L) (l := pj) (by kernel_rfl) (by kernel_rfl) rfl X₂.ns X₂.pile X₂.plist.isList (by omega) hvl fun s₃ B₃ => wpAny_Constant_int (wpAny_add_int ?_)))
    have X₃ := X₂.back B₃
    refine wpAny_BinOp (e_last (s := { s₃ with toks := s₃.toks + 1 + 1 }) (L := L) (l := pj) (by kernel_rfl) (by kernel_rfl) rfl X₃.ns X₃.pile X₃.plist.isList (by omega) hvl fun s₄ B₄ => wpAny_Constant_int (mod_int (by decide) (wpAny_add_int ?_)))
    have B₄' : Back s s₄ := (B₂'.trans B₃).trans ⟨B₄.keep, B₄.rest⟩
    have X₄ := X.back B₄'
    rw [hmod]
    have e1 : ((top st.pile : Nat) : Int) + 1 + ((top st.pile % 2 : Nat) : Int) = ((upOdd (top st.pile) : Nat) : Int) := by unfold upOdd; omega
    rw [e1]
    refine ⟨X₄.plist, fun s₅ K₅ g₅ l₅ => wpAny_execs_nil (wpAny_execs_nil (push (s' := s₄) B₄' ht ⟨K₅.keep, K₅.os, K₅.bare⟩ l₅))⟩
  rw [if_neg (by simpa using h1)]
  refine wpAny_execs_cons (wpAny_If (v_test (c := 2) X₂.ns hv fun s₃ B₃ => ?_))
  have X₃ := X₂.back B₃
  have B₃' := B₂'.trans B₃
  have hplen : pA.size = 1 + st.pile.length := by have := aP.length; simp [pileL] at this; omega
  by_cases h2 : dig n = 2
  · rw [if_pos (by simpa using h2)]
    have ht : turn i (dig n) st = { st with spare := st.spare + (if st.pile = [] then 1 else 0), pile := st.pile.tail } := by unfold turn; rw [if_neg h0, if_neg h1, if_pos h2]
    obtain ⟨tsp, hsp⟩ := X₃.spare
    have G₃ := Gk X₃.kp
    have hnew : (turn i (dig n) st).spare = st.spare + (if pA.size = 1 then 1 else 0) := by
      rw [ht]
      show st.spare + _ = _
      congr 1
      by_cases e : st.pile = []
      · rw [if_pos e, if_pos (by rw [hplen, e]; rfl)]
      · rw [if_neg e, if_neg (fun q => e (List.eq_nil_of_length_eq_zero (by omega)))]
    refine wpAny_execs_cons (wpAny_AugAssign_Name (wpAny_loadName_local (by kernel_rfl) (by kernel_rfl) X₃.ns hsp (wpAny_IfExp (wpAny_isTrue_Compare1 ?_))))
    refine e_len (L := L) (l := pj) (its := pA) (by kernel_rfl) (by kernel_rfl) rfl rfl G₃ (by kernel_rfl) rfl X₃.ns X₃.pile X₃.plist.isList (by omega) fun t4 => wpAny_Constant_int (eq_int (wpAny_truthy_bool ?_))
    have aft : ∀ {s₄ : Shared} {t5 : Tok}, Back s s₄ → wpAny (model PR w) A (storeName (Ev pm doc cd L a) "spare" (.int (((turn i (dig n) st).spare : Nat) : Int) t5)) (fun _ s₅ => wpAny (model PR w) A (execs [(match lbody.getD 1 noSt with | .If _ _ [.If _ _ [.If _ b _ _] _] _ => b | _ => []).getD 1 noSt] (Ev pm doc cd L a)) (fun f s₆ => f = .next ∧ Q .next s₆) NoE s₅) NoE s₄ := by
      intro s₄ t5 B₄
      have X₄ := X.back B₄
      refine stA (L := L) (by kernel_rfl) (by kernel_rfl) rfl X₄.ns fun s₅ K₅ g₅ hns₅ => ?_
      have X₅ : WV s₀ L rl pj ql rA pA qA (turn i (dig n) st).spare (put kvs "spare" (.int (((turn i (dig n) st).spare : Nat) : Int) t5)) s₅ :=
        ⟨X₄.kp.absorb (absorb1 hL) K₅, hns₅, by rw [lk_put_ne (by decide)]; exact X₄.row, by rw [lk_put_ne (by decide)]; exact X₄.pile, by rw [lk_put_ne (by decide)]; exact X₄.plain, ⟨t5, lk_put_self _ _ _⟩, list_at X₄.rlist K₅ (by simpa using ap.rL), list_at X₄.plist K₅ (by simpa using ap.pL), list_at X₄.qlist K₅ (by simpa using ap.qL)⟩
      have k₅ : Kp [L] s s₅ := (B₄.kp [L]).trans K₅
      have aQ₅ : All2 (NTup Wx s₅.heap) qA.toList (plainL st) := aQ.mono fun v x r => r.keep k₅ (fun d hd => .inl (by rw [List.mem_singleton.mp hd]; exact hqW.1))
      have hy₅ : ∀ y : Str, y ≠ "spare" → y ≠ "pile" → lk (put kvs "spare" (.int (((turn i (dig n) st).spare : Nat) : Int) t5)) y = lk kvs y := fun y h1 _ => lk_put_ne h1
      generalize put kvs "spare" (.int (((turn i (dig n) st).spare : Nat) : Int) t5) = kv at X₅ hy₅
      show wpAny (model PR w) A (execs [.Assign [.Name "pile" _] (.IfExp (.Compare (.Call _ [_] _ _) _ _ _) _ _ _) _] (Ev pm doc cd L a)) _ NoE s₅
      refine wpAny_execs_cons (wpAny_Assign_Name (wpAny_IfExp (wpAny_isTrue_Compare1 ?_)))
      refine e_len (L := L) (l := pj) (its := pA) (by kernel_rfl) (by kernel_rfl) rfl rfl (Gk X₅.kp) (by kernel_rfl) rfl X₅.ns X₅.pile X₅.plist.isList (by omega) fun t6 => wpAny_Constant_int (gt_int (wpAny_truthy_bool ?_))
      by_cases hp1 : 1 < pA.size
      · rw [if_pos (by rw [decide_eq_true_eq]; omega)]
        refine e_sliceL (ldA (s := { s₅ with toks := s₅.toks + 1 + 1 + 1 }) (L := L) (by kernel_rfl) (by kernel_rfl) rfl X₅.ns X₅.pile ?_)
        simp only [evalPart_none, evalPart_some]
        refine wpAny_pure (wpAny_UnaryOp (wpAny_Constant_int (PySem.P.neg_int ?_)))
        refine ⟨pj, pA, none, some (-1), rfl, X₅.plist.isList, by omega, .none, .int _ _, fun s₆ D B₆ hD l₆ => ?_⟩
        have B₆' : Back s₅ s₆ := ⟨B₆.keep, B₆.rest⟩
        have hD₅ : s₅.heap.get? D = none := hD
        have X₆ := X₅.back B₆'
        refine stA (L := L) (by kernel_rfl) (by kernel_rfl) rfl X₆.ns fun s₇ K₇ g₇ hns₇ => wpAny_execs_nil ⟨rfl, ?_⟩
        have hDL : D ≠ L := ns_ne X₅.ns hD₅
        have hDr : D ≠ rl := ne_none X₅.rlist hD₅
        have hDq : D ≠ ql := ne_none X₅.qlist hD₅
        have hDs : s.heap.get? D = none := by
          cases e : s.heap.get? D with
          | none => rfl
          | some o => rw [k₅.keep D o (by simpa using hDL) e] at hD₅; cases hD₅
        have e2 : slicePick pA none (some (-1)) none = (pA.toList.take (pA.size - 1)).toArray := slicePick_butLast pA 1 (by decide)
        rw [e2] at l₆
        have K' : Kp [L] s s₇ := (k₅.then B₆').trans K₇
        refine h s₇ _ D _ qA ⟨X₆.kp.absorb (absorb1 hL) K₇, hns₇, by rw [lk_put_ne (by decide)]; exact X₆.row, lk_put_self _ _ _, by rw [lk_put_ne (by decide)]; exact X₆.plain, by obtain ⟨t, e⟩ := X₆.spare; exact ⟨t, by rw [lk_put_ne (by decide)]; exact e⟩, list_at X₆.rlist K₇ (by simpa using ap.rL), list_at l₆ K₇ (by simpa using hDL), list_at X₆.qlist K₇ (by simpa using ap.qL)⟩
          ⟨fun b o hb e => K'.keep b o (by simp only [List.mem_cons, List.not_mem_nil, or_false, not_or] at hb ⊢; exact hb.1) e, K'.os, K'.bare⟩ (.inr hDs) (none_back X₅.kp (by simp) hD₅) ⟨ap.rL, hDL, ap.qL, Ne.symm hDr, ap.rq, hDq⟩ (fun y h1 h2 => by rw [lk_put_ne h2]; exact hy₅ y h1 h2) ?_ ?_ (by simp; omega) (Nat.le_succ _) (by obtain ⟨n, q⟩ := list_at X.plist K' (by simpa using ap.pL); exact ⟨_, q⟩)
        · rw [ht]
          show All2 NatV _ (0 :: st.pile.tail.reverse)
          have e3 : (0 :: st.pile.tail.reverse) = (pileL st).take (pA.size - 1) := by
            unfold pileL
            cases hpile : st.pile with
            | nil => rw [hpile] at hplen; simp at hplen; omega
            | cons b r =>
              rw [hpile] at hplen
              simp at hplen
              rw [List.reverse_cons, ← List.cons_append, List.take_append_of_le_length (by simp; omega), List.take_of_length_le (by simp; omega)]
              rfl
          rw [e3]
          exact aP.take _
        · rw [ht]
          exact aQ.mono fun v x r => (r.add (.inr hDs)).keep K' (fun d hd => .inl (by rw [List.mem_singleton.mp hd]; exact List.mem_cons_of_mem _ hqW.1))
      · rw [if_neg (by rw [decide_eq_true_eq]; omega)]
        refine ldA (s := { s₅ with toks := s₅.toks + 1 + 1 + 1 }) (L := L) (by kernel_rfl) (by kernel_rfl) rfl X₅.ns X₅.pile ?_
        refine stA (s := { s₅ with toks := s₅.toks + 1 + 1 + 1 }) (L := L) (by kernel_rfl) (by kernel_rfl) rfl X₅.ns fun s₇ K₇ g₇ hns₇ => wpAny_execs_nil ⟨rfl, ?_⟩
        have K₇' : Kp [L] s₅ s₇ := ⟨K₇.keep, K₇.os, K₇.bare⟩
        have K' : Kp [L] s s₇ := k₅.trans K₇'
        refine h s₇ _ pj pA qA ⟨X₅.kp.absorb (absorb1 hL) K₇', hns₇, by rw [lk_put_ne (by decide)]; exact X₅.row, lk_put_self _ _ _, by rw [lk_put_ne (by decide)]; exact X₅.plain, by obtain ⟨t, e⟩ := X₅.spare; exact ⟨t, by rw [lk_put_ne (by decide)]; exact e⟩, list_at X₅.rlist K₇' (by simpa using ap.rL), list_at X₅.plist K₇' (by simpa using ap.pL), list_at X₅.qlist K₇' (by simpa using ap.qL)⟩
          ⟨fun b o hb e => K'.keep b o (by simp only [List.mem_cons, List.not_mem_nil, or_false, not_or] at hb ⊢; exact hb.1) e, K'.os, K'.bare⟩ (.inl rfl) hp0 ap (fun y h1 h2 => by rw [lk_put_ne h2]; exact hy₅ y h1 h2) ?_ ?_ (Nat.le_succ _) (Nat.le_succ _) (by obtain ⟨n, q⟩ := list_at X.plist K' (by simpa using ap.pL); exact ⟨_, q⟩)
        · rw [ht]
          have : st.pile = [] := List.eq_nil_of_length_eq_zero (by omega)
          show All2 NatV _ (0 :: st.pile.tail.reverse)
          have e3 : (0 :: st.pile.tail.reverse) = pileL st := by unfold pileL; rw [this]; rfl
          rw [e3]; exact aP
        · rw [ht]
          exact aQ.mono fun v x r => (r.add (.inl hqW.2.1)).keep K' (fun d hd => .inl (by rw [List.mem_singleton.mp hd]; exact List.mem_cons_of_mem _ hqW.1))
    by_cases hp1 : pA.size = 1
    · rw [if_pos (by simp; omega)]
      rw [if_pos hp1] at hnew
      refine wpAny_Constant_int (wpAny_iadd_int ?_)
      have e : ((st.spare : Nat) : Int) + 1 = (((turn i (dig n) st).spare : Nat) : Int) := by rw [hnew, Int.natCast_add]; rfl
      rw [e]
      refine wpAny_mono (aft (s₄ := { s₃ with toks := s₃.toks + 1 + 1 + 1 + 1 + 1 }) (B₃'.trans ⟨fun _ _ e => e, rfl⟩)) (fun _ s₅ h₅ => ?_) fun _ _ x => x
      refine wpAny_mono h₅ (fun f s₆ h₆ => ?_) fun _ _ x => x
      obtain ⟨rfl, h₆⟩ := h₆
      exact wpAny_execs_nil (wpAny_execs_nil h₆)
    · rw [if_neg (by simp; omega)]
      rw [if_neg hp1] at hnew
      refine wpAny_Constant_int (wpAny_iadd_int ?_)
      have e : ((st.spare : Nat) : Int) + 0 = (((turn i (dig n) st).spare : Nat) : Int) := by rw [hnew]; rfl
      rw [e]
      refine wpAny_mono (aft (s₄ := { s₃ with toks := s₃.toks + 1 + 1 + 1 + 1 + 1 }) (B₃'.trans ⟨fun _ _ e => e, rfl⟩)) (fun _ s₅ h₅ => ?_) fun _ _ x => x
      refine wpAny_mono h₅ (fun f s₆ h₆ => ?_) fun _ _ x => x
      obtain ⟨rfl, h₆⟩ := h₆
      exact wpAny_execs_nil (wpAny_execs_nil h₆)
  rw [if_neg (by simpa using h2)]
  have ht : turn i (dig n) st = { st with plain := st.plain ++ [(97 + i, top st.pile)] } := by unfold turn; rw [if_neg h0, if_neg h1, if_neg h2]
  have G₃ := Gk X₃.kp
  refine wpAny_execs_cons (e_append (L := L) (l := ql) (its := qA) (by kernel_rfl) (by kernel_rfl) rfl X₃.ns X₃.plain X₃.qlist (by rw [sizeLine_eq]; omega) rfl rfl rfl (by kernel_rfl) (by kernel_rfl) ?_)
  refine e_tuple (sp_cons (e_chrE (by kernel_rfl) (by kernel_rfl) rfl rfl G₃ rfl (wpAny_BinOp (wpAny_Constant_int (ldA (s := { s₃ with toks := s₃.toks + 1 }) (L := L) (by kernel_rfl) (by kernel_rfl) rfl X₃.ns hpl (wpAny_add_int ?_))))))
  refine ⟨97 + i, _, by rw [Int.natCast_add]; rfl, by omega, fun t4 s₄ B₄ => ?_⟩
  have B₄' : Back s s₄ := B₃'.trans ⟨B₄.keep, B₄.rest⟩
  have X₄ := X.back B₄'
  refine sp_cons (e_last (L := L) (l := pj) (by kernel_rfl) (by kernel_rfl) rfl X₄.ns X₄.pile X₄.plist.isList (by omega) hvl fun s₅ B₅ => sp_nil ⟨by size_fits, ?_⟩)
  have B₅' := B₄'.trans B₅
  have X₅ := X.back B₅'
  have Bp : Back s₅ { s₅ with heap := s₅.heap.push { cls := .type "tuple", data := .seq [Value.str ⟨#[97 + i]⟩ t4, Value.int (top st.pile : Nat) tv].toArray } } := ⟨fun b o e => Heap.get?_push_of_some _ e, rfl⟩
  have X₆ := X₅.back Bp
  have hTn : s₅.heap.get? s₅.heap.objs.size = none := Heap.get?_none_of_le (Nat.le_refl _)
  refine ⟨X₆.qlist, fun s₇ K₇ g₇ l₇ => wpAny_execs_nil (wpAny_execs_nil (wpAny_execs_nil ?_))⟩
  have K' : Kp [ql] s s₇ := ((B₅'.trans Bp).kp [ql]).trans K₇
  refine h s₇ kvs pj pA _ ⟨X₆.kp.absorb (fun d hd => .inr (by rw [List.mem_singleton.mp hd]; exact hq0)) K₇, X₆.ns.at fun o e => K₇.keep _ o (by simpa using Ne.symm ap.qL) e, X₆.row, X₆.pile, X₆.plain, by rw [ht]; exact X₆.spare, list_at X₆.rlist K₇ (by simpa using ap.rq), list_at X₆.plist K₇ (by simpa using ap.pq), l₇⟩
    ⟨fun b o hb e => K'.keep b o (by simp only [List.mem_cons, List.not_mem_nil, or_false, not_or] at hb ⊢; exact hb.2.2) e, K'.os, K'.bare⟩ (.inl rfl) hp0 ap (fun _ _ _ => rfl) ?_ ?_ (Nat.le_succ _) (by simp) (by obtain ⟨n, q⟩ := list_at X.plist K' (by simpa using ap.pq); exact ⟨_, q⟩)
  · rw [ht]; exact aP
  · rw [ht, Array.toList_push]
    show All2 _ _ ((st.plain ++ [(97 + i, top st.pile)]).map _)
    rw [List.map_append]
    refine All2.snoc (aQ.mono fun v x r => (r.add (.inl hqW.2.1)).keep K' (fun d hd => .inl (by rw [List.mem_singleton.mp hd]; exact List.mem_cons_of_mem _ hqW.2.2))) ?_
    refine NTup.add ?_ (.inl hqW.2.1)
    refine NTup.keep (s := { s₅ with heap := s₅.heap.push { cls := .type "tuple", data := .seq [Value.str ⟨#[97 + i]⟩ t4, Value.int (top st.pile : Nat) tv].toArray } }) ⟨s₅.heap.objs.size, t4, tv, rfl, fun q => ?_, ⟨_, Heap.get?_push_size _ rfl, rfl, _, rfl⟩⟩ K₇ (fun d hd => .inl (by rw [List.mem_singleton.mp hd]; exact hqW.2.2))
    have h1 := hWx _ q
    cases e : s.heap.get? s₅.heap.objs.size with
    | none => exact h1 e
    | some o => rw [B₅'.keep _ o e] at hTn; cases hTn
end
end Mine
end

/-! part LA3 -/
section
set_option maxRecDepth 100000
open PySem PySem.W PyProof.Rows PySem.Calls
namespace Mine

def rowC (ds : List Nat) (i : Nat) : List Nat := (List.range i).map fun j => sgn j (ds.getD j 0)
theorem rowC_succ (ds : List Nat) (i : Nat) : rowC ds (i + 1) = rowC ds i ++ [sgn i (ds.getD i 0)] := by unfold rowC; rw [List.range_succ, List.map_append]; rfl
theorem rowC_all (ds : List Nat) : rowC ds ds.length = codes ds := by
  apply List.ext_getElem?
  intro i
  rw [codes_get]
  unfold rowC
  rw [List.getElem?_map]
  by_cases hi : i < ds.length
  · rw [List.getElem?_range hi, List.getElem?_eq_getElem hi]
    show some (sgn i (ds.getD i 0)) = some (sgn i ds[i])
    rw [List.getD_eq_getElem?_getD, List.getElem?_eq_getElem hi]; rfl
  · rw [List.getElem?_eq_none (by simpa using hi), List.getElem?_eq_none (by omega)]; rfl
def Bd (i : Nat) (st : St) : Prop := st.pile.length ≤ i ∧ st.plain.length ≤ i ∧ (∀ x ∈ st.pile, x ≤ 2 * i) ∧ ∀ x ∈ st.plain, x.2 ≤ 2 * i
theorem bd_turn {i d : Nat} {st : St} (h : Bd i st) : Bd (i + 1) (turn i d st) := by
  obtain ⟨h1, h2, h3, h4⟩ := h
  have ht : top st.pile ≤ 2 * i := by
    unfold top
    cases hp : st.pile with
    | nil => exact Nat.zero_le _
    | cons a r => rw [hp] at h3; exact h3 a (by simp)
  have h4' : ∀ x ∈ st.plain, x.2 ≤ 2 * (i + 1) := fun x hx => by have := h4 x hx; omega
  have h3' : ∀ x ∈ st.pile, x ≤ 2 * (i + 1) := fun x hx => by have := h3 x hx; omega
  by_cases d0 : d = 0
  · have e : turn i d st = { st with pile := upEven (top st.pile) :: st.pile } := by unfold turn; rw [if_pos d0]
    rw [e]
    refine ⟨by simp; omega, by show st.plain.length ≤ _; omega, fun x hx => ?_, h4'⟩
    rcases List.mem_cons.mp hx with rfl | hx
    · unfold upEven; omega
    · exact h3' x hx
  by_cases d1 : d = 1
  · have e : turn i d st = { st with pile := upOdd (top st.pile) :: st.pile } := by unfold turn; rw [if_neg d0, if_pos d1]
    rw [e]
    refine ⟨by simp; omega, by show st.plain.length ≤ _; omega, fun x hx => ?_, h4'⟩
    rcases List.mem_cons.mp hx with rfl | hx
    · unfold upOdd; omega
    · exact h3' x hx
  by_cases d2 : d = 2
  · have e : turn i d st = { st with spare := st.spare + (if st.pile = [] then 1 else 0), pile := st.pile.tail } := by unfold turn; rw [if_neg d0, if_neg d1, if_pos d2]
    rw [e]
    exact ⟨by simp; omega, by show st.plain.length ≤ _; omega, fun x hx => h3' x (List.mem_of_mem_tail hx), h4'⟩
  · have e : turn i d st = { st with plain := st.plain ++ [(97 + i, top st.pile)] } := by unfold turn; rw [if_neg d0, if_neg d1, if_neg d2]
    rw [e]
    refine ⟨by show st.pile.length ≤ _; omega, by simp; omega, h3', fun x hx => ?_⟩
    rcases List.mem_append.mp hx with hx | hx
    · exact h4' x hx
    · simp at hx; rw [hx]; show top _ ≤ _; omega
theorem pile_bound (ds : List Nat) : ∀ i, Bd i (runUpto ds i)
  | 0 => ⟨Nat.le_refl _, Nat.le_refl _, fun x hx => (by cases hx), fun x hx => (by cases hx)⟩
  | i + 1 => by
    have h := pile_bound ds i
    rw [runUpto_succ]
    cases ds[i]? with
    | none =>
      obtain ⟨h1, h2, h3, h4⟩ := h
      exact ⟨Nat.le_succ_of_le h1, Nat.le_succ_of_le h2, fun x hx => by have := h3 x hx; omega, fun x hx => by have := h4 x hx; omega⟩
    | some d => exact bd_turn h

section
variable {w : World} {A : Around} {s s₀ : Shared} {mg mb : Str → Option Value} {pm doc : Value} {cd L a rl pj0 ql nl : Addr} {kvs : List (Str × Value)} {nA pA₀ : Array Value} {nums : List Int}

def lawInv (s₀ s₁ : Shared) (L rl ql nl e it pj0 : Addr) (ds : List Nat) : Nat → Shared → Prop := fun i s => ∃ kvs pj rA pA qA, WV s₀ L rl pj ql rA pA qA (runUpto ds i).spare kvs s ∧ lk kvs "numbers" = some (.ref nl) ∧ Apart L rl pj ql ∧ s₀.heap.get? pj = none ∧ Kp [L, rl, pj0, ql] s₁ s ∧ (pj = pj0 ∨ s₁.heap.get? pj = none) ∧ pj ≠ e ∧ pj ≠ it ∧ pj ≠ nl ∧
  All2 StrOfCode rA.toList (rowC ds i) ∧ All2 NatV pA.toList (pileL (runUpto ds i)) ∧ All2 (NTup [L, rl, pj, ql, e, it] s.heap) qA.toList (plainL (runUpto ds i)) ∧ (∃ o, s.heap.get? pj0 = some o)

theorem law_loop {Q : Flow → Shared → Prop} (hh : A.handled = none) (G : GL w s₀.heap mg mb) (hL : s₀.heap.get? L = none) (hr0 : s₀.heap.get? rl = none) (hp0 : s₀.heap.get? pj0 = none) (hq0 : s₀.heap.get? ql = none) (ap : Apart L rl pj0 ql) (hnL : nl ≠ L) (hnr : nl ≠ rl) (hnp : nl ≠ pj0) (hnq : nl ≠ ql)
    (hnl : s.heap.IsList nl nA) (hnA : All2 (fun v n => ∃ t, v = .int n t) nA.toList nums) (hlen : nums.length ≤ 10) (X : WV s₀ L rl pj0 ql #[] pA₀ #[] 0 kvs s) (hnum : lk kvs "numbers" = some (.ref nl)) (hpA : All2 NatV pA₀.toList [0])
    (h : ∀ s' e it, lawInv s₀ s L rl ql nl e it pj0 (nums.map dig) (nums.map dig).length s' → Q .next s') :
    wpAny (model PR w) A (exec (LB 5) (Ev pm doc cd L a)) Q NoE s := by
  show wpAny (model PR w) A (exec (.For (.Tuple [.Name _ _, .Name _ _] _ _) (.Call (.Name "enumerate" _) [.Name _ _] [] _) _ [] _) (Ev pm doc cd L a)) Q NoE s
  have hns : nA.size = nums.length := by have := hnA.length; simpa using this
  have G₀ := G.keep fun b o q => X.kp.keep b o (by simp) q
  refine wpAny_For ?_
  refine e_ty (id := "enumerate") (by kernel_rfl) (by kernel_rfl) rfl rfl G₀ (by decide +kernel) (by kernel_rfl) (by decide) ?_
  refine sp_cons (ldA (L := L) (by kernel_rfl) (by kernel_rfl) rfl X.ns hnum (sp_nil ?_))
  refine call_enumerate_list hnl fun h₁ hen hit hsz₁ k₁ => ?_
  refine wpAny_pyIter_enum' hen ?_
  have hnlt : nl < s.heap.objs.size := by obtain ⟨o, ho, _⟩ := hnl; exact Heap.lt_size ho
  have hit0 : s.heap.get? s.heap.objs.size = none := Heap.get?_none_of_le (Nat.le_refl _)
  have he0 : s.heap.get? (s.heap.objs.size + 1) = none := Heap.get?_none_of_le (Nat.le_succ _)
  have hei : s.heap.objs.size + 1 ≠ s.heap.objs.size := Nat.succ_ne_self _
  have B₁ : Back s { s with heap := h₁ } := ⟨k₁, rfl⟩
  have hnl₁ : h₁.IsList nl nA := by obtain ⟨o, ho, r⟩ := hnl; exact ⟨o, k₁ _ o ho, r⟩
  have hne : nl ≠ s.heap.objs.size + 1 := Nat.ne_of_lt (Nat.lt_succ_of_lt hnlt)
  have hni : nl ≠ s.heap.objs.size := Nat.ne_of_lt hnlt
  generalize s.heap.objs.size + 1 = e at hen he0 hei hne ⊢
  generalize s.heap.objs.size = it at hen hit hit0 hei hni
  have hX₁ := X.back B₁
  have hen' : IsEnum ({ s with heap := h₁ } : Shared).heap e it 0 .none := hen
  have hit' : ({ s with heap := h₁ } : Shared).heap.IsListIter it nl 0 := hit
  have hnl' : ({ s with heap := h₁ } : Shared).heap.IsList nl nA := hnl₁
  generalize ({ s with heap := h₁ } : Shared) = s₁ at B₁ hX₁ hen' hit' hnl' ⊢
  have fresh2 : ∀ d ∈ [e, it], s.heap.get? d = none := by
    intro d hd; simp only [List.mem_cons, List.not_mem_nil, or_false] at hd
    rcases hd with rfl | rfl
    · exact he0
    · exact hit0
  have fresh20 : ∀ d ∈ [e, it], s₀.heap.get? d = none := fun d hd => none_back X.kp (by simp) (fresh2 d hd)
  have hLei : L ≠ e ∧ L ≠ it := ⟨Ne.symm (ns_ne X.ns he0), Ne.symm (ns_ne X.ns hit0)⟩
  have hrei : rl ≠ e ∧ rl ≠ it := ⟨Ne.symm (ne_none X.rlist he0), Ne.symm (ne_none X.rlist hit0)⟩
  have hqei : ql ≠ e ∧ ql ≠ it := ⟨Ne.symm (ne_none X.qlist he0), Ne.symm (ne_none X.qlist hit0)⟩
  have hpei : pj0 ≠ e ∧ pj0 ≠ it := ⟨Ne.symm (ne_none X.plist he0), Ne.symm (ne_none X.plist hit0)⟩
  have W := WalksT.enumerate (prog := PR) (w := w) (A := A) hh e it nl hei hne hni nA
  refine for_pairs hh W (lawInv s₀ s L rl ql nl e it pj0 (nums.map dig)) ?_ ⟨⟨_, hen'⟩, hit', hnl'⟩ ?_ ?_ ?_
  · rintro i s₂ s₃ ⟨kvs, pj, rA, pA, qA, X₂, n₂, ap₂, p₂, K₂, pc, pe, pi, pn, aR, aP, aQ, oj, hoj⟩ K g
    refine ⟨kvs, pj, rA, pA, qA, X₂.then K fresh20 ?_ ?_ ?_ ?_, n₂, ap₂, p₂, K₂.absorb (fun d hd => .inr (fresh2 d hd)) K, pc, pe, pi, pn, aR, aP, aQ.mono fun v x r => r.keep K (fun d hd => .inl (by
      simp only [List.mem_cons, List.not_mem_nil, or_false] at hd ⊢
      rcases hd with rfl | rfl <;> simp)), oj, K.keep _ _ (by simpa using hpei) hoj⟩
    · simpa using hLei
    · simpa using hrei
    · simpa using ⟨pe, pi⟩
    · simpa using hqei
  · exact ⟨kvs, pj0, #[], pA₀, #[], hX₁, hnum, ap, hp0, B₁.kp _, .inl rfl, hpei.1, hpei.2, Ne.symm hnp, .nil, hpA, .nil, by obtain ⟨n, q⟩ := X.plist; exact ⟨_, B₁.keep _ _ q⟩⟩
  · rintro i vals s₂ hi ⟨ti, v, hv, rfl⟩ ⟨⟨old, hen₂⟩, hit₂, hnl₂⟩ ⟨kvs, pj, rA, pA, qA, X₂, n₂, ap₂, p₂, K₂, pc, pe, pi, pn, aR, aP, aQ, oj, hoj⟩
    obtain ⟨n, hnn, tv, rfl⟩ := hnA.get' (by rw [Array.getElem?_toList]; exact hv)
    have hdi : (nums.map dig)[i]? = some (dig n) := by rw [List.getElem?_map, hnn]; rfl
    have hdD : (nums.map dig).getD i 0 = dig n := by rw [List.getD_eq_getElem?_getD, hdi]; rfl
    refine ⟨_, _, rfl, ?_⟩
    refine WV.store hL ap₂ X₂ (by decide) (by decide) (by decide) (by decide) (by kernel_rfl) fun s₃ X₃ K₃ => ?_
    refine WV.store hL ap₂ X₃ (by decide) (by decide) (by decide) (by decide) (by kernel_rfl) fun s₄ X₄ K₄ => ?_
    have K₂₄ : Kp [L] s₂ s₄ := K₃.trans K₄
    have hpl : lk (put (put kvs "place" (.int (i : Nat) ti)) "v" (.int n tv)) "place" = some (.int (i : Nat) ti) := by rw [lk_put_ne (by decide), lk_put_self]
    have hvv : lk (put (put kvs "place" (.int (i : Nat) ti)) "v" (.int n tv)) "v" = some (.int n tv) := lk_put_self _ _ _
    have hnum₄ : lk (put (put kvs "place" (.int (i : Nat) ti)) "v" (.int n tv)) "numbers" = some (.ref nl) := by rw [lk_put_ne (by decide), lk_put_ne (by decide)]; exact n₂
    have aQ₄ : All2 (NTup [L, rl, pj, ql, e, it] s₄.heap) qA.toList (plainL (runUpto (nums.map dig) i)) := aQ.mono fun v x r => r.keep K₂₄ (by simp)
    generalize put (put kvs "place" (.int (i : Nat) ti)) "v" (.int n tv) = kv at X₄ hpl hvv hnum₄
    obtain ⟨b1, b2, b3, b4⟩ := pile_bound (nums.map dig) i
    have hpsz : pA.size ≤ 100 := by have := aP.length; simp [pileL] at this; omega
    have hqsz : qA.size ≤ 100 := by have := aQ.length; simp [plainL] at this; omega
    have hrsz : rA.size ≤ 100 := by have := aR.length; simp [rowC] at this; omega
    have htop : top (runUpto (nums.map dig) i).pile < 1000 := by
      unfold top
      cases hp : (runUpto (nums.map dig) i).pile with
      | nil => simp
      | cons a r => rw [hp] at b3; have := b3 a (by simp); simp; omega
    refine wpAny_execs_cons (e_append (L := L) (l := rl) (its := rA) (by kernel_rfl) (by kernel_rfl) rfl X₄.ns X₄.row X₄.rlist (by rw [sizeLine_eq]; omega) rfl rfl rfl (by kernel_rfl) (by kernel_rfl) ?_)
    refine row_elt (L := L) (by omega) (G.keep fun b o q => X₄.kp.keep b o (by simp) q) X₄.ns hvv hpl fun t5 s₅ B₅ => ?_
    have X₅ := X₄.back B₅
    refine ⟨X₅.rlist, fun s₆ K₆ g₆ l₆ => ?_⟩
    have X₆ : WV s₀ L rl pj ql (rA.push (.str ⟨#[sgn i (dig n)]⟩ t5)) pA qA (runUpto (nums.map dig) i).spare kv s₆ := ⟨X₅.kp.absorb (fun d hd => .inr (by rw [List.mem_singleton.mp hd]; exact hr0)) K₆, X₅.ns.at fun o e => K₆.keep _ o (by simpa using Ne.symm ap₂.rL) e, X₅.row, X₅.pile, X₅.plain, X₅.spare, l₆, list_at X₅.plist K₆ (by simpa using Ne.symm ap₂.rp), list_at X₅.qlist K₆ (by simpa using Ne.symm ap₂.rq)⟩
    have K₂₆ : Kp [L, rl] s₂ s₆ := by
      have k1 : Kp [L] s₂ s₅ := K₂₄.then B₅
      exact ⟨fun b o hb q => K₆.keep b o (by simp only [List.mem_cons, List.not_mem_nil, or_false, not_or] at hb ⊢; exact hb.2) (k1.keep b o (by simp only [List.mem_cons, List.not_mem_nil, or_false, not_or] at hb ⊢; exact hb.1) q), K₆.os.trans k1.os, fun q => K₆.bare (k1.bare q)⟩
    have aQ₆ : All2 (NTup [L, rl, pj, ql, e, it] s₆.heap) qA.toList (plainL (runUpto (nums.map dig) i)) := aQ₄.mono fun v x r => (r.keep (B₅.kp []) (by simp)).keep K₆ (by simp)
    have al : ∀ d, d ≠ L → d ≠ rl → (∃ o, s₂.heap.get? d = some o) → s₆.heap.get? d ≠ none := fun d h1 h2 ⟨o, ho⟩ => by
      rw [K₂₆.keep d o (by simpa using ⟨h1, h2⟩) ho]; exact fun q => nomatch q
    have alive : ∀ d ∈ [L, rl, pj, ql, e, it], s₆.heap.get? d ≠ none := by
      intro d hd
      simp only [List.mem_cons, List.not_mem_nil, or_false] at hd
      rcases hd with rfl | rfl | rfl | rfl | rfl | rfl
      · obtain ⟨o, _, _, ho, _⟩ := X₆.ns; rw [ho]; exact fun q => nomatch q
      · obtain ⟨n, ho⟩ := X₆.rlist; rw [ho]; exact fun q => nomatch q
      · obtain ⟨n, ho⟩ := X₆.plist; rw [ho]; exact fun q => nomatch q
      · obtain ⟨n, ho⟩ := X₆.qlist; rw [ho]; exact fun q => nomatch q
      · exact al _ (Ne.symm hLei.1) (Ne.symm hrei.1) ⟨_, hen₂⟩
      · obtain ⟨o, ho, _⟩ := hit₂; exact al _ (Ne.symm hLei.2) (Ne.symm hrei.2) ⟨o, ho⟩
    refine wpAny_execs_cons ?_
    show wpAny (model PR w) A (exec turnS (Ev pm doc cd L a)) _ NoE s₆
    refine law_turn (i := i) (n := n) (t := tv) (u := ti) (st := runUpto (nums.map dig) i) (Wx := [L, rl, pj, ql, e, it]) (by omega) G hL p₂ hq0 ap₂ X₆ hvv hpl aP aQ₆ hpsz hqsz (by simp) alive htop fun s₇ kv₇ pj' pA' qA' X₇ K₇ hpj hpj0 ap₇ hy₇ aP₇ aQ₇ z1 z2 pal => wpAny_execs_nil ?_
    have hrun : runUpto (nums.map dig) (i + 1) = turn i (dig n) (runUpto (nums.map dig) i) := by rw [runUpto_succ, hdi]
    rw [← hrun] at X₇ aP₇ aQ₇
    have pj's : pj' = pj ∨ (pj' ≠ e ∧ pj' ≠ it ∧ pj' ≠ nl) := by
      rcases hpj with h1 | h1
      · exact .inl h1
      · refine .inr ⟨fun q => ?_, fun q => ?_, fun q => ?_⟩
        · exact alive e (by simp) (q ▸ h1)
        · exact alive it (by simp) (q ▸ h1)
        · obtain ⟨o, ho, _⟩ := hnl₂; exact al nl hnL hnr ⟨o, ho⟩ (q ▸ h1)
    have hpe' : pj' ≠ e ∧ pj' ≠ it ∧ pj' ≠ nl := pj's.elim (fun q => by rw [q]; exact ⟨pe, pi, pn⟩) id
    have K₂₇ : Kp [L, rl, pj, ql] s₂ s₇ := ⟨fun b o hb q => K₇.keep b o (by simp only [List.mem_cons, List.not_mem_nil, or_false, not_or] at hb ⊢; exact ⟨hb.1, hb.2.2.1, hb.2.2.2⟩) (K₂₆.keep b o (by simp only [List.mem_cons, List.not_mem_nil, or_false, not_or] at hb ⊢; exact ⟨hb.1, hb.2.1⟩) q), K₇.os.trans K₂₆.os, fun q => K₇.bare (K₂₆.bare q)⟩
    have Ks₇ : Kp [L, rl, pj0, ql] s s₇ := K₂.absorb (fun d hd => by
      simp only [List.mem_cons, List.not_mem_nil, or_false] at hd ⊢
      rcases hd with rfl | rfl | rfl | rfl
      · left; simp
      · left; simp
      · rcases pc with q | q
        · left; simp [q]
        · exact .inr q
      · left; simp) K₂₇
    have hoj₆ : s₆.heap.get? pj0 = some oj := K₂₆.keep pj0 oj (by simpa using ⟨ap.pL, Ne.symm ap.rp⟩) hoj
    have pc' : pj' = pj0 ∨ s.heap.get? pj' = none := by
      rcases hpj with h1 | h1
      · rw [h1]; exact pc
      · right
        cases q : s.heap.get? pj' with
        | none => rfl
        | some o =>
          exfalso
          have k6 : Kp [L, rl, pj0, ql] s s₆ := K₂.absorb (fun d hd => by simp only [List.mem_cons, List.not_mem_nil, or_false] at hd ⊢; rcases hd with rfl | rfl <;> (left; simp)) K₂₆
          by_cases hm : pj' ∈ [L, rl, pj0, ql]
          · simp only [List.mem_cons, List.not_mem_nil, or_false] at hm
            rcases hm with r | r | r | r
            · exact alive L (by simp) (r ▸ h1)
            · exact alive rl (by simp) (r ▸ h1)
            · rw [r, hoj₆] at h1; cases h1
            · exact alive ql (by simp) (r ▸ h1)
          · rw [k6.keep pj' o hm q] at h1; cases h1
    have hoj₇ : ∃ o, s₇.heap.get? pj0 = some o := by
      by_cases q : pj0 = pj
      · rw [q]; exact pal
      · exact ⟨oj, K₇.keep pj0 oj (by simpa using ⟨ap.pL, q, ap.pq⟩) hoj₆⟩
    have hsub : ∀ d ∈ [L, rl, pj', ql, e, it], d ∈ pj' :: [L, rl, pj, ql, e, it] := by
      intro d hd
      simp only [List.mem_cons, List.not_mem_nil, or_false] at hd ⊢
      rcases hd with h1 | h1 | h1 | h1 | h1 | h1 <;> simp [h1]
    have hfp : ∀ b ∈ [e, it, nl], b ∉ [L, rl, pj, ql] := by
      intro b hb
      simp only [List.mem_cons, List.not_mem_nil, or_false, not_or] at hb ⊢
      rcases hb with h1 | h1 | h1 <;> rw [h1]
      · exact ⟨Ne.symm hLei.1, Ne.symm hrei.1, Ne.symm pe, Ne.symm hqei.1⟩
      · exact ⟨Ne.symm hLei.2, Ne.symm hrei.2, Ne.symm pi, Ne.symm hqei.2⟩
      · exact ⟨hnL, hnr, Ne.symm pn, hnq⟩
    refine ⟨⟨kv₇, pj', _, pA', qA', X₇, by rw [hy₇ _ (by decide) (by decide)]; exact hnum₄, ap₇, hpj0, Ks₇, pc', hpe'.1, hpe'.2.1, hpe'.2.2, ?_, aP₇, aQ₇.mono fun v x r => r.sub hsub, hoj₇⟩, W.frame _ _ _ ⟨⟨old, hen₂⟩, hit₂, hnl₂⟩ fun b hb o q => K₂₇.keep b o (hfp b hb) q⟩
    · rw [Array.toList_push, rowC_succ, hdD]
      exact aR.snoc ⟨t5, rfl⟩
  · rintro s₂ hinv
    rw [hns] at hinv
    refine h s₂ e it ?_
    rw [List.length_map]
    exact hinv
end
end Mine
end

/-! part LA4 -/
section
set_option maxRecDepth 100000
open PySem PySem.W PyProof.Rows PySem.Calls
namespace Mine

def IntR (v : Value) (n : Int) : Prop := ∃ t, v = .int n t
def numsOf (ns : List Int) : List Int := ns.take 10 ++ ([1, 3, 0, 4, 3, 2, 3, 2, 4] : List Int).drop (ns.take 9).length
theorem numsOf_len (ns : List Int) : (numsOf ns).length ≤ 10 := by
  unfold numsOf
  simp only [List.length_append, List.length_take, List.length_drop, List.length_cons, List.length_nil]
  omega

section
variable {w : World} {A : Around} {s : Shared} {mg mb : Str → Option Value} {pm doc : Value} {cd L a l : Addr} {kvs : List (Str × Value)} {vs : List Value} {ns : List Int}

theorem sp_ints {env : Env} : ∀ (cs : List (Int × Nat × Pos)) (s : Shared) (Q : List Value → Shared → Prop), (∀ vs s', Back s s' → All2 IntR vs (cs.map (·.1)) → Q vs s') → wpAny (model PR w) A (spliced (plains (cs.map fun c => .Constant (.int c.1) c.2.1 c.2.2) env)) Q NoE s
  | [], s, Q, h => sp_nil (h [] s (Back.refl s) .nil)
  | c :: cs, s, Q, h => sp_cons (wpAny_Constant_int (sp_ints cs _ _ fun vs s' B ha => h _ s' ⟨B.keep, B.rest⟩ (.cons ⟨_, rfl⟩ ha)))

set_option maxHeartbeats 4000000 in
/-- numbers = script[:10] + [..][len(script[:9]):] -/
theorem law_nums {Q : Flow → Shared → Prop} (hh : A.handled = none) (G : GL w s.heap mg mb) (hn : s.heap.Ns L (lk kvs)) (hv : lk kvs "script" = some (.ref l)) (hl : s.heap.IsList l vs.toArray) (hi : All2 IntR vs ns) (hsz : vs.length ≤ 63)
    (h : ∀ s' nl nA, Kp [L] s s' → s.heap.get? nl = none → s'.heap.IsList nl nA → All2 IntR nA.toList (numsOf ns) → s'.heap.Ns L (lk (put kvs "numbers" (.ref nl))) → Q .next s') :
    wpAny (model PR w) A (exec (LB 0) (Ev pm doc cd L a)) Q NoE s := by
  show wpAny (model PR w) A (exec (.Assign [.Name _ _] (.BinOp _ _ _ _) _) (Ev pm doc cd L a)) Q NoE s
  refine wpAny_Assign_Name (wpAny_BinOp ?_) (by kernel_rfl)
  refine e_sliceL (ldA (L := L) (by kernel_rfl) (by kernel_rfl) rfl hn hv ?_)
  simp only [evalPart_none, evalPart_some]
  refine wpAny_pure (wpAny_Constant_int ?_)
  refine ⟨l, vs.toArray, none, some (10 : Int), rfl, hl, by simp; omega, .none, .int _ _, fun s₁ D₁ B₁ hD₁ l₁ => ?_⟩
  have B₁' : Back s s₁ := ⟨B₁.keep, B₁.rest⟩
  have e1 : slicePick vs.toArray none (some (10 : Int)) none = (vs.take 10).toArray := slicePick_upto' vs.toArray 10
  rw [e1] at l₁
  refine e_sliceL (e_list ?_)
  refine sp_ints [(1, _, _), (3, _, _), (0, _, _), (4, _, _), (3, _, _), (2, _, _), (3, _, _), (2, _, _), (4, _, _)] s₁ _ fun cv s₂ B₂ ac => ?_
  have hcl : cv.length = 9 := ac.length
  refine ⟨by rw [hcl, sizeLine_eq]; decide, ?_⟩
  have B₂' : Back s s₂ := B₁'.trans B₂
  have hc₂ : s₂.heap.get? s₂.heap.objs.size = none := Heap.get?_none_of_le (Nat.le_refl _)
  have Bp : Back s₂ { s₂ with heap := s₂.heap.push { cls := .type "list", data := .seq cv.toArray } } := ⟨fun b o e => Heap.get?_push_of_some _ e, rfl⟩
  have hcl₃ : ({ s₂ with heap := s₂.heap.push { cls := .type "list", data := .seq cv.toArray } } : Shared).heap.IsList s₂.heap.objs.size cv.toArray := ⟨_, Heap.get?_push_size _ rfl, rfl, _, rfl⟩
  generalize ({ s₂ with heap := s₂.heap.push { cls := .type "list", data := .seq cv.toArray } } : Shared) = s₃ at Bp hcl₃ ⊢
  generalize s₂.heap.objs.size = cl at hcl₃ hc₂ ⊢
  have B₃ : Back s s₃ := B₂'.trans Bp
  have G₃ := G.keep B₃.keep
  have hn₃ := hn.at fun o e => B₃.keep _ o e
  have hl₃ : s₃.heap.IsList l vs.toArray := by obtain ⟨o, ho, r⟩ := hl; exact ⟨o, B₃.keep _ o ho, r⟩
  simp only [evalPart_none, evalPart_some]
  refine e_bi (id := "len") (by kernel_rfl) (by kernel_rfl) rfl rfl G₃ (by decide +kernel) (by kernel_rfl) (by decide) ?_
  refine sp_cons (e_sliceL (ldA (L := L) (by kernel_rfl) (by kernel_rfl) rfl hn₃ hv ?_))
  simp only [evalPart_none, evalPart_some]
  refine wpAny_pure (wpAny_Constant_int ?_)
  refine ⟨l, vs.toArray, none, some (9 : Int), rfl, hl₃, by simp; omega, .none, .int _ _, fun s₄ D₂ B₄ hD₂ l₄ => sp_nil ?_⟩
  have e2 : slicePick vs.toArray none (some (9 : Int)) none = (vs.take 9).toArray := slicePick_upto' vs.toArray 9
  rw [e2] at l₄
  refine Calls.call_len_list l₄.isList (by simp; omega) ?_
  have B₄' : Back s₃ s₄ := ⟨B₄.keep, B₄.rest⟩
  refine wpAny_pure ?_
  have hclen : (vs.take 9).toArray.size = (ns.take 9).length := by rw [List.size_toArray, (hi.take 9).length]
  rw [hclen]
  refine ⟨cl, cv.toArray, some (((ns.take 9).length : Nat) : Int), none, rfl, ?_, by simp; omega, .int _ _, .none, fun s₅ D₃ B₅ hD₃ l₅ => ?_⟩
  · obtain ⟨o, ho, r⟩ := hcl₃; exact ⟨o, B₄'.keep _ o ho, r⟩
  have e3 : slicePick cv.toArray (some (((ns.take 9).length : Nat) : Int)) none none = (cv.drop (ns.take 9).length).toArray := slicePick_from' cv.toArray _
  rw [e3] at l₅
  have B₅' : Back s₄ s₅ := ⟨B₅.keep, B₅.rest⟩
  have B05 : Back s s₅ := (B₃.trans B₄').trans B₅'
  have l₁₅ : s₅.heap.PlainList D₁ (vs.take 10).toArray := l₁.at fun o e => B₅'.keep _ o (B₄'.keep _ o (Bp.keep _ o (B₂.keep _ o e)))
  refine cat_lists l₁₅.isList l₅.isList (by simp; rw [sizeLine_eq]; omega) ?_
  have hD : s.heap.get? s₅.heap.objs.size = none := by
    cases q : s.heap.get? s₅.heap.objs.size with
    | none => rfl
    | some o => exact absurd (Heap.lt_size (B05.keep _ o q)) (Nat.lt_irrefl _)
  have hDL : s₅.heap.objs.size ≠ L := ns_ne hn hD
  have Bq : Back s { s₅ with heap := s₅.heap.push { cls := .type "list", data := .seq ((vs.take 10).toArray ++ (cv.drop (ns.take 9).length).toArray) } } := ⟨fun b o e => Heap.get?_push_of_some _ (B05.keep b o e), by rw [B05.rest]⟩
  have hlq : ({ s₅ with heap := s₅.heap.push { cls := .type "list", data := .seq ((vs.take 10).toArray ++ (cv.drop (ns.take 9).length).toArray) } } : Shared).heap.PlainList s₅.heap.objs.size ((vs.take 10).toArray ++ (cv.drop (ns.take 9).length).toArray) := ⟨_, Heap.get?_push_size _ rfl⟩
  generalize ({ s₅ with heap := s₅.heap.push { cls := .type "list", data := .seq ((vs.take 10).toArray ++ (cv.drop (ns.take 9).length).toArray) } } : Shared) = s₆ at Bq hlq ⊢
  generalize s₅.heap.objs.size = nl at hD hDL hlq ⊢
  refine stA (L := L) (by kernel_rfl) (by kernel_rfl) rfl (hn.at fun o e => Bq.keep _ o e) fun s₇ K₇ g₇ hn₇ => ?_
  refine h s₇ nl _ ((Bq.kp [L]).trans K₇) hD (list_at hlq K₇ (by simpa using hDL)).isList ?_ hn₇
  rw [Array.toList_append]
  exact (hi.take 10).append (ac.drop _)
end
end Mine
end

/-! part LA5 -/
section
set_option maxRecDepth 100000
open PySem PySem.W PyProof.Rows PySem.Calls
namespace Mine

section
variable {w : World} {A : Around} {s : Shared} {mg mb : Str → Option Value} {pm doc : Value} {cd L a nl : Addr} {kvs : List (Str × Value)}

def compV : Expr := match LB 7 with | .If (.Compare (.Call _ [.Call _ [e] _ _] _ _) _ _ _) _ _ _ => e | _ => .Constant .none 0 ⟨0, 0, 0, 0⟩
theorem comp_v {vs : List Value} {nums : List Int} {Q : Value → Shared → Prop} (hh : A.handled = none) (hn : s.heap.Ns L (lk kvs)) (hv : lk kvs "numbers" = some (.ref nl)) (hl : s.heap.IsList nl vs.toArray) (hr : All2 IntR vs nums) (hsz : vs.length ≤ 1000)
    (h : ∀ D s' ys, Back s s' → s'.heap.IsList D ys → All2 StrOfCode ys.toList (nums.map fun n => mk (dig n)) → Q (.ref D) s') :
    wpAny (model PR w) A (eval compV (Ev pm doc cd L a)) Q NoE s := by
  show wpAny (model PR w) A (eval (.ListComp _ [⟨.Name "v" _, .Name "numbers" _, [], 0⟩] _ _) (Ev pm doc cd L a)) Q NoE s
  refine wpAny_ListComp_walk (fun _ => true) (fun v y => ∃ n t u, v = .int n t ∧ y = .str ⟨#[mk (dig n)]⟩ u) (by decide +kernel) (by decide +kernel) (by kernel_rfl) (by decide +kernel) (by kernel_rfl) ?_
  refine ldA (by kernel_rfl) (by kernel_rfl) rfl hn hv ?_
  refine wpAny_pyIter_list hl ?_
  have hne : nl ≠ s.heap.objs.size := by obtain ⟨o, ho, _⟩ := hl; exact Nat.ne_of_lt (Heap.lt_size ho)
  have hlt : nl < s.heap.objs.size := by obtain ⟨o, ho, _⟩ := hl; exact Heap.lt_size ho
  refine ⟨_, _, _, _, _, _, rfl, Walks.list hh s.heap.objs.size nl hne vs.toArray, ?_, ⟨⟨_, Heap.get?_push_size _ rfl, rfl, rfl⟩, hl.push _⟩, ?_, ⟨?_, ?_⟩, ?_⟩
  · rw [sizeLine_eq]; simp only [List.size_toArray]; omega
  · intro b hb
    rw [Heap.size_push]
    simp only [List.mem_cons, List.not_mem_nil, or_false] at hb
    rcases hb with rfl | rfl
    · exact Nat.lt_succ_self _
    · exact Nat.lt_succ_of_lt hlt
  · intro C i v s₃ m₃ E' hP hn₃ hm₃ hk₃ ht₃
    exact wpAny_pure ⟨rfl, s₃.heap, s₃.toks, rfl, fun _ _ e => e⟩
  · intro C i v s₃ m₃ E' hP _ hn₃ hm₃ hk₃ ht₃
    have hP' : vs[i]? = some v := by simpa using hP
    obtain ⟨n, hc, t, rfl⟩ := hr.get' hP'
    refine wpAny_mono (E := NoE) (Q := fun y s₄ => (∃ n' t_1 u, Value.int n t = Value.int n' t_1 ∧ y = Value.str ⟨#[mk (dig n')]⟩ u) ∧ Keeps s₃ s₄) ?_ (fun _ _ x => x) fun _ _ x => x.elim
    refine e_sub (wpAny_Constant_str (wpAny_BinOp (ldL (s := { s₃ with toks := s₃.toks + 1 }) (L := C) (by kernel_rfl) (by kernel_rfl) rfl hn₃ hm₃ (wpAny_Constant_int (mod_int (by decide) ?_)))))
    rw [dig_mod]
    have hd := dig_lt n
    have h5 : dig n = 0 ∨ dig n = 1 ∨ dig n = 2 ∨ dig n = 3 ∨ dig n = 4 := by omega
    refine sub_str (c := mk (dig n)) (by omega) (by omega) ?_ fun t9 => ⟨⟨n, t, t9, rfl, rfl⟩, Back.keeps ⟨fun _ _ e => e, rfl⟩⟩
    rw [Int.toNat_natCast]
    rcases h5 with e | e | e | e | e <;> rw [e] <;> decide +kernel
  · intro D h' tk ys ws hD hl' _ hlen hP hF hk
    have hws : ws = vs := by
      apply List.ext_getElem?
      intro j
      by_cases hj : j < ws.length
      · have := hP j _ (List.getElem?_eq_getElem hj)
        rw [List.getElem?_eq_getElem hj]
        simpa using this.symm
      · have h1 : ws.length ≤ j := Nat.le_of_not_lt hj
        rw [List.getElem?_eq_none h1, List.getElem?_eq_none (by simp at hlen; omega)]
    subst hws
    rw [List.filter_eq_self.mpr (fun _ _ => rfl)] at hF
    refine h D _ ys ⟨fun b o e => hk b o (by rw [List.mem_singleton]; exact Nat.ne_of_lt (Heap.lt_size e)) (Heap.get?_push_of_some _ e), rfl⟩ hl' ?_
    refine All2.through hr (paired_all hF) fun v n y hv hy => ?_
    obtain ⟨t, rfl⟩ := hv
    obtain ⟨n', t', u, e1, rfl⟩ := hy
    injection e1 with e1 _
    subst e1
    exact ⟨u, rfl⟩

/-- told == plain -/
theorem eq_told {l b : Addr} {tA qA : Array Value} {sb : Shared} {Wx : List Addr} {xs : List (Nat × Nat)} {Q : Value → Shared → Prop} (hu : A.units + 5 < cLine) (hl : s.heap.IsList l tA) (hb : s.heap.IsList b qA) (ha : All2 (ToldR sb [] s.heap) tA.toList xs) (hq : All2 (NTup Wx s.heap) qA.toList (xs.map fun x => ([x.1], x.2)))
    (hal : ∀ v x, NTup Wx s.heap v x → v ∈ qA.toList → ∃ T o, v = .ref T ∧ sb.heap.get? T = some o) (h : Q (.bool true) s) :
    wpAny (model PR w) A (compareOp .Eq (.ref l) (.ref b)) Q NoE s := by
  have hlen : tA.size = qA.size := by
    have h1 := ha.length
    have h2 := hq.length
    rw [Array.length_toList] at h1 h2
    rw [List.length_map] at h2
    omega
  refine SeqAt.eq_listAt (e := fun _ => true) hl hb hlen (by omega) (fun j h1 h2 => ?_) ?_
  · have e1 : tA.toList[j]? = some tA[j] := by rw [Array.getElem?_toList]; exact Array.getElem?_eq_getElem h1
    have e2 : qA.toList[j]? = some qA[j] := by rw [Array.getElem?_toList]; exact Array.getElem?_eq_getElem h2
    obtain ⟨x, hx, T, t, u, hv, hT0, _, hT⟩ := ha.get' e1
    obtain ⟨y, hy, hn⟩ := hq.get' e2
    rw [List.getElem?_map, hx] at hy
    cases hy
    obtain ⟨T2, o2, hv2, ho2⟩ := hal _ _ hn (List.mem_of_getElem? e2)
    obtain ⟨T', t', u', hv', _, hT'⟩ := hn
    rw [hv, hv']
    have hne : T ≠ T' := by
      intro q
      rw [hv'] at hv2
      cases hv2
      rw [← q, hT0] at ho2; cases ho2
    refine SeqAt.EqAt.of_refs hne ?_
    have := SeqAt.RcAt.tuples (A := A.in1) (e := fun _ => true) hT hT' (by show A.units + 1 < cLine; omega) (fun j h1 h2 => by
      have : j = 0 ∨ j = 1 := by simp at h1; omega
      rcases this with rfl | rfl
      · exact fun prog w E Q hq => wpAny_eqBool_str (by simpa using hq)
      · exact fun prog w E Q hq => wpAny_eqBool_int (by simpa using hq))
    exact this
  · have : ((List.range tA.size).all fun _ => true) = true := by simp
    rw [this]; exact h
end
end Mine
end

/-! part LA6 -/
section
set_option maxRecDepth 100000
open PySem PySem.W PyProof.Rows PySem.Calls
namespace Mine

section
variable {w : World} {A : Around} {s : Shared} {mg mb : Str → Option Value} {l : Addr} {vs : List Value} {ns : List Int}

theorem single_len (l : List (Nat × Nat)) : (xsOf (l.map fun x => ([x.1], x.2))).flatten.length = l.length := by
  induction l with
  | nil => rfl
  | cons a r ih =>
    show ([a.1] ++ (xsOf (r.map fun x => ([x.1], x.2))).flatten).length = _
    rw [List.length_append, ih]; simp; omega
theorem All2.asMap {α β γ : Type} {R : α → β → Prop} {S : α → γ → Prop} {g : β → γ} {l : List α} {m : List β} (f : ∀ a b, R a b → S a (g b)) (h : All2 R l m) : All2 S l (m.map g) := by
  induction h with
  | nil => exact .nil
  | cons x _ ih => exact .cons (f _ _ x) ih
theorem codes_told {ds : List Nat} : (told ds).map (fun x => ([x.1], x.2)) = plainL (run ds) := by rw [told_plain]; rfl
/-- pile == [0] -/
theorem eq_pile {pj b : Addr} {pA : Array Value} {st : St} {t : Tok} {Q : Value → Shared → Prop} (hu : A.units + 1 < cLine) (hl : s.heap.IsList pj pA) (hb : s.heap.IsList b #[.int 0 t]) (ha : All2 NatV pA.toList (pileL st)) (h : Q (.bool (decide (st.pile = []))) s) :
    wpAny (model PR w) A (compareOp .Eq (.ref pj) (.ref b)) Q NoE s := by
  have hlen : pA.size = 1 + st.pile.length := by
    have := ha.length
    rw [Array.length_toList] at this
    rw [this]; unfold pileL; simp; omega
  by_cases hp : st.pile = []
  · rw [hp] at hlen
    refine SeqAt.eq_listAt (e := fun _ => true) hl hb (by simpa using hlen) (by omega) (fun j h1 h2 => ?_) ?_
    · have hj : j = 0 := by simp at h2; exact h2
      subst hj
      have e1 : pA.toList[0]? = some pA[0] := by rw [Array.getElem?_toList]; exact Array.getElem?_eq_getElem h1
      obtain ⟨y, hy, u, hv⟩ := ha.get' e1
      have hy0 : y = 0 := by unfold pileL at hy; simp at hy; exact hy.symm
      rw [hv, hy0]
      exact fun prog w E Q hq => wpAny_eqBool_int (by simpa using hq)
    · have : ((List.range pA.size).all fun _ => true) = true := by simp
      rw [this]; rw [decide_eq_true hp] at h; exact h
  · rw [decide_eq_false hp] at h
    refine SeqAt.eq_list_lengthsAt hl hb ?_ (by omega) h
    have : st.pile.length ≠ 0 := fun q => hp (List.length_eq_zero_iff.mp q)
    simp; omega

theorem sp_law {f : Addr} {Q : Value → Shared → Prop} (hh : A.handled = none) (hroom : A.depth + 60 < recursionLimit) (hu : A.units + 200 < cLine) (G : GL w s.heap mg mb) (ha : mg "law" = some (.ref f)) (hl : s.heap.IsList l vs.toArray) (hi : All2 IntR vs ns) (hsz : vs.length ≤ 63)
    (h : ∀ s', Kp [] s s' → Q (.bool true) s') : wpAny (model PR w) A (call (.ref f) [.ref l]) Q NoE s := by
  refine enter 13 (by simp [theDefs]) G (by omega) ha (binds := [("script", .ref l)]) ?b ?c ?l (fun pm doc cd h₀ B sz hns => ?_) ?co ?g ?k
  case b => intro _ _ _; kernel_rfl
  case c => decide +kernel
  case l => kernel_rfl
  case co => kernel_rfl
  case g => kernel_rfl
  case k => kernel_rfl
  have hA : (A.deeper (En 13 pm doc cd s.heap.objs.size f)).handled = none := hh
  have hd : (A.deeper (En 13 pm doc cd s.heap.objs.size f)).depth = A.depth + 1 := rfl
  have huu : (A.deeper (En 13 pm doc cd s.heap.objs.size f)).units = A.units + 3 := rfl
  generalize A.deeper (En 13 pm doc cd s.heap.objs.size f) = A' at hA hd huu ⊢
  have hLn : s.heap.get? s.heap.objs.size = none := Heap.get?_none_of_le (Nat.le_refl _)
  generalize s.heap.objs.size = L at hLn hns ⊢
  have es : lk [(Str.ofString "script", Value.ref l)].reverse "script" = some (.ref l) := by kernel_rfl
  have k₁ : Kp [] s { s with heap := h₀, toks := s.toks + [(Str.ofString "script", Value.ref l)].length } := ⟨fun b o _ e => B.keep b o e, rfl, fun q => q⟩
  have hns₁ : ({ s with heap := h₀, toks := s.toks + [(Str.ofString "script", Value.ref l)].length } : Shared).heap.Ns L (lk [(Str.ofString "script", Value.ref l)].reverse) := hns
  generalize ({ s with heap := h₀, toks := s.toks + [(Str.ofString "script", Value.ref l)].length } : Shared) = s₁ at k₁ hns₁ ⊢
  generalize [(Str.ofString "script", Value.ref l)].reverse = kv₁ at hns₁ es
  have Gk : ∀ {s' : Shared}, Kp [] s s' → GL w s'.heap mg mb := fun K => G.keep fun b o q => K.keep b o (by simp) q
  have aL := absorb1 hLn
  refine wpAny_execs_cons ?_
  show wpAny (model PR w) A' (exec (LB 0) (Ev pm doc cd L f)) _ NoE s₁
  refine law_nums hA (Gk k₁) hns₁ es (by obtain ⟨o, ho, r⟩ := hl; exact ⟨o, k₁.keep _ o (by simp) ho, r⟩) hi hsz fun s₂ nl nA K₂ hnl nl₂ hnA hns₂ => ?_
  have k₂ := k₁.absorb aL K₂
  have hnlL : nl ≠ L := ns_ne hns₁ hnl
  have enum₂ : lk (put kv₁ "numbers" (.ref nl)) "numbers" = some (.ref nl) := lk_put_self _ _ _
  generalize put kv₁ "numbers" (.ref nl) = kv₂ at hns₂ enum₂
  refine wpAny_execs_cons (st_nil (L := L) (by kernel_rfl) (by kernel_rfl) rfl hns₂ fun s₃ rl K₃ hrl rl₃ hns₃ => ?_)
  have k₃ := k₂.absorb aL K₃
  have hrL : rl ≠ L := ns_ne hns₂ hrl
  have hr0 : s.heap.get? rl = none := none_back k₂ (by simp) hrl
  have hnr : nl ≠ rl := fun q => by obtain ⟨o, ho, _⟩ := nl₂; rw [q, hrl] at ho; cases ho
  have nl₃ : s₃.heap.IsList nl nA := by obtain ⟨o, ho, r⟩ := nl₂; exact ⟨o, K₃.keep _ o (by simpa using hnlL) ho, r⟩
  -- pile = [0]
  refine wpAny_execs_cons (wpAny_Assign_Name (e_list (sp_cons (wpAny_Constant_int (sp_nil ⟨by size_fits, ?_⟩)))))
  have hpj : s₃.heap.get? s₃.heap.objs.size = none := Heap.get?_none_of_le (Nat.le_refl _)
  have Bp : Back s₃ { s₃ with heap := s₃.heap.push { cls := .type "list", data := .seq [Value.int 0 s₃.toks].toArray }, toks := s₃.toks + 1 } := ⟨fun b o e => Heap.get?_push_of_some _ e, rfl⟩
  have hpl : ({ s₃ with heap := s₃.heap.push { cls := .type "list", data := .seq [Value.int 0 s₃.toks].toArray }, toks := s₃.toks + 1 } : Shared).heap.PlainList s₃.heap.objs.size [Value.int 0 s₃.toks].toArray := ⟨_, Heap.get?_push_size _ rfl⟩
  generalize ({ s₃ with heap := s₃.heap.push { cls := .type "list", data := .seq [Value.int 0 s₃.toks].toArray }, toks := s₃.toks + 1 } : Shared) = s₄ at Bp hpl ⊢
  generalize s₃.heap.objs.size = pj at hpj hpl ⊢
  have hpL : pj ≠ L := ns_ne hns₃ hpj
  have hrp : rl ≠ pj := Ne.symm (ne_none rl₃ hpj)
  have hp0 : s.heap.get? pj = none := none_back k₃ (by simp) hpj
  have hnp : nl ≠ pj := fun q => by obtain ⟨o, ho, _⟩ := nl₃; rw [q, hpj] at ho; cases ho
  refine stA (L := L) (by kernel_rfl) (by kernel_rfl) rfl (hns₃.at fun o e => Bp.keep _ o e) fun s₅ K₅ g₅ hns₅ => ?_
  have K35 : Kp [L] s₃ s₅ := (Bp.kp [L]).trans K₅
  have k₅ := k₃.absorb aL K35
  refine wpAny_execs_cons (st_nil (L := L) (by kernel_rfl) (by kernel_rfl) rfl hns₅ fun s₆ ql K₆ hql ql₆ hns₆ => ?_)
  have k₆ := k₅.absorb aL K₆
  have hqL : ql ≠ L := ns_ne hns₅ hql
  have hq0 : s.heap.get? ql = none := none_back k₅ (by simp) hql
  have rl₅ := list_at rl₃ K35 (by simpa using hrL)
  have pl₅ := list_at hpl K₅ (by simpa using hpL)
  have nl₅ : s₅.heap.IsList nl nA := by obtain ⟨o, ho, r⟩ := nl₃; exact ⟨o, K35.keep _ o (by simpa using hnlL) ho, r⟩
  have hrq : rl ≠ ql := Ne.symm (ne_none rl₅ hql)
  have hpq : pj ≠ ql := Ne.symm (ne_none pl₅ hql)
  have hnq : nl ≠ ql := fun q => by obtain ⟨o, ho, _⟩ := nl₅; rw [q, hql] at ho; cases ho
  refine wpAny_execs_cons (wpAny_Assign_Name (wpAny_Constant_int ?_))
  refine stA (s := { s₆ with toks := s₆.toks + 1 }) (L := L) (by kernel_rfl) (by kernel_rfl) rfl hns₆ fun s₇ K₇ g₇ hns₇ => ?_
  have K₇' : Kp [L] s₆ s₇ := ⟨K₇.keep, K₇.os, K₇.bare⟩
  have k₇ := k₆.absorb aL K₇'
  have K57 : Kp [L] s₅ s₇ := K₆.trans K₇'
  have X₇ : WV s L rl pj ql #[] [Value.int 0 s₃.toks].toArray #[] 0 _ s₇ := ⟨k₇, hns₇,
    by rw [lk_put_ne (by decide), lk_put_ne (by decide), lk_put_ne (by decide), lk_put_self], by rw [lk_put_ne (by decide), lk_put_ne (by decide), lk_put_self], by rw [lk_put_ne (by decide), lk_put_self], ⟨_, lk_put_self _ _ _⟩,
    list_at rl₅ K57 (by simpa using hrL), list_at pl₅ K57 (by simpa using hpL), list_at ql₆ K₇' (by simpa using hqL)⟩
  have nl₇ : s₇.heap.IsList nl nA := by obtain ⟨o, ho, r⟩ := nl₅; exact ⟨o, K57.keep _ o (by simpa using hnlL) ho, r⟩
  have enum₇ : lk (put (put (put (put kv₂ "row" (.ref rl)) "pile" (.ref pj)) "plain" (.ref ql)) "spare" (.int 0 s₆.toks)) "numbers" = some (.ref nl) := by
    rw [lk_put_ne (by decide), lk_put_ne (by decide), lk_put_ne (by decide), lk_put_ne (by decide)]; exact enum₂
  have hlen := numsOf_len ns
  refine wpAny_execs_cons ?_
  show wpAny (model PR w) A' (exec (LB 5) (Ev pm doc cd L f)) _ NoE s₇
  refine law_loop hA G hLn hr0 hp0 hq0 ⟨hrL, hpL, hqL, hrp, hrq, hpq⟩ hnlL hnr hnp hnq nl₇ hnA hlen X₇ enum₇ (.cons ⟨s₃.toks, rfl⟩ .nil) fun s₈ e it H₈ => ?_
  obtain ⟨kv₈, pk, rA, pA, qA, X₈, enum₈, ap₈, pk0, K₈, pc, _, _, pn, aR, aP, aQ, _⟩ := H₈
  generalize hds : (numsOf ns).map dig = ds at X₈ aR aP aQ
  have hdl : ds.length ≤ 10 := by rw [← hds, List.length_map]; exact hlen
  have hd5 : ∀ d ∈ ds, d < 5 := by intro d hd; rw [← hds] at hd; obtain ⟨n, _, rfl⟩ := List.mem_map.mp hd; exact dig_lt n
  rw [rowC_all] at aR
  have nl₈ : s₈.heap.IsList nl nA := by obtain ⟨o, ho, r⟩ := nl₇; exact ⟨o, K₈.keep _ o (by simp only [List.mem_cons, List.not_mem_nil, or_false, not_or]; exact ⟨hnlL, hnr, hnp, hnq⟩) ho, r⟩
  have G₈ := Gk X₈.kp
  obtain ⟨f10, hf10⟩ := fn_of G₈ 10 (by simp [theDefs])
  have hf10 : mg "_law_levels" = some (.ref f10) := hf10
  obtain ⟨f2, hf2⟩ := fn_of G₈ 2 (by simp [theDefs])
  have hf2 : mg "_check_parenthesis" = some (.ref f2) := hf2
  obtain ⟨f11, hf11⟩ := fn_of G₈ 11 (by simp [theDefs])
  have hf11 : mg "_law_shown" = some (.ref f11) := hf11
  obtain ⟨f12, hf12⟩ := fn_of G₈ 12 (by simp [theDefs])
  have hf12 : mg "_law_nested" = some (.ref f12) := hf12
  refine wpAny_execs_cons (wpAny_Assign_Name ?_)
  refine e_fn (a := f10) 10 (by simp [theDefs]) (by kernel_rfl) (by kernel_rfl) rfl G₈ (by kernel_rfl) hf10 (by decide) ?_
  refine sp_cons (ldA (L := L) (by kernel_rfl) (by kernel_rfl) rfl X₈.ns X₈.row (sp_nil ⟨fun _ _ e => e, ?_⟩))
  refine sp_levels (vs := rA.toList) hA (by omega) G₈ hf10 (by rw [Array.toArray_toList]; exact X₈.rlist.isList) hd5 hdl aR fun s₉ tl tA K₉ htl tl₉ aT => ?_
  have X₉ := X₈.then K₉ (by simp) (by simp) (by simp) (by simp) (by simp)
  have htlL : tl ≠ L := ns_ne X₈.ns htl
  refine WV.store hLn ap₈ X₉ (by decide) (by decide) (by decide) (by decide) (by kernel_rfl) fun s₁₀ X₁₀ K₁₀ => ?_
  have etold : lk (put kv₈ "told" (.ref tl)) "told" = some (.ref tl) := lk_put_self _ _ _
  have enum₁₀ : lk (put kv₈ "told" (.ref tl)) "numbers" = some (.ref nl) := by rw [lk_put_ne (by decide)]; exact enum₈
  generalize put kv₈ "told" (.ref tl) = kv at X₁₀ etold enum₁₀
  have hLal : ∃ o, s₈.heap.get? L = some o := by obtain ⟨o, _, _, ho, _⟩ := X₈.ns; exact ⟨o, ho⟩
  have K8_10 : Kp [L] s₈ s₁₀ := (K₉.absorb (W := []) (W' := []) (by simp) (Kp.refl _ _)) |> fun k => ⟨fun b o hb q => K₁₀.keep b o hb (k.keep b o (by simp) q), K₁₀.os.trans k.os, fun q => K₁₀.bare (k.bare q)⟩
  have aT₁₀ : All2 (ToldR s₈ [] s₁₀.heap) tA.toList (told ds) := aT.mono fun v x r => by
    obtain ⟨T, t, u, rfl, h1, h2, o, ho, r⟩ := r
    exact ⟨T, t, u, rfl, h1, h2, o, K₁₀.keep T o (by rw [List.mem_singleton]; intro q; obtain ⟨o', ho'⟩ := hLal; rw [q, ho'] at h1; cases h1) ho, r⟩
  have aQ₁₀ : All2 (NTup [L, rl, pk, ql, e, it] s₁₀.heap) qA.toList (plainL (run ds)) := aQ.mono fun v x r => r.keep K8_10 (by simp)
  have tl₁₀ := list_at tl₉ K₁₀ (by simpa using htlL)
  have nl₁₀ : s₁₀.heap.IsList nl nA := by obtain ⟨o, ho, r⟩ := nl₈; exact ⟨o, K8_10.keep _ o (by simpa using hnlL) ho, r⟩
  have G₁₀ := Gk X₁₀.kp
  have hbd := pile_bound ds ds.length
  have hps : (plainL (run ds)).length ≤ 10 := by unfold plainL; rw [List.length_map]; exact Nat.le_trans hbd.2.1 hdl
  have hfl : (xsOf (plainL (run ds))).flatten.length ≤ 10 := by unfold plainL; rw [single_len]; exact Nat.le_trans hbd.2.1 hdl
  have hlev : ∀ y ∈ plainL (run ds), y.2 ≤ 20 := by
    intro y hy
    obtain ⟨x, hx, rfl⟩ := List.mem_map.mp hy
    have := hbd.2.2.2 x hx
    show x.2 ≤ 20
    omega
  have hal : ∀ v x (h' : Heap), NTup [L, rl, pk, ql, e, it] h' v x → v ∈ qA.toList → ∃ T o, v = .ref T ∧ s₈.heap.get? T = some o := by
    intro v x h' _ hm
    obtain ⟨i, ei⟩ := List.getElem?_of_mem hm
    obtain ⟨y, _, T, t, u, hv, _, o, ho, _⟩ := aQ.get' ei
    exact ⟨T, o, hv, ho⟩
  have last : ∀ s', Kp [] s₁₀ s' → wpAny (model PR w) A' (execs [LB 8] (Ev pm doc cd L f)) (fun f s' => Q (match f with | .ret v => v | _ => .none) s') NoE s' := by
    intro s₁₁ K
    have X₁₁ := X₁₀.then K (by simp) (by simp) (by simp) (by simp) (by simp)
    have G₁₁ := Gk X₁₁.kp
    have tl₁₁ := (list_at tl₁₀ K (by simp)).isList
    have aT₁₁ : All2 (ToldR s₈ [] s₁₁.heap) tA.toList (told ds) := aT₁₀.mono fun v x r => r.keep K (by simp)
    have aQ₁₁ : All2 (NTup [L, rl, pk, ql, e, it] s₁₁.heap) qA.toList (plainL (run ds)) := aQ₁₀.mono fun v x r => r.keep K (by simp)
    refine wpAny_execs_cons (wpAny_Return_some (wpAny_And2 (wpAny_Compare1 (ldA (L := L) (by kernel_rfl) (by kernel_rfl) rfl X₁₁.ns etold (ldA (L := L) (by kernel_rfl) (by kernel_rfl) rfl X₁₁.ns X₁₁.plain ?_)))))
    refine eq_told (xs := told ds) (by omega) tl₁₁ X₁₁.qlist.isList aT₁₁ (by rw [codes_told]; exact aQ₁₁) (fun v x hv hm => hal v x _ hv hm) ?_
    refine wpAny_truthy_bool ?_
    rw [if_pos rfl]
    refine wpAny_Compare1 ?_
    refine e_fn (a := f11) 11 (by simp [theDefs]) (by kernel_rfl) (by kernel_rfl) rfl G₁₁ (by kernel_rfl) hf11 (by decide) ?_
    refine sp_cons (ldA (L := L) (by kernel_rfl) (by kernel_rfl) rfl X₁₁.ns etold (sp_nil ⟨fun _ _ e => e, ?_⟩))
    refine sp_shown (ps := plainL (run ds)) hA (by omega) G₁₁ hf11 tl₁₁ (by rw [← codes_told]; exact aT₁₁.asMap fun v x ⟨T, t, u, e, _, _, r⟩ => ⟨T, t, u, e, r⟩) (by omega) (by omega) hlev fun s₁₂ M tM K₁₂ hM hlM => ?_
    have X₁₂ := X₁₁.then K₁₂ (by simp) (by simp) (by simp) (by simp) (by simp)
    have G₁₂ := Gk X₁₂.kp
    refine e_fn (a := f12) 12 (by simp [theDefs]) (by kernel_rfl) (by kernel_rfl) rfl G₁₂ (by kernel_rfl) hf12 (by decide) ?_
    refine sp_cons (ldA (L := L) (by kernel_rfl) (by kernel_rfl) rfl X₁₂.ns X₁₂.plain (sp_cons (wpAny_Constant_int (sp_nil ⟨fun _ _ e => e, ?_⟩))))
    refine sp_nested hf12 M A' { s₁₂ with toks := s₁₂.toks + 1 } ql qA (plainL (run ds)) 0 s₁₂.toks _ hA (by omega) (by omega) G₁₂ X₁₂.qlist.isList (aQ₁₁.mono fun v x r => (r.keep K₁₂ (by simp)).tup) (by omega) (by omega) (fun y hy => ⟨Nat.zero_le _, by have := hlM y hy; omega⟩) fun s₁₃ t K₁₃ => ?_
    rw [nest_is M _ 0 (fun y hy => ⟨Nat.zero_le _, by have := hlM y hy; omega⟩)]
    refine PySem.P.eq_str ?_
    rw [beq_self_eq_true]
    exact h _ (X₁₂.kp.trans ⟨K₁₃.keep, K₁₃.os, K₁₃.bare⟩)
  -- the check
  refine wpAny_execs_cons (wpAny_If (wpAny_isTrue_Compare1 ?_))
  refine e_fn (a := f2) 2 (by simp [theDefs]) (by kernel_rfl) (by kernel_rfl) rfl G₁₀ (by kernel_rfl) hf2 (by decide) ?_
  refine sp_cons (e_join rfl rfl rfl ?_)
  refine comp_v (s := { s₁₀ with toks := s₁₀.toks + 1 }) (L := L) (vs := nA.toList) hA X₁₀.ns enum₁₀ (by rw [Array.toArray_toList]; exact nl₁₀) hnA (by have := hnA.length; omega) fun D s₁₁ ys B₁₁ hD aS => ?_
  have hcs : (numsOf ns).map (fun n => mk (dig n)) = ds.map mk := by rw [← hds, List.map_map]; rfl
  rw [hcs] at aS
  refine ⟨D, ys, _, rfl, hD, strOf_codes aS, ?_, fun t k => ?_⟩
  · rw [sum_codes, List.length_map]; omega
  rw [cat_codes]
  refine sp_nil ⟨fun b o q => B₁₁.keep b o q, ?_⟩
  have K₁₁ : Kp [] s₁₀ { s₁₁ with toks := k } := ⟨fun b o _ q => B₁₁.keep b o q, by show s₁₁.os = _; rw [B₁₁.rest], fun q => by show AllBare s₁₁.gens; rw [B₁₁.rest]; exact q⟩
  refine sp_check (fun c hc => ?_) (Gk (X₁₀.kp.trans K₁₁)) hA (by omega) hf2 fun s₁₂ K₁₂ => ?_
  · obtain ⟨d, _, rfl⟩ := List.mem_map.mp hc
    exact mk_cases d
  rw [List.toList_toArray, chk_run]
  have K₁₂' := K₁₁.trans K₁₂
  have X₁₂ := X₁₀.then K₁₂' (by simp) (by simp) (by simp) (by simp) (by simp)
  obtain ⟨tsp, hsp⟩ := X₁₂.spare
  refine wpAny_And2 (wpAny_Compare1 (ldA (L := L) (by kernel_rfl) (by kernel_rfl) rfl X₁₂.ns hsp (wpAny_Constant_int (eq_int (wpAny_truthy_bool ?_)))))
  by_cases h0 : (run ds).spare = 0
  · have e0 : (((runUpto ds ds.length).spare : Int) == 0) = true := by
      rw [show (runUpto ds ds.length).spare = 0 from h0]; rfl
    rw [e0, if_pos rfl]
    refine wpAny_Compare1 (ldA (L := L) (by kernel_rfl) (by kernel_rfl) rfl X₁₂.ns X₁₂.pile (e_list (sp_cons (wpAny_Constant_int (sp_nil ⟨by size_fits, ?_⟩)))))
    have B₁₃ : Back s₁₂ { s₁₂ with heap := s₁₂.heap.push { cls := .type "list", data := .seq [Value.int 0 (s₁₂.toks + 1)].toArray }, toks := s₁₂.toks + 1 + 1 } := ⟨fun b o e => Heap.get?_push_of_some _ e, rfl⟩
    refine eq_pile (t := s₁₂.toks + 1) (st := run ds) (by omega) (X₁₂.back B₁₃).plist.isList ⟨_, Heap.get?_push_size _ rfl, rfl, _, rfl⟩ aP ?_
    refine SeqAt.RcNeAt.bool_bool _ _ _ _ _ _ (wpAny_truthy_bool ?_)
    have e2 : (!(decide ((run ds).spare = 0 ∧ (run ds).pile = []) == decide ((run ds).pile = []))) = false := by simp [h0]
    rw [e2, if_neg Bool.false_ne_true]
    exact wpAny_execs_nil (last _ (K₁₂'.then B₁₃))
  · have e0 : (((runUpto ds ds.length).spare : Int) == 0) = false := by
      have h1 : (runUpto ds ds.length).spare ≠ 0 := h0
      simp; omega
    rw [e0, if_neg Bool.false_ne_true]
    refine SeqAt.RcNeAt.bool_bool _ _ _ _ _ _ (wpAny_truthy_bool ?_)
    have e2 : (!(decide ((run ds).spare = 0 ∧ (run ds).pile = []) == false)) = false := by simp [h0]
    rw [e2, if_neg Bool.false_ne_true]
    exact wpAny_execs_nil (last _ (K₁₂'.tok _))
end
end Mine
end

/-! part LA7 -/
section
set_option maxRecDepth 100000
open PySem PySem.W PyProof.Rows PySem.Calls
namespace Mine

theorem law_call (w : World) (s : Shared) (mg mb : Str → Option Value) (l : Addr) (vs : List Value) (ns : List Int) (G : GL w s.heap mg mb) (hg : s.gens = #[]) (hl : s.heap.IsList l vs.toArray) (hi : IntsAre vs ns) (hn : ns.length ≤ 63) :
    ∃ a, mg "law" = some (.ref a) ∧ wpAny (model PR w) callerA (call (.ref a) [.ref l]) (fun v s' => v = .bool true ∧ (∀ b o, s.heap.get? b = some o → s'.heap.get? b = some o) ∧ s'.os = s.os ∧ AllBare s'.gens) (fun _ _ => False) s := by
  obtain ⟨f, hf⟩ := fn_of G 13 (by simp [theDefs])
  have hf : mg "law" = some (.ref f) := hf
  have hi' : All2 IntR vs ns := All2.ints hi
  refine ⟨f, hf, sp_law (A := callerA) rfl (by decide) (by decide) G hf hl hi' (by rw [hi'.length]; exact hn) fun s' K => ⟨rfl, fun b o e => K.keep b o (by simp) e, K.os, K.bare ?_⟩⟩
  exact AllBare.of_eq hg
end Mine

namespace Mine
abbrev RWL : OpenLaw := PySem.Challenge.rw_wc0011_01
theorem said_looks : looksOpen RWL.row.prog = true := by
  unfold looksOpen
  repeat' with_reducible refine look_both ?_ ?_
  all_goals decide +kernel
theorem said_part : RWL.row.partSaid = true := by
  unfold OpenRow.partSaid
  repeat' with_reducible refine look_both ?_ ?_
  all_goals first | with_reducible exact said_looks | decide +kernel
theorem said_row : RWL.row.wellSaid = true := by
  unfold OpenRow.wellSaid
  repeat' with_reducible refine look_both ?_ ?_
  all_goals first | with_reducible exact said_part | decide +kernel
theorem said : OpenLaw.wellSaid RWL = true := by
  unfold OpenLaw.wellSaid
  repeat' with_reducible refine look_both ?_ ?_
  all_goals first | with_reducible exact said_row | decide +kernel
theorem wit : RWL.row.toRowW.promised := by
  exact ⟨[.list []], by decide +kernel, by decide +kernel⟩
end Mine
end

open PySem PySem.W PyProof.Rows
set_option maxRecDepth 100000 in
theorem PySem.Challenge.cw_wc0011_01_holds : PySem.Challenge.rw_wc0011_01.Holds :=
  holds_law Mine.said fun said => ⟨said, Mine.wit, Mine.holds_open Mine.law_call⟩
