import PyProof.Rows.All
import Wide.All
import Open.Head
import Open.Line
import PySem.Challenge.RW_mq0482_01
set_option Elab.async false

/-! Dct -/
section
open PySem PySem.W PyProof.Rows
set_option Elab.async false
namespace Mine

def GInt (prog : Program) (w : World) (A : Around) (x : Sem Value) (n : Int) : Prop :=
  ∀ (E : Value → Shared → Prop) (s : Shared) (Q : Value → Shared → Prop), (∀ t tk, Q (.int n t) { s with toks := tk }) → wpAny (model prog w) A x Q E s
def GStr (prog : Program) (w : World) (A : Around) (v : Sem Value) (x : Str) : Prop :=
  ∀ (E : Value → Shared → Prop) (s : Shared) (Q : Value → Shared → Prop), (∀ t tk, Q (.str x t) { s with toks := tk }) → wpAny (model prog w) A v Q E s
def Trees (prog : Program) (w : World) (A : Around) : List (Sem Value × Sem Value) → List (Int × Str) → Prop
  | [], [] => True
  | p :: r, k :: q => GInt prog w A p.1 k.1 ∧ GStr prog w A p.2 k.2 ∧ Trees prog w A r q
  | _, _ => False
def Vals : List (Int × Value) → List (Int × Str) → Prop
  | [], [] => True
  | p :: r, k :: q => p.1 = k.1 ∧ (∃ t, p.2 = .str k.2 t) ∧ Vals r q
  | _, _ => False

theorem Vals.keys : ∀ {kvs : List (Int × Value)} {ks : List (Int × Str)}, Vals kvs ks → kvs.map (·.1) = ks.map (·.1)
  | [], [], _ => rfl
  | _ :: _, _ :: _, h => by rw [List.map_cons, List.map_cons, h.1, Vals.keys h.2.2]
  | [], _ :: _, h => h.elim
  | _ :: _, [], h => h.elim
theorem Vals.append : ∀ {a : List (Int × Value)} {ka : List (Int × Str)} {b : List (Int × Value)} {kb : List (Int × Str)}, Vals a ka → Vals b kb → Vals (a ++ b) (ka ++ kb)
  | [], [], _, _, _, h => h
  | _ :: _, _ :: _, _, _, h, h' => ⟨h.1, h.2.1, Vals.append h.2.2 h'⟩
  | [], _ :: _, _, _, h, _ => h.elim
  | _ :: _, [], _, _, h, _ => h.elim
theorem Trees.append {prog : Program} {w : World} {A : Around} : ∀ {a : List (Sem Value × Sem Value)} {ka : List (Int × Str)} {b : List (Sem Value × Sem Value)} {kb : List (Int × Str)}, Trees prog w A a ka → Trees prog w A b kb → Trees prog w A (a ++ b) (ka ++ kb)
  | [], [], _, _, _, h => h
  | _ :: _, _ :: _, _, _, h, h' => ⟨h.1, h.2.1, Trees.append h.2.2 h'⟩
  | [], _ :: _, _, _, h, _ => h.elim
  | _ :: _, [], _, _, h, _ => h.elim
theorem Trees.length {prog : Program} {w : World} {A : Around} : ∀ {a : List (Sem Value × Sem Value)} {ka : List (Int × Str)}, Trees prog w A a ka → a.length = ka.length
  | [], [], _ => rfl
  | _ :: _, _ :: _, h => by rw [List.length_cons, List.length_cons, Trees.length h.2.2]
  | [], _ :: _, h => h.elim
  | _ :: _, [], h => h.elim

theorem stored_new {acc : List (Int × Value)} {k : Int} {v : Value} (h : k ∉ acc.map (·.1)) : stored acc k v = acc ++ [(k, v)] := by
  unfold stored
  rw [if_neg]
  rw [List.any_eq_true]
  rintro ⟨kv, hkv, he⟩
  exact h (List.mem_map.mpr ⟨kv, hkv, of_decide_eq_true he⟩)

section
variable {prog : Program} {w : World} {A : Around} {E : Value → Shared → Prop}

theorem fill {d : Addr} : ∀ (ps : List (Sem Value × Sem Value)) (ks : List (Int × Str)) (acc : List (Int × Value)) (s : Shared) (Q : PUnit → Shared → Prop), Trees prog w A ps ks → s.heap.DictOf (intKind prog w) d acc →
    acc.length + ks.length ≤ 100000 → (acc.map (·.1) ++ ks.map (·.1)).Nodup →
    (∀ h' tk more, h'.DictOf (intKind prog w) d (acc ++ more) → Vals more ks → Heap.SameBut d s.heap h' → Q PUnit.unit { s with heap := h', toks := tk }) →
    wpAny (model prog w) A (forIn ps PUnit.unit fun x (_ : PUnit) => (do
      let kv ← x.1
      let vv ← holding [kv] x.2
      holding [kv, vv] (dictSet d kv vv)
      pure (ForInStep.yield PUnit.unit) : Sem (ForInStep PUnit))) Q E s
  | [], [], acc, s, Q, _, hm, _, _, hQ => by
    rw [List.forIn_nil]
    exact wpAny_pure (by simpa using hQ s.heap s.toks [] (by simpa using hm) trivial (Heap.SameBut.refl _ _))
  | (k, v) :: ps, (n, x) :: ks, acc, s, Q, ht, hm, hsz, hn, hQ => by
    obtain ⟨hk, hv, ht'⟩ := ht
    rw [List.forIn_cons]
    refine wpAny_bind (wpAny_bind (hk _ _ _ fun t tk => wpAny_bind (wpAny_holding (hv _ _ _ fun t' tk' => ?_))))
    have hnm : n ∉ acc.map (·.1) := by
      intro hmem
      rw [List.map_cons, List.nodup_append] at hn
      exact hn.2.2 n hmem n List.mem_cons_self rfl
    rw [List.length_cons] at hsz
    refine wpAny_bind (wpAny_holding (wpAny_dictSet_pairs (knd := intKind prog w) (s := { s with toks := tk' }) (hsz := by rw [sizeLine_eq]; omega) (intKind_is prog w n t) hm fun h₁ hm₁ hs₁ => wpAny_pure ?_))
    rw [stored_new hnm] at hm₁
    refine fill ps ks (acc ++ [(n, .str x t')]) _ Q ht' hm₁ (by rw [List.length_append]; simp only [List.length_cons, List.length_nil]; omega) (by simpa using hn) fun h' tk'' more hd hv' hs' => ?_
    have := hQ h' tk'' ((n, .str x t') :: more) (by simpa using hd) ⟨rfl, ⟨t', rfl⟩, hv'⟩ (hs₁.trans hs')
    exact this
  | [], _ :: _, _, _, _, ht, _, _, _, _ => ht.elim
  | _ :: _, [], _, _, _, ht, _, _, _, _ => ht.elim

theorem evalAllPairs : ∀ (ps : List (Sem Value × Sem Value)) (ks : List (Int × Str)) (s : Shared) (Q : List (Value × Value) → Shared → Prop), Trees prog w A ps ks →
    (∀ tk vs kvs, Carries (intKind prog w) vs kvs → Vals kvs ks → Q vs { s with toks := tk }) → wpAny (model prog w) A (evalPairs ps) Q E s
  | [], [], s, Q, _, hQ => evalPairs_nil (by simpa using hQ s.toks [] [] trivial trivial)
  | (k, v) :: ps, (n, x) :: ks, s, Q, ht, hQ => by
    obtain ⟨hk, hv, ht'⟩ := ht
    refine evalPairs_cons (hk _ _ _ fun t tk => hv _ _ _ fun t' tk' => ?_)
    refine evalAllPairs ps ks _ _ ht' fun tk'' vs kvs hc hvs => ?_
    exact hQ tk'' ((.int n t, .str x t') :: vs) ((n, .str x t') :: kvs) ⟨intKind_is prog w n t, rfl, hc⟩ ⟨rfl, ⟨t', rfl⟩, hvs⟩
  | [], _ :: _, _, _, ht, _ => ht.elim
  | _ :: _, [], _, _, ht, _ => ht.elim

variable {s : Shared}

theorem wp_subDict {ps : List (Sem Value × Sem Value)} {ks : List (Int × Str)} {Q : Addr → Shared → Prop} (ht : Trees prog w A ps ks) (hl : ks.length ≤ 17) (hn : (ks.map (·.1)).Nodup)
    (hQ : ∀ h' tk kvs, h'.DictOf (intKind prog w) s.heap.objs.size kvs → Vals kvs ks → (∀ b o, s.heap.get? b = some o → h'.get? b = some o) → Q s.heap.objs.size { s with heap := h', toks := tk }) :
    wpAny (model prog w) A (subDict ps) Q E s := by
  unfold subDict
  refine wpAny_bind (wpAny_alloc (wpAny_bind (wpAny_holding ?_)))
  have hd₀ : (s.heap.push { cls := .type "dict", data := .dict #[] }).DictOf (intKind prog w) s.heap.objs.size [] := Heap.DictOf.new s.heap
  have up : ∀ h', Heap.SameBut s.heap.objs.size (s.heap.push { cls := .type "dict", data := .dict #[] }) h' → ∀ b o, s.heap.get? b = some o → h'.get? b = some o := fun h' hs b o e =>
    (hs.2 b (Nat.ne_of_lt (Heap.lt_size e))).trans (Heap.get?_push_of_some _ e)
  by_cases hlen : ps.length ≤ 15
  · rw [if_pos hlen]
    refine wpAny_bind (evalAllPairs ps ks _ _ ht fun tk vs kvs hc hv => wpAny_holding ?_)
    have hkl : kvs.length = ks.length := by have := congrArg List.length hv.keys; simpa using this
    refine wpAny_bind (wpAny_storeAll (knd := intKind prog w) vs kvs [] _ _ hc hd₀ (by rw [sizeLine_eq, List.length_nil]; omega) fun h' hm' hs' => wpAny_pure (wpAny_pure ?_))
    rw [merged_nil_of_nodup kvs (by rw [hv.keys]; exact hn)] at hm'
    exact hQ h' _ kvs hm' hv (up h' hs')
  · rw [if_neg hlen]
    refine wpAny_bind (wpAny_rule ?_)
    refine wpAny_bind (fill ps ks [] _ _ ht hd₀ (by simp; omega) (by simpa using hn) fun h' tk more hd hv hs => wpAny_pure (wpAny_pure ?_))
    exact hQ h' tk more (by simpa using hd) hv (up h' hs)
end
end Mine
end

/-! Dct2 -/
section
open PySem PySem.W PyProof.Rows
set_option Elab.async false
namespace Mine
section
variable {prog : Program} {w : World} {A : Around} {E : Value → Shared → Prop} {s : Shared}

theorem wp_dictPut {d : Addr} {acc : List (Int × Value)} {k : Int} {key v : Value} {Q : Unit → Shared → Prop} (hkey : (intKind prog w).is k key = true) (hm : s.heap.DictOf (intKind prog w) d acc) (hnew : k ∉ acc.map (·.1)) (hsz : acc.length ≤ 100000)
    (hQ : ∀ h', h'.DictOf (intKind prog w) d (acc ++ [(k, v)]) → Heap.SameBut d s.heap h' → Q () { s with heap := h' }) :
    wpAny (model prog w) A (dictPut d ((intKind prog w).hash k) key v) Q E s := by
  obtain ⟨o, es, ep, ho, hc, hd, hk, hp, hn⟩ := hm
  have hes : es.size ≤ sizeLine := by
    have e1 := hp.length
    have e2 : es.toList.length = es.size := by simp
    rw [sizeLine_eq]; omega
  unfold dictPut
  refine wpAny_bind (wpAny_dictFind_of hkey ho hd hk ?_)
  have hidx : (es.findIdx? fun e => (intKind prog w).is k e.key) = acc.findIdx? fun kv => decide (kv.1 = k) := by
    rw [← hp.findIdx k]; obtain ⟨l⟩ := es; simp
  cases hi : es.findIdx? fun e => (intKind prog w).is k e.key with
  | some i =>
    exfalso
    have h1 : acc.any (fun kv => decide (kv.1 = k)) = true := any_of_findIdx_some (hidx ▸ hi)
    rw [List.any_eq_true] at h1
    obtain ⟨kv, hkv, he⟩ := h1
    exact hnew (List.mem_map.mpr ⟨kv, hkv, of_decide_eq_true he⟩)
  | none =>
    refine wpAny_updateDictKeys (hz := hes) ho hd (hQ _ ⟨_, _, ep + 1, Heap.get?_update_self _ ho (Obj.isFreed_of_dict (Obj.data_mapDictKeys hd _)),
      hc.mapDictKeys _, Obj.data_mapDictKeys hd _, hk.push hkey _, ?_, ?_⟩ (Heap.SameBut.update ..))
    · have := hp.append hkey ((intKind prog w).hash k) v
      obtain ⟨l⟩ := es
      simpa using this
    · rw [List.map_append, List.nodup_append]
      refine ⟨hn, by simp, ?_⟩
      intro a ha b hb
      simp only [List.map_cons, List.map_nil, List.mem_singleton] at hb
      subst hb
      exact fun e => hnew (e ▸ ha)

theorem wp_merge {d sub : Addr} {acc more : List (Int × Value)} {Q : Unit → Shared → Prop} (hne : d ≠ sub) (hoS : (sub == sysModules) = false) (hd : s.heap.DictOf (intKind prog w) d acc) (hs : s.heap.DictOf (intKind prog w) sub more) (hacc : acc ≠ [])
    (hsz : acc.length + more.length ≤ 100000) (hnd : (acc.map (·.1) ++ more.map (·.1)).Nodup)
    (hQ : ∀ h', h'.DictOf (intKind prog w) d (acc ++ more) → Heap.SameBut d s.heap h' → Q () { s with heap := h' }) :
    wpAny (model prog w) A (mergeMapping d (.ref sub) false) Q E s := by
  obtain ⟨od, esd, epd, hod, hcd, hdd, hkd, hpd, hnd'⟩ := id hd
  obtain ⟨oo, eso, epo, hoo, hco, hdo', hko, hpo, hno⟩ := id hs
  unfold mergeMapping
  refine wpAny_bind (wpAny_isInstance hs.typeIs isSubtype_dict_dict ?_)
  rw [if_pos rfl]
  refine wpAny_bind (wpAny_specialOf hs.typeIs F.slot_dict_iter.lookup (wpAny_bind (wpAny_pure ?_)))
  simp only [beq_self_eq_true]
  rw [if_neg (by rw [hoS]; exact Bool.false_ne_true)]
  refine wpAny_bind (wpAny_dictEntries hod hdd ?_)
  have hemp : ¬ esd.isEmpty = true := by
    intro h
    have h0 : esd = #[] := Array.isEmpty_iff.mp h
    have := hpd.length
    rw [h0] at this
    exact hacc (List.length_eq_zero_iff.mp (by simpa using this.symm))
  rw [if_neg hemp]
  refine wpAny_bind (wpAny_dictEntries hoo hdo' ?_)
  refine wpAny_bind (wpAny_dictEpoch hoo hdo' ?_)
  have hlen : more.length = eso.size := by rw [← hpo.length]; simp
  refine wpAny_bind ?_
  rw [List.range_eq_range']
  refine wpAny_forIn_list _
      (fun rest _ s' => ∃ h' i, s' = { s with heap := h' } ∧ rest = List.range' i (eso.size - i) ∧ i ≤ eso.size ∧ h'.DictOf (intKind prog w) d (acc ++ more.take i) ∧ h'.get? sub = some oo ∧ Heap.SameBut d s.heap h')
      _ ?_ ?_ _ _ ⟨s.heap, 0, rfl, by simp, Nat.zero_le _, by simpa using hd, hoo, Heap.SameBut.refl _ _⟩
  · rintro x rest b s' ⟨h', i, rfl, hr, hi, hd', hoo', hs'⟩
    have hlt : i < eso.size := by
      rcases Nat.lt_or_ge i eso.size with h | h
      · exact h
      · rw [Nat.sub_eq_zero_of_le h] at hr; simp at hr
    obtain ⟨rfl, hrest⟩ : x = i ∧ rest = List.range' (i + 1) (eso.size - (i + 1)) := by
      have e : eso.size - i = (eso.size - (i + 1)) + 1 := by omega
      rw [e, List.range'_succ] at hr
      injection hr with h1 h2
      exact ⟨h1, h2⟩
    refine wpAny_bind (wpAny_dictEntries hoo' hdo' ?_)
    rw [Array.getElem?_eq_getElem hlt]
    have hxl : x < more.length := by rw [hlen]; exact hlt
    obtain ⟨kv, hkv⟩ : ∃ kv, more[x]? = some kv := ⟨more[x]'hxl, List.getElem?_eq_getElem _⟩
    obtain ⟨k, v⟩ := kv
    obtain ⟨hkey, hval⟩ := hpo.get? (e := eso[x]) (by simp [hlt]) hkv
    obtain ⟨k', hkey', hhash⟩ := hko eso[x] (Array.getElem_mem hlt)
    obtain rfl : k' = k := (intKind prog w).inj _ _ _ hkey' hkey
    dsimp only
    rw [if_neg Bool.false_ne_true, hhash, hval]
    have htk : more.take (x + 1) = more.take x ++ [(k', v)] := by
      rw [List.take_add_one, hkv]; rfl
    have hfresh : k' ∉ (acc ++ more.take x).map (·.1) := by
      have hsub : ((acc ++ more.take (x + 1)).map (·.1)).Nodup := by
        rw [List.map_append]
        refine hnd.sublist (List.Sublist.append_left ?_ _)
        exact (List.take_sublist _ _).map _
      rw [htk, ← List.append_assoc, List.map_append, List.nodup_append] at hsub
      intro hmem
      exact hsub.2.2 k' hmem k' (by simp) rfl
    refine wpAny_bind (wpAny_holding (wp_dictPut hkey hd' hfresh (by rw [List.length_append, List.length_take]; omega) fun h'' hd'' hs'' => ?_))
    have hoo'' : h''.get? sub = some oo := (hs''.2 sub (Ne.symm hne)).trans hoo'
    refine wpAny_bind (wpAny_dictEpoch hoo'' hdo' ?_)
    rw [if_neg (by simp)]
    exact wpAny_pure ⟨h'', x + 1, rfl, hrest, hlt, by rw [htk, ← List.append_assoc]; exact hd'', hoo'', hs'.trans hs''⟩
  · rintro b s' ⟨h', i, rfl, hr, hi, hd', hoo', hs'⟩
    have hin : i = eso.size := by
      rcases Nat.lt_or_ge i eso.size with h | h
      · have e : eso.size - i = (eso.size - (i + 1)) + 1 := by omega
        rw [e, List.range'_succ] at hr; exact nomatch hr
      · exact Nat.le_antisymm hi h
    refine wpAny_pure (hQ h' ?_ hs')
    rw [hin, ← hlen, List.take_length] at hd'; exact hd'
end
end Mine
end

/-! Dct3 -/
section
open PySem PySem.W PyProof.Rows
set_option Elab.async false
namespace Mine
section
variable {prog : Program} {w : World} {A : Around} {E : Value → Shared → Prop} {s : Shared}

def flushT (main : Option Addr) (run : List (Sem Value × Sem Value)) : Sem (Option Addr) :=
  if run.isEmpty = true then pure main else match main with
    | none => do
      let x ← subDict run
      pure (some x)
    | some d => do
      let sub ← holding [Value.ref d] (subDict run)
      (holding [Value.ref d, Value.ref sub] (mergeMapping d (Value.ref sub) false)).onRaise fun x => do
        let _ ← holding [Value.ref d, x] (runValue (Code.builtin "proto.let_go" { }))
        pure ()
      pure (some d)

def MainIs (prog : Program) (w : World) (lo : Nat) (h : Heap) (main : Option Addr) (kd : List (Int × Str)) : Prop :=
  match main with
  | none => kd = []
  | some d => lo ≤ d ∧ kd ≠ [] ∧ ∃ kvs, h.DictOf (intKind prog w) d kvs ∧ Vals kvs kd

theorem wp_flush {lo : Nat} {main : Option Addr} {run : List (Sem Value × Sem Value)} {kd kr : List (Int × Str)} {Q : Option Addr → Shared → Prop} (hm : MainIs prog w lo s.heap main kd) (ht : Trees prog w A run kr) (h0 : kr ≠ []) (hl : kr.length ≤ 17)
    (hlo : lo ≤ s.heap.objs.size) (hsys : sysModules < lo) (hsz : kd.length + kr.length ≤ 100000) (hn : ((kd ++ kr).map (·.1)).Nodup)
    (hQ : ∀ h' tk main', MainIs prog w lo h' main' (kd ++ kr) → (∀ b o, b < lo → s.heap.get? b = some o → h'.get? b = some o) → s.heap.objs.size ≤ h'.objs.size → Q main' { s with heap := h', toks := tk }) :
    wpAny (model prog w) A (flushT main run) Q E s := by
  unfold flushT
  have hre : ¬ run.isEmpty = true := by
    intro h
    have h1 : run = [] := List.isEmpty_iff.mp h
    have := ht.length
    rw [h1] at this
    exact h0 (List.length_eq_zero_iff.mp this.symm)
  have hn' := hn
  rw [List.map_append, List.nodup_append] at hn'
  have grow : ∀ h' : Heap, (∀ b o, s.heap.get? b = some o → h'.get? b = some o) → True := fun _ _ => trivial
  rw [if_neg hre]
  cases main with
  | none =>
    obtain rfl : kd = [] := hm
    refine wpAny_bind (wp_subDict ht hl (by simpa using hn) fun h' tk kvs hd hv hk => wpAny_pure ?_)
    refine hQ h' tk (some s.heap.objs.size) ⟨hlo, by simpa using h0, kvs, hd, by simpa using hv⟩ (fun b o _ e => hk b o e) ?_
    exact Nat.le_of_lt (by obtain ⟨o, es, ep, e, _⟩ := hd; exact Heap.lt_size e)
  | some d =>
    obtain ⟨hd1, hkd, kvs, hd, hv⟩ := hm
    have hdlt : d < s.heap.objs.size := by obtain ⟨o, es, ep, e, _⟩ := hd; exact Heap.lt_size e
    refine wpAny_bind (wpAny_holding (wp_subDict ht hl hn'.2.1 fun h' tk more hsub hmore hk => ?_))
    have hd' : h'.DictOf (intKind prog w) d kvs := let ⟨o, es, ep, e, r⟩ := hd; ⟨o, es, ep, hk _ _ e, r⟩
    have hkvs : kvs.length = kd.length := by have := congrArg List.length hv.keys; simpa using this
    have hml : more.length = kr.length := by have := congrArg List.length hmore.keys; simpa using this
    refine wpAny_bind (wpAny_onRaise (wpAny_holding (wp_merge (Nat.ne_of_lt hdlt) ?_ hd' hsub ?_ (by omega) ?_ fun h'' hd'' hs'' => wpAny_pure ?_)))
    · exact beq_eq_false_iff_ne.mpr (Nat.ne_of_gt (Nat.lt_of_lt_of_le hsys hlo))
    · intro e
      rw [e] at hkvs
      exact hkd (List.length_eq_zero_iff.mp hkvs.symm)
    · rw [hv.keys, hmore.keys, ← List.map_append]; exact hn
    · refine hQ h'' tk (some d) ⟨hd1, by simp [hkd], kvs ++ more, hd'', hv.append hmore⟩ (fun b o hb e => ?_) ?_
      · exact (hs''.2 b (Nat.ne_of_lt (Nat.lt_of_lt_of_le hb hd1))).trans (hk b o e)
      · rw [hs''.1]
        exact Nat.le_of_lt (by obtain ⟨o, es, ep, e, _⟩ := hsub; exact Heap.lt_size e)

theorem wp_dictDisplay {ps : List (Sem Value × Sem Value)} {ks : List (Int × Str)} {Q : Value → Shared → Prop} (ht : Trees prog w A ps ks) (h0 : ks ≠ []) (hsys : sysModules < s.heap.objs.size) (hsz : ks.length ≤ 100000) (hn : (ks.map (·.1)).Nodup)
    (hQ : ∀ h' tk d kvs, s.heap.objs.size ≤ d → h'.DictOf (intKind prog w) d kvs → Vals kvs ks → (∀ b o, s.heap.get? b = some o → h'.get? b = some o) → Q (.ref d) { s with heap := h', toks := tk }) :
    wpAny (model prog w) A (dictDisplay (ps.map fun p => (some p.1, p.2))) Q E s := by
  unfold dictDisplay
  dsimp only
  refine wpAny_bind ?_
  refine wpAny_forIn_list _
    (fun rest (st : Option Addr × List (Sem Value × Sem Value)) s' => ∃ h' tk prest krest kr kd, s' = { s with heap := h', toks := tk } ∧ (∀ b o, b < s.heap.objs.size → s.heap.get? b = some o → h'.get? b = some o) ∧ s.heap.objs.size ≤ h'.objs.size ∧
      rest = prest.map (fun p : Sem Value × Sem Value => (some p.1, p.2)) ∧ Trees prog w A prest krest ∧ Trees prog w A st.2 kr ∧ kr.length < 17 ∧ (kd ++ kr) ++ krest = ks ∧ MainIs prog w s.heap.objs.size h' st.1 kd)
    _ ?_ ?_ _ _ ⟨s.heap, s.toks, ps, ks, [], [], rfl, fun _ _ _ e => e, Nat.le_refl _, rfl, ht, trivial, by decide, rfl, rfl⟩
  · rintro x rest ⟨main, run⟩ s' ⟨h', tk, prest, krest, kr, kd, rfl, hk, hlo, hr, htr, htrun, hlr, hks, hm⟩
    cases prest with
    | nil => simp at hr
    | cons p prest =>
      cases krest with
      | nil => exact htr.elim
      | cons k krest =>
        obtain ⟨hp1, hp2, htr'⟩ := htr
        rw [List.map_cons] at hr
        injection hr with hx hrest
        subst hx
        dsimp only
        have htrun' : Trees prog w A (run ++ [(p.1, p.2)]) (kr ++ [k]) := htrun.append (b := [(p.1, p.2)]) (kb := [k]) ⟨hp1, hp2, trivial⟩
        have hlen : (run ++ [(p.1, p.2)]).length = kr.length + 1 := by rw [htrun'.length]; simp
        have hnod : ((kd ++ (kr ++ [k])).map (·.1)).Nodup := by
          have : ks = (kd ++ (kr ++ [k])) ++ krest := by rw [← hks]; simp
          rw [this, List.map_append, List.nodup_append] at hn
          exact hn.1
        have hszl : kd.length + (kr ++ [k]).length ≤ 100000 := by
          have : ks.length = kd.length + (kr ++ [k]).length + krest.length := by rw [← hks]; simp; omega
          omega
        by_cases h17 : ((run ++ [(p.1, p.2)]).length == 17) = true
        · rw [if_pos h17]
          refine wpAny_bind ?_
          refine wp_flush (s := { s with heap := h', toks := tk }) (lo := s.heap.objs.size) (kd := kd) (kr := kr ++ [k]) hm htrun' (by simp) (by simp; omega) hlo hsys hszl hnod fun h'' tk'' main' hm' hk' hgrow => wpAny_pure ?_
          exact ⟨h'', tk'', prest, krest, [], kd ++ (kr ++ [k]), rfl, fun b o hb e => hk' b o hb (hk b o hb e), Nat.le_trans hlo hgrow, hrest, htr', trivial, by decide, by rw [← hks]; simp, hm'⟩
        · rw [if_neg h17]
          have : kr.length + 1 ≠ 17 := by rw [← hlen]; simpa using h17
          exact wpAny_pure ⟨h', tk, prest, krest, kr ++ [k], kd, rfl, hk, hlo, hrest, htr', htrun', by simp; omega, by rw [← hks]; simp, hm⟩
  · rintro ⟨main, run⟩ s' ⟨h', tk, prest, krest, kr, kd, rfl, hk, hlo, hr, htr, htrun, hlr, hks, hm⟩
    have hp : prest = [] := by cases prest with | nil => rfl | cons _ _ => simp at hr
    subst hp
    have hkr : krest = [] := by cases krest with | nil => rfl | cons _ _ => exact htr.elim
    subst hkr
    rw [List.append_nil] at hks
    dsimp only
    cases kr with
    | nil =>
      have hrun : run = [] := by cases run with | nil => rfl | cons _ _ => exact htrun.elim
      subst hrun
      rw [if_pos (show ([] : List (Sem Value × Sem Value)).isEmpty = true from rfl)]
      refine wpAny_bind (wpAny_pure ?_)
      rw [List.append_nil] at hks
      subst hks
      cases main with
      | none => exact absurd hm h0
      | some d =>
        obtain ⟨hd1, _, kvs, hd, hv⟩ := hm
        exact wpAny_pure (hQ h' tk d kvs hd1 hd hv fun b o e => hk b o (Heap.lt_size e) e)
    | cons k kr =>
      refine wpAny_bind ?_
      refine wp_flush (s := { s with heap := h', toks := tk }) (lo := s.heap.objs.size) (kd := kd) (kr := k :: kr) hm htrun (by simp) (by omega) hlo hsys ?_ (by rw [hks]; exact hn) fun h'' tk'' main' hm' hk' hgrow => ?_
      · have : ks.length = kd.length + (k :: kr).length := by rw [← hks]; simp
        omega
      · rw [hks] at hm'
        cases main' with
        | none => exact absurd hm' h0
        | some d =>
          obtain ⟨hd1, _, kvs, hd, hv⟩ := hm'
          exact wpAny_pure (hQ h'' tk'' d kvs hd1 hd hv fun b o e => hk' b o (Heap.lt_size e) (hk b o (Heap.lt_size e) e))
end
end Mine
end

/-! Glue1 -/
section
open PySem PySem.W PyProof.Rows
set_option Elab.async false
namespace Mine

theorem sched_of_run {den : Code → Sem Fin} {prog : Program} {w : World} : ∀ (k : Nat) (s : Shared) (t : Thread) (s₁ : Shared) (t₁ : Thread), s.asleep →
    (∀ j s' t', runN den prog w j s t = .running s' t' → t'.calm = true) → runN den prog w k s t = .running s₁ t₁ → schedN den prog w k (.single s t) = .running (.single s₁ t₁)
  | 0, s, t, s₁, t₁, _, _, h => by
    obtain ⟨rfl, rfl⟩ : s = s₁ ∧ t = t₁ := by simpa [runN] using h
    rfl
  | k + 1, s, t, s₁, t₁, hz, hc, h => by
    simp only [runN] at h
    cases hs : step den prog w s t with
    | halt o s' => rw [hs] at h; cases h
    | go s' t' =>
      rw [hs] at h
      have hl := step_life den prog w s s' t t' hs
      have e : sstep den prog w (.single s t) = .go (.single s' t') := by
        rcases sstep_single den prog w s t (hc 0 s t rfl) hz with e | e
        · rw [e, hs]; rfl
        · rw [hs] at e; cases e
      simp only [schedN, e]
      refine sched_of_run k s' t' s₁ t₁ (Shared.asleep_of_life hl hz) (fun j s'' t'' hj => hc (j + 1) s'' t'' ?_) h
      simp only [runN, hs]; exact hj

theorem last_of_halt {den : Code → Sem Fin} {prog : Program} {w : World} : ∀ (n : Nat) (s : Shared) (t : Thread) (o : Outcome) (s' : Shared), runN den prog w n s t = .halted o s' →
    ∃ k t', runN den prog w k s t = .running s' t' ∧ step den prog w s' t' = .halt o s'
  | 0, _, _, _, _, h => by simp [runN] at h
  | n + 1, s, t, o, s', h => by
    simp only [runN] at h
    cases hs : step den prog w s t with
    | halt o' s'' =>
      rw [hs] at h
      obtain ⟨rfl, rfl⟩ : o' = o ∧ s'' = s' := by simpa using h
      obtain rfl := step_halt_same den prog w _ _ _ _ hs
      exact ⟨0, t, rfl, hs⟩
    | go s₂ t₂ =>
      rw [hs] at h
      obtain ⟨k, t', hk, e⟩ := last_of_halt n s₂ t₂ o s' h
      exact ⟨k + 1, t', by simp only [runN, hs]; exact hk, e⟩

theorem through_of_halt {den : Code → Sem Fin} {prog : Program} {w : World} {s : Shared} {t : Thread} {f : Flow} {s' : Shared} (h : step den prog w s t = .halt (.done f) s') : through t = true := by
  obtain ⟨heap, gens, drawn, toks, os⟩ := s
  obtain ⟨cur, code, pos, stack⟩ := t
  cases cur <;> simp only [step] at h
  case pure fin =>
    cases fin with
    | again c => cases h
    | done g =>
      cases stack with
      | nil => rfl
      | cons a b => cases a <;> cases h
  all_goals first
    | (simp only [finish] at h; (repeat' split at h) <;> cases h)
    | ((repeat' split at h) <;> first | cases h | (simp only [finish] at h; (repeat' split at h) <;> cases h))
    | cases h

theorem ran_of_wp {prog : Program} {w : World} {t : Sem Fin} {s : Shared} {P : Shared → Prop} (hz : s.asleep)
    (h : wpAny (model prog w) callerA t (fun fin s' => ∃ f, fin = .done f ∧ P s' ∧ leftWithCleanup s'.gens = false) (fun _ _ => False) s) :
    ∃ m s₁ t₁, schedN (denote table) prog w m (.single s ⟨t, .builtin "claim.caller" {}, default, []⟩) = .running (.single s₁ t₁) ∧ through t₁ = true ∧ s₁.heap.life = s.heap.life ∧ ∃ s', s₁.forget = s'.forget ∧ P s' := by
  have h' := wp_of_wpAny_done (R := fun r s' => ((∃ f, r = .ok f) ∧ P s') ∧ leftWithCleanup s'.gens = false) caller_in
    (wpAny_mono h (fun fin s' ⟨f, e, p, l⟩ => ⟨f, e, ⟨⟨f, rfl⟩, p⟩, l⟩) (fun _ _ x => x.elim)) default
  obtain ⟨n, r, s', hn, ⟨f, rfl⟩, hP⟩ := (wp_iff_halts t (fun r s' => (∃ f, r = .ok f) ∧ P s') default s).mp h'
  obtain ⟨n', s'', h1, h2, hc⟩ := (halts_real_iff s'.forget).mpr ⟨n, s', hn, rfl⟩
  obtain ⟨k, t', hk, hs⟩ := last_of_halt _ _ _ _ _ h1
  exact ⟨k, s'', t', sched_of_run k s _ s'' t' hz hc hk, through_of_halt hs, runN_life_running hk, s', h2, hP⟩
end Mine
end

/-! Glue2 -/
section
open PySem PySem.W PyProof.Rows PySem.Calls
set_option Elab.async false
namespace Mine

def topTree (p : Program) : Sem Fin := do
  let code ← moduleCode p.main
  let frame ← newBodyFrame code mainNs mainNs
  let _ ← run (.body (behindTheImports p) { scope := p.main.scope, locals := mainNs, globals := mainNs, cells := [], code, frame := some frame })
  ret .none

theorem topStub_eq (p : Program) : topStub p = ⟨topTree p, .builtin "claim.caller" {}, default, []⟩ := rfl

structure TopEnd (F : World → Heap → Prop) (p : Program) (name : Str) (w : World) (s : Shared) (mg : Str → Option Value) (s' : Shared) : Prop where
  gens : s'.gens = #[]
  os : s'.os = s.os
  keep : ∀ b o, b ≠ mainGlobals → s.heap.get? b = some o → s'.heap.get? b = some o
  ns : ∃ mg', s'.heap.Ns mainGlobals mg' ∧ (∀ x v, mg' x = some v → x ∈ startupNames ∨ x ∈ p.boundNames) ∧ (∀ x ∈ laidNames, mg' x = mg x) ∧ mg' "__builtins__" = mg "__builtins__"
  pin : isTheDefsW p s'.heap name
  facts : F w s'.heap

theorem boot_left {p : Program} (hmore : p.main.more = []) (hopen : (opening p).main.body = []) (w : World) :
    (∃ s, AfterRun (opening p) w s) ∧ ∀ s, AfterRun (opening p) w s → (∃ mb mg c Pl, BootLeft s.heap mb mg c Pl) ∧ s.gens = #[] := by
  have hb : ∀ hp tk mb mg c Pl F, BootLeft hp mb mg c Pl →
      codeAny (model (opening p) w) {} (.body (opening p).main.body (mainEnv (opening p) c F)) (fun r s' => (∃ f, r = .ok f) ∧ (((∃ mb mg c Pl, BootLeft s'.heap mb mg c Pl) ∧ s'.gens = #[]) ∧ s'.gens = #[])) ⟨hp, #[], {}, tk, (start (opening p)).1.os⟩ := by
    intro hp tk mb mg c Pl F hB
    rw [hopen]
    exact codeAny_body rfl rfl (wpAny_execs_nil ⟨⟨_, rfl⟩, ⟨⟨mb, mg, c, Pl, hB⟩, rfl⟩, rfl⟩)
  exact AfterImport.of_wp (wpAny_boot (M := model (opening p) w) (A := {}) (E := fun _ _ => False) (opening p) (fun s' => ((∃ mb mg c Pl, BootLeft s'.heap mb mg c Pl) ∧ s'.gens = #[]) ∧ s'.gens = #[]) hb hmore _ default boot_in)

theorem globalOf_ns {h : Heap} {m : Str → Option Value} (hn : h.Ns mainGlobals m) (x : Str) : globalOf h x = m x := Claim2Try.globalOf_of_ns hn x
theorem staticOf_ns {h : Heap} {m : Str → Option Value} (hn : h.Ns cStatics m) (x : Str) : staticOf h x = m x := by
  obtain ⟨o, es, ep, ho, hd, _, hf⟩ := hn
  simp only [staticOf, ho, hd]
  exact hf x
theorem builtinOf_ns {h : Heap} {m : Str → Option Value} (hn : h.Ns builtinsNs m) (x : Str) : builtinOf h x = m x := by
  obtain ⟨o, es, ep, ho, hd, _, hf⟩ := hn
  simp only [builtinOf, ho, hd]
  exact hf x

theorem topRan {p : Program} {name : Str} {F : World → Heap → Prop} {w : World} {s s₁ s' : Shared} {t₁ : Thread} {m : Nat} {mb mg : Str → Option Value} {c Pl : Addr} (hB : BootLeft s.heap mb mg c Pl)
    (hr : schedN (denote table) p w m (.single s (topStub p)) = .running (.single s₁ t₁)) (ht : through t₁ = true) (hl : s₁.heap.life = s.heap.life) (hfo : s₁.forget = s'.forget) (T : TopEnd F p name w s mg s') :
    TopRan p w s s₁ ∧ s₁ = s' := by
  have e : s₁ = s' := Shared.eq_of_forget_eq hfo T.gens
  subst e
  obtain ⟨mg', hns, hnames, hlaid, hbi⟩ := T.ns
  have hst : s₁.heap.Ns cStatics (fun _ => none) := hB.statics.at' fun o e => T.keep _ o (by decide) e
  have hbn : s₁.heap.Ns builtinsNs mb := hB.b.at' fun o e => T.keep _ o (by decide) e
  obtain ⟨bm, o, hbm, h0, h1, h2, hbo, hcls, hdict, _⟩ := hB.bmod
  refine ⟨⟨⟨m, t₁, hr, ht⟩, hl, ?_, ?_, ?_, ?_, Pin.keysAreStrs_of_ns hns, ?_, ?_, ?_, ?_, ?_⟩, rfl⟩
  · exact Shared.rest_eq T.os
  · intro b o hb hn
    exact T.keep b o (fun q => hn (.inl q)) hb
  · intro key v hk
    rw [staticOf_ns hst] at hk
    cases hk
  · intro key
    exact .inl (by rw [staticOf_ns hst, staticOf_ns hB.statics])
  · intro x hx
    rw [builtinOf_ns hbn, hB.builtins x hx]
    rfl
  · exact ⟨bm, o, by rw [globalOf_ns hns, hbi]; exact hbm, T.keep _ _ h1 hbo, hcls, hdict⟩
  · rw [T.gens]; intro g hg; simp at hg
  · intro x v hx
    rw [globalOf_ns hns] at hx
    exact hnames x v hx
  · intro x hx
    rw [globalOf_ns hns, globalOf_ns hB.g]
    exact hlaid x hx

theorem holds_of {l : OpenLaw} {F : World → Heap → Prop} (said : l.row.wellSaid = true) (hprom : l.row.toRowW.promised) (hb : l.prog.bare) (hop : opensWell l.prog = true) (hw : l.writes = false) (hmore : l.prog.main.more = [])
    (hopen : (opening l.prog).main.body = []) (fence : ∀ s, fenceModules? l.prog s = some s)
    (hF : ∀ w h h', F w h → (∀ b o, h.get? b = some o → h'.get? b = some o) → F w h')
    (top : ∀ (w : World) (s : Shared) mb mg c Pl, BootLeft s.heap mb mg c Pl → s.gens = #[] →
      wpAny (model l.prog w) callerA (topTree l.prog) (fun fin s' => ∃ f, fin = .done f ∧ TopEnd F l.prog l.name w s mg s' ∧ leftWithCleanup s'.gens = false) (fun _ _ => False) s)
    (call : ∀ (w : World) (s₀ s₁ : Shared), F w s₁.heap → s₁.gens = #[] → ∀ (args : List WData) (vs : List Value) (as : List Addr), l.row.toRowW.claim.pre args = true → WData.layableAll args = true →
      ReadsAllW l.row.toRowW.records (classAt s₀.heap) s₁.heap vs args as → WellAll w.params s₁.heap vs args → (∀ a ∈ as, (a == sysModules) = false) →
      ∃ mg f, s₁.heap.Ns mainGlobals mg ∧ mg l.name = some f ∧
        wpAny (model l.prog w) callerA (PySem.call f vs) (fun v s' => GoodW l.row.toRowW.claim (classAt s₀.heap) (ExcName.means s₀.heap) args s₁ (.ok (.ret v)) s')
          (fun e s' => GoodW l.row.toRowW.claim (classAt s₀.heap) (ExcName.means s₀.heap) args s₁ (.error e) s') s₁) : l.row.Holds := by
  refine ⟨said, hprom, ⟨hb, hop, rfl⟩, ?_, fun w => ⟨(boot_left hmore hopen w).1, fun s hs => ?_⟩⟩
  · obtain ⟨args, h1, h2⟩ := hprom
    exact ⟨args, h1, (Bool.and_eq_true_iff.mp h2).1⟩
  obtain ⟨⟨mb, mg, c, Pl, hB⟩, hg⟩ := (boot_left hmore hopen w).2 s hs
  have hz : s.asleep := AfterImport.life hs
  obtain ⟨m, s₁, t₁, hr, ht, hl, s', hfo, T⟩ := ran_of_wp hz (top w s mb mg c Pl hB hg)
  obtain ⟨hT, rfl⟩ := topRan hB hr ht hl hfo T
  refine ⟨s, fence s, hg, s₁, hT, ?_, (fun x hx => (nomatch hx)), (fun x hx => (nomatch hx)), ?_⟩
  · intro n hn
    obtain rfl : n = l.name := by simpa [OpenLaw.row] using hn
    exact T.pin
  have hz₁ : s₁.asleep := Shared.asleep_of_life hl hz
  have hlow : sysModules < s₁.heap.objs.size := by
    obtain ⟨mm, hm, _⟩ := hB.noPylong
    exact (hm.at' (h' := s₁.heap) fun o e => T.keep _ o (by decide) e).lt
  refine ClaimW.callFrom_of_specG (c := l.row.toRowW.claim) (tree := fun vs => do match ← nsGet mainNs l.name with
      | some f => do ret (← PySem.call f vs)
      | none => unsupported "claim.caller:no-such-global") hz₁ T.gens fun args hpre hlay ord hord => ?_
  obtain ⟨⟨vs, s₂⟩, hlaid⟩ := Option.isSome_iff_exists.mp (layAllW_isSome (P := w.params) (ord := ord) (R := l.row.toRowW.records) (cl := classAt s₁.heap) (fun c hc => (nomatch hc)) args l.row.toRowW.args s₁ (pre_splitW hpre).1)
  have keeps := layAllW_keeps _ _ _ hlaid
  have hal := layAllW_rest _ _ _ hlaid
  obtain ⟨as, hrd, hin, hold⟩ := reads_layAllW hord _ _ _ hlaid hlay s₂.heap (fun _ _ e => e)
  have L : Laid l.row.toRowW.records w s₁ s₂ args vs as := ⟨⟨ord, hord, hlaid⟩, hrd, hin, hold, keeps, hal.1.trans T.gens, hal.2.2.1⟩
  obtain ⟨mg', f, hns, hf, hcall⟩ := call w s₁ s₂ (hF _ _ _ T.facts keeps) L.gens args vs as hpre hlay L.reads L.well (L.low hlow)
  refine ⟨vs, s₂, hlaid, wpAny_bind (wpAny_nsGet hns ?_)⟩
  rw [hf]
  refine wpAny_bind (wpAny_mono hcall (fun v s' g => wpAny_pure ⟨_, rfl, ?_⟩) fun e s' g => ?_)
  · have z := g.toG.laid (c := l.row.toRowW.claim) rfl rfl (fun _ _ => ident_freeW (r := l.row.toRowW) rfl rfl rfl _ _) L
    exact ⟨z.1, z.2.1, z.2.2, fun q => by rw [show l.row.writes = l.writes from rfl, hw] at q; cases q⟩
  · have z := g.toG.laid (c := l.row.toRowW.claim) rfl rfl (fun _ _ => ident_freeW (r := l.row.toRowW) rfl rfl rfl _ _) L
    exact ⟨z.1, z.2.1, z.2.2, fun q => by rw [show l.row.writes = l.writes from rfl, hw] at q; cases q⟩
end Mine
end

/-! P0 -/
section
open PySem PySem.W PyProof.Rows PySem.Calls
set_option Elab.async false
set_option maxRecDepth 100000
namespace Mine

@[irreducible] def P : Program := PySem.Challenge.pw_mq0482_01
@[irreducible] def stm (i : Nat) : Stmt := (P.main.body)[i]?.getD (.Pass ⟨0, 0, 0, 0⟩)
def fdName : Stmt → Str | .FunctionDef n .. => n | _ => ""
def fdParams : Stmt → Arguments | .FunctionDef _ a .. => a | _ => ⟨[], [], none, [], [], none, []⟩
def fdBody : Stmt → List Stmt | .FunctionDef _ _ b .. => b | _ => []
def fdScope : Stmt → Scope | .FunctionDef _ _ _ _ _ _ s .. => s | _ => { kind := .function, names := [], isGenerator := false, isCoroutine := false, more := [] }
def fdPos : Stmt → Pos | .FunctionDef _ _ _ _ _ _ _ _ _ p => p | _ => ⟨0, 0, 0, 0⟩
def fdOf (st : Stmt) : Stmt := .FunctionDef (fdName st) (fdParams st) (fdBody st) [] none [] (fdScope st) none (fdName st) (fdPos st)
def asName : Stmt → Str | .Assign [.Name n _] _ _ => n | _ => ""
def asNPos : Stmt → Pos | .Assign [.Name _ p] _ _ => p | _ => ⟨0, 0, 0, 0⟩
def asVal : Stmt → Expr | .Assign _ v _ => v | _ => .Name "" ⟨0, 0, 0, 0⟩
def asPos : Stmt → Pos | .Assign _ _ p => p | _ => ⟨0, 0, 0, 0⟩
def asOf (st : Stmt) : Stmt := .Assign [.Name (asName st) (asNPos st)] (asVal st) (asPos st)

theorem body_is : behindTheImports P = [stm 0, stm 1, stm 2, stm 3, stm 4, stm 5, stm 6, stm 7, stm 8, stm 9, stm 10, stm 11, stm 12, stm 13, stm 14, stm 15, stm 16, stm 17, stm 18, stm 19, stm 20] := by kernel_rfl
theorem st2 : stm 2 = fdOf (stm 2) := by kernel_rfl
theorem st1 : stm 1 = asOf (stm 1) := by kernel_rfl
end Mine
end

/-! Top1 -/
section
open PySem PySem.W PyProof.Rows PySem.Calls
set_option Elab.async false
set_option maxRecDepth 100000
namespace Mine

def trips : List (Nat × Nat × Addr) → List Value
  | [] => []
  | t :: r => rawInt t.1 :: rawInt t.2.1 :: .ref t.2.2 :: trips r
theorem trips_append (a b : List (Nat × Nat × Addr)) : trips (a ++ b) = trips a ++ trips b := by
  induction a with
  | nil => rfl
  | cons t r ih => simp only [List.cons_append, trips, ih]
theorem among_none {pos : Pos} : ∀ {l : List (Nat × Nat × Addr)}, (∀ t ∈ l, t.1 < pos.line) → codeAmong pos (trips l) = none
  | [], _ => rfl
  | t :: r, h => by
    have h1 := h t List.mem_cons_self
    have hne : (((t.1 : Nat) : Int) == (pos.line : Int)) = false := beq_eq_false_iff_ne.mpr (by omega)
    show (if (((t.1 : Nat) : Int) == (pos.line : Int) && (((t.2.1 : Nat) : Int) == (pos.col : Int))) = true then _ else codeAmong pos (trips r)) = none
    rw [hne, Bool.false_and, if_neg Bool.false_ne_true]
    exact among_none fun t' ht' => h t' (List.mem_cons_of_mem _ ht')

def Stays (Pl : Addr) (h h' : Heap) : Prop := ∀ b o, b ≠ Pl → b ≠ mainGlobals → h.get? b = some o → h'.get? b = some o
theorem Stays.trans {Pl : Addr} {a b c : Heap} (x : Stays Pl a b) (y : Stays Pl b c) : Stays Pl a c := fun q o h1 h2 e => y q o h1 h2 (x q o h1 h2 e)
def Stable (Pl : Addr) (Fx : Heap → Prop) : Prop := ∀ h h', Stays Pl h h' → Fx h → Fx h'
theorem Stable.and {Pl : Addr} {A B : Heap → Prop} (a : Stable Pl A) (b : Stable Pl B) : Stable Pl (fun h => A h ∧ B h) := fun h h' s x => ⟨a h h' s x.1, b h h' s x.2⟩

/-- the function object of the statement st stands at a -/
def FnObj (h : Heap) (a : Addr) (st : Stmt) : Prop :=
  ∃ pm c' doc, h.get? a = some { cls := .type "function", data := .func (defFd (fdName st) (fdName st) (fdParams st) (fdBody st) (fdScope st) mainGlobals .none .none none pm (.ref c') doc) } ∧ h.CodeRec (.ref c') (fdName st)
def FnAt (Pl : Addr) (a : Addr) (st : Stmt) (h : Heap) : Prop :=
  a ≠ Pl ∧ a ≠ mainGlobals ∧ ∃ pm c' doc, c' ≠ Pl ∧ c' ≠ mainGlobals ∧ h.get? a = some { cls := .type "function", data := .func (defFd (fdName st) (fdName st) (fdParams st) (fdBody st) (fdScope st) mainGlobals .none .none none pm (.ref c') doc) } ∧ h.CodeRec (.ref c') (fdName st)
theorem FnAt.obj {Pl a : Addr} {st : Stmt} {h : Heap} (x : FnAt Pl a st h) : FnObj h a st := let ⟨_, _, pm, c', doc, _, _, g, r⟩ := x; ⟨pm, c', doc, g, r⟩
theorem FnAt.stable (Pl a : Addr) (st : Stmt) : Stable Pl (FnAt Pl a st) := fun h h' s x => by
  obtain ⟨h1, h2, pm, c', doc, h3, h4, g, c₂, o₂, vs₂, t₂, e₂, g₂, r₂⟩ := x
  exact ⟨h1, h2, pm, c', doc, h3, h4, s _ _ h1 h2 g, c₂, o₂, vs₂, t₂, e₂, s _ _ (by cases e₂; exact h3) (by cases e₂; exact h4) g₂, r₂⟩

structure TopSt (s₀ s : Shared) (mg : Str → Option Value) (c Pl : Addr) (n : Nat) (Fx : Heap → Prop) : Prop where
  main : ∃ l, (∀ t ∈ l, t.1 < n) ∧ s.heap.Main mg c Pl (trips l).toArray
  shape : ∃ h tk, s = { s₀ with heap := h, toks := tk }
  keep : ∀ b o, b ≠ mainGlobals → s₀.heap.get? b = some o → s.heap.get? b = some o
  new : s₀.heap.objs.size ≤ Pl
  facts : Fx s.heap
  stable : Stable Pl Fx

def upd (mg : Str → Option Value) (x : Str) (v : Value) : Str → Option Value := fun y => if y = x then some v else mg y

def defOk (st : Stmt) : Bool :=
  (fdParams st).kwonlyargs.isEmpty && (fdParams st).kw_defaults.isEmpty && (fdParams st).defaults.isEmpty && ((fdScope st).names.all fun x => x.2 != .free) && decide (P.main.scope.names.lookup (fdName st) = some .local) &&
    decide (fdName st ≠ "__builtins__")

section
variable {w : World} {A : Around} {E : Value → Shared → Prop} {s₀ s : Shared} {mg : Str → Option Value} {c Pl Fm : Addr} {n : Nat} {Fx : Heap → Prop} {Q : Flow → Shared → Prop} {st : Stmt} {rest : List Stmt}

theorem step_def {n' : Nat} (T : TopSt s₀ s mg c Pl n Fx) (he : st = fdOf st) (ok : defOk st = true) (hann0 : annTrees (fdParams st) none (mainEnv P c Fm) = [])
    (hq : qualnameIn { scope := P.main.scope, locals := mainGlobals, globals := mainGlobals, cells := [] } (fdName st) (fdName st) = fdName st) (hmod : P.main.scope.kind = .module) (hn : n ≤ (fdPos st).line) (hn' : (fdPos st).line < n')
    (h : ∀ s' a, TopSt s₀ s' (upd mg (fdName st) (.ref a)) c Pl n' (fun h => Fx h ∧ FnAt Pl a st h) → wpAny (model P w) A (execs rest (mainEnv P c Fm)) Q E s') :
    wpAny (model P w) A (execs (st :: rest) (mainEnv P c Fm)) Q E s := by
  simp only [defOk, Bool.and_eq_true, List.isEmpty_iff, List.all_eq_true, decide_eq_true_eq] at ok
  obtain ⟨⟨⟨⟨⟨hkw, hkd⟩, hdf⟩, hfree⟩, hloc⟩, hnb⟩ := ok
  obtain ⟨l, hl, hm⟩ := T.main
  rw [he]
  refine wpAny_execs_cons (wpAny_defStmt0N hkw hkd (by rw [hdf]; intro e he; cases he) hann0 (fun x hx => by simpa using hfree x hx) hloc hq hm (fun a c' doc dV vs h' tk ha hm' hfo hcv hD hcd _ keep => ?_) hnb hmod
    (by rw [List.toList_toArray]; exact among_none fun t ht => Nat.lt_of_lt_of_le (hl t ht) hn))
  have hst : Stays Pl s.heap h' := fun b o h1 h2 e => keep b o h1 h2 e
  have hPl : Pl < s.heap.objs.size := hm.code.lt.2
  have hG : mainGlobals < s.heap.objs.size := hm.g.lt
  have hdV : dV = .none := by
    rw [hdf] at hcv
    cases vs with
    | nil =>
      rcases hD with ⟨_, e⟩ | ⟨e, _⟩
      · exact e
      · exact absurd rfl e
    | cons _ _ => exact hcv.elim
  subst hdV
  obtain ⟨h₁, tk₁, hs₁⟩ := T.shape
  refine h _ a ⟨⟨l ++ [((fdPos st).line, (fdPos st).col, c')], fun t ht => ?_, ?_⟩, ⟨h', tk, by rw [hs₁]⟩, fun b o hb e => ?_, T.new, ⟨T.stable _ _ hst T.facts, ?_⟩, T.stable.and (FnAt.stable Pl a st)⟩
  · rcases List.mem_append.mp ht with h1 | h1
    · exact Nat.lt_of_lt_of_le (hl t h1) (Nat.le_trans hn (Nat.le_of_lt hn'))
    · simp only [List.mem_singleton] at h1
      subst h1
      exact hn'
  · rw [trips_append]
    have e : (trips l).toArray ++ #[rawInt (fdPos st).line, rawInt (fdPos st).col, .ref c'] = (trips l ++ trips [((fdPos st).line, (fdPos st).col, c')]).toArray := by simp [trips]
    rw [← e]; exact hm'
  · refine keep b o ?_ hb (T.keep b o hb e)
    intro q
    have := Heap.lt_size e
    have h2 := T.new
    rw [q] at this
    exact absurd this (Nat.not_lt.mpr h2)
  · exact ⟨fun q => by subst q; exact absurd hPl (Nat.not_lt.mpr ha), fun q => by subst q; exact absurd hG (Nat.not_lt.mpr ha), (mg "__name__").getD .none, c', doc, fun q => by subst q; exact absurd hPl (Nat.not_lt.mpr hcd.1),
      fun q => by subst q; exact absurd hG (Nat.not_lt.mpr hcd.1), hfo, hcd.2⟩

theorem step_assign (T : TopSt s₀ s mg c Pl n Fx) (he : st = asOf st) (hs : swapsWith (asVal st) (some (.Name (asName st) (asNPos st))) (asPos st).line (mainEnv P c Fm) = pure false)
    (hloc : P.main.scope.names.lookup (asName st) = some .local) (hnb : asName st ≠ "__builtins__") (hmod : P.main.scope.kind = .module) (G : Value → Heap → Prop) (hG : ∀ v, Stable Pl (G v))
    (ev : ∀ (Q' : Value → Shared → Prop), (∀ v h' tk, (∀ b o, s.heap.get? b = some o → h'.get? b = some o) → G v h' → Q' v { s with heap := h', toks := tk }) → wpAny (model P w) A (eval (asVal st) (mainEnv P c Fm)) Q' E s)
    (h : ∀ s' v, TopSt s₀ s' (upd mg (asName st) v) c Pl n (fun h => Fx h ∧ G v h) → wpAny (model P w) A (execs rest (mainEnv P c Fm)) Q E s') :
    wpAny (model P w) A (execs (st :: rest) (mainEnv P c Fm)) Q E s := by
  obtain ⟨l, hl, hm⟩ := T.main
  rw [he]
  refine wpAny_execs_cons (wpAny_Assign_Name (ev _ fun v h' tk hk hg => ?_) hs)
  have hst₁ : Stays Pl s.heap h' := fun b o _ _ e => hk b o e
  refine wpAny_storeName_local (env := mainEnv P c Fm) (s := { s with heap := h', toks := tk }) hloc (hm.g.keeps hk) (fun h'' hg' hs' => ?_) (by show (P.main.scope.kind == .class || (P.main.scope.kind == .module && mainGlobals != mainGlobals)) = false; rw [hmod]; rfl)
  have hst₂ : Stays Pl h' h'' := fun b o _ h2 e => (hs'.2 b h2).trans e
  obtain ⟨h₁, tk₁, hs₁⟩ := T.shape
  obtain ⟨bm, o, hbm, hne0, hneG, hneP, hbo, hrest⟩ := hm.bmod
  refine h _ v ⟨⟨l, hl, hg', (hm.code.keeps hk).sameBut hs' (Nat.ne_of_gt hm.low.1) (Nat.ne_of_gt hm.low.2), hm.low, ⟨bm, o, ?_, hne0, hneG, hneP, (hs'.2 _ hneG).trans (hk _ _ hbo), hrest⟩⟩,
    ⟨h'', _, by rw [hs₁]⟩, fun b o hb e => (hs'.2 b hb).trans (hk b o (T.keep b o hb e)), T.new, ⟨T.stable _ _ (hst₁.trans hst₂) T.facts, hG v _ _ hst₂ hg⟩, T.stable.and (hG v)⟩
  show (if ("__builtins__" : Str) = asName st then some v else mg "__builtins__") = some (.ref bm)
  rw [if_neg (Ne.symm hnb)]; exact hbm
end
end Mine
end

/-! SetR -/
section
open PySem PySem.W PyProof.Rows PySem.Calls
set_option Elab.async false
set_option maxRecDepth 100000
namespace Mine
theorem sub_range_set : isSubtype (.type "range") (.type "set") = pure false := by rw [isSubtype_type]; kernel_rfl
theorem sub_range_frozenset : isSubtype (.type "range") (.type "frozenset") = pure false := by rw [isSubtype_type]; kernel_rfl
section
variable {prog : Program} {w : World} {A : Around} {E : Value → Shared → Prop} {s : Shared}
set_option maxHeartbeats 3200000 in
theorem call_set_range {r : Addr} {a b : Int} {t u v : Tok} {n : Nat} {Q : Value → Shared → Prop}
    (hh : A.handled = none) (hr : IsRange s.heap r a b 1 t u v) (hsmall : Builtin.Range.small a b 1 = true) (hn : Builtin.Range.rangeSize a b 1 = n) (hb : n + 1 < scanBound)
    (h : ∀ (h' : Heap) (tk : Nat), h'.SetOf (intKind prog w) s.heap.objs.size (fun k' => (PyProof.Rows.firstMet (fun i => a + i * 1) n).any (· == k')) (PyProof.Rows.firstMet (fun i => a + i * 1) n).length →
      (∀ b o, b < s.heap.objs.size → s.heap.get? b = some o → h'.get? b = some o) → Q (.ref s.heap.objs.size) { s with heap := h', toks := tk }) :
    wpAny (model prog w) A (call (.type "set") [.ref r]) Q E s := by
  obtain ⟨c, tl, hmro⟩ := PySem.F.called_set.mro
  have hmade := PySem.F.called_set.made
  have hsub := PySem.F.called_set.sub
  refine wpAny_call (codeAny_of_tree ?_)
  show wpAny _ _ (callAny (.type "set") _) _ _ _
  refine wpAny_pure ⟨Code.quiet_builtin _ (by decide +kernel), codeAny_builtin PySem.F.entry_type_call ?_⟩
  rw [Around.under_plain (weight_type_call_type "set" [.ref r] []) rfl]
  have h1 := PySem.F.called_set.notType
  have h2 := PySem.F.called_set.canCreate
  have hct := PySem.F.typeCall_set_1 (.ref r)
  repeat (any_goals (first | assumption | wp_step))
  refine codeAny_mono (code_set_new_1 (.ref r) (E := E) (Q₁ := fun obj s₁ => ∃ led : Bool, obj = .ref s.heap.objs.size ∧ s₁ = { s with heap := s.heap.push { cls := .type "set", dict := none, data := .set #[] 0 (.fresh 0 0 led) } }) fun led => ⟨led, rfl, rfl⟩) fun r₀ s₁ hr₀ => ?_
  cases r₀ with
  | error e => exact hr₀
  | ok fl =>
    cases fl with
    | ret obj =>
      obtain ⟨led, rfl, rfl⟩ := hr₀
      have hS : (s.heap.push { cls := .type "set", dict := none, data := .set #[] 0 (.fresh 0 0 led) }).get? s.heap.objs.size = some { cls := .type "set", dict := none, data := .set #[] 0 (.fresh 0 0 led) } := Heap.get?_push_size _ rfl
      have hT : Shared.TypeIs { s with heap := s.heap.push { cls := .type "set", dict := none, data := .set #[] 0 (.fresh 0 0 led) } } (.ref s.heap.objs.size) "set" := ⟨_, hS, rfl⟩
      have hli := PySem.F.called_set.init.lookup
      have hbi := PySem.F.called_set.init.bind (.ref s.heap.objs.size)
      repeat (any_goals (first | assumption | wp_step))
      refine codeAny_mono (codeAny_call_builtin (R := wants (fun r₁ s₂ => r₁ = .none ∧ ∃ h' tk, s₂ = { s with heap := h', toks := tk } ∧
          h'.SetOf (intKind prog w) s.heap.objs.size (fun k' => (PyProof.Rows.firstMet (fun i => a + i * 1) n).any (· == k')) (PyProof.Rows.firstMet (fun i => a + i * 1) n).length ∧
          (∀ b o, b < s.heap.objs.size → s.heap.get? b = some o → h'.get? b = some o)) E) PySem.F.called_set.init.plain PySem.F.entry_set_init (check_set_init_1 hT ?_)) fun r₂ s₂ hr₂ => ?_
      · have hr1 : IsRange (s.heap.push { cls := .type "set", dict := none, data := .set #[] 0 (.fresh 0 0 led) }) r a b 1 t u v := Heap.get?_push_of_some _ hr
        have hsls := sub_range_set
        have hslf := sub_range_frozenset
        have hne : (Value.type "range" == Value.type "dict") = false := by decide
        have hrg : (s.heap.push { cls := .type "set", dict := none, data := .set #[] 0 (.fresh 0 0 led) }).get? r = some { cls := .type "range", data := .fields #[.int a t, .int b u, .int 1 v] } := hr1
        unfold Builtin.«set.__init__» noKeywords Builtin.Frozenset.updateFrom
        generalize hPI : pyIter = PI
        wp_walk
        subst hPI
        refine wpAny_pyIter_range hr1 hsmall ?_
        refine wpAny_bind (wpAny_runValue ?_)
        have hrS : r < s.heap.objs.size := Heap.lt_size hr
        have hh3 : A.in1.in1.in1.handled = none := by simp [hh]
        have hSf : s.heap.objs.size ∉ [(s.heap.push { cls := .type "set", dict := none, data := .set #[] 0 (.fresh 0 0 led) }).objs.size] := by
          rw [Heap.size_push]; simp only [List.mem_singleton]
          exact Nat.ne_of_lt (Nat.lt_succ_self _)
        refine PyProof.Rows.codeAny_set_update_loopS ((Walks.range hh3 (s.heap.push { cls := .type "set", dict := none, data := .set #[] 0 (.fresh 0 0 led) }).objs.size a 1 n).toS) s.heap.objs.size
          hSf (fun i => a + i * 1) (fun i v hv => hv) hb (n - 0) 0 _ (by omega) (Nat.zero_le _) ?hI ?hS0 ?hR
        case hI =>
          have := Heap.get?_push_size (s.heap.push { cls := .type "set", dict := none, data := .set #[] 0 (.fresh 0 0 led) }) (o := { cls := .type "range_iterator", data := .fields #[rawInt a, rawInt (Builtin.Range.rangeSize a b 1), rawInt 1] }) rfl
          rw [hn] at this
          show IsRangeIter _ _ (a + ((0 : Nat) : Int) * 1) ((n : Int) - ((0 : Nat) : Int)) 1
          simp only [Int.natCast_zero, Int.zero_mul, Int.add_zero, Int.sub_zero]
          rw [hn]
          exact this
        case hS0 =>
          have hget : ((s.heap.push { cls := .type "set", dict := none, data := .set #[] 0 (.fresh 0 0 led) }).push { cls := .type "range_iterator", data := .fields #[rawInt a, rawInt (Builtin.Range.rangeSize a b 1), rawInt 1] }).get? s.heap.objs.size
              = some { cls := .type "set", dict := none, data := .set #[] 0 (.fresh 0 0 led) } := Heap.get?_push_of_some _ hS
          exact PyProof.Rows.SetOf_congr ((PyProof.Rows.setObjOf_fresh (knd := intKind prog w) led).setOf hget (by unfold scanBound; omega)) (fun _ => rfl) rfl
        case hR =>
          intro s' hm hS'
          obtain ⟨h', g', d', tk', os'⟩ := s'
          have eg : g' = s.gens := hm.gens
          have ed : d' = s.drawn := hm.drawn
          have eo : os' = s.os := hm.os
          subst eg; subst ed; subst eo
          show wpAny _ _ _ _ _ _
          refine wpAny_pure ?_
          show wpAny _ _ (ret Value.none) _ _ _
          refine wpAny_pure ⟨rfl, h', tk', rfl, hS', fun b o hb e => ?_⟩
          have hb1 : b ≠ s.heap.objs.size := Nat.ne_of_lt hb
          have hb2 : b ≠ (s.heap.push { cls := .type "set", dict := none, data := .set #[] 0 (.fresh 0 0 led) }).objs.size := by
            rw [Heap.size_push]; exact Nat.ne_of_lt (Nat.lt_succ_of_lt hb)
          exact hm.heap b o (by simp only [List.mem_cons, List.mem_singleton, List.not_mem_nil, or_false, not_or]; exact ⟨hb1, hb2⟩) (Heap.get?_push_of_some _ (Heap.get?_push_of_some _ e))
      · cases r₂ with
        | error e => exact hr₂
        | ok fl₂ =>
          cases fl₂ with
          | ret r =>
            obtain ⟨rfl, h', tk, rfl, hS', hk'⟩ := hr₂
            repeat (any_goals (first | assumption | wp_step))
            exact h _ _ hS' hk'
          | _ => exact hr₂.elim
    | _ => exact hr₀.elim
end
end Mine
end

/-! Top2 -/
section
open PySem PySem.W PyProof.Rows PySem.Calls
set_option Elab.async false
set_option maxRecDepth 100000
namespace Mine

/-- the names that the top's expressions read: unbound in the text, built in -/
structure Blt (s : Shared) : Prop where
  b : ∃ mg mb, s.heap.Ns mainGlobals mg ∧ s.heap.Ns builtinsNs mb ∧ (∀ x ∈ (["set", "list", "range"] : List Str), mg x = none) ∧ mb "set" = some (.type "set") ∧ mb "list" = some (.type "list") ∧ mb "range" = some (.type "range")
theorem Blt.keeps {s : Shared} {h' : Heap} {tk : Nat} (x : Blt s) (hk : ∀ b o, s.heap.get? b = some o → h'.get? b = some o) : Blt { s with heap := h', toks := tk } :=
  let ⟨mg, mb, a, b, r⟩ := x.b; ⟨mg, mb, a.keeps hk, b.keeps hk, r⟩

def intConsts : List Expr → Option (List Int)
  | [] => some []
  | .Constant (.int n) _ _ :: r => (intConsts r).map (n :: ·)
  | _ => none

def rangeInts (a b : Int) : List Int := (List.range (b - a).toNat).map fun i => a + (i : Nat) * 1

/-- the ints that a list expression of the top gives -/
def listInts : Expr → Option (List Int)
  | .List elts _ => intConsts elts
  | .BinOp l .Add r _ => match listInts l, listInts r with
    | some a, some b => some (a ++ b)
    | _, _ => none
  | .Call (.Name f _) [.Call (.Name g _) [.Constant (.int a) _ _, .Constant (.int b) _ _] [] _] [] _ => if f = "list" ∧ g = "range" ∧ 0 ≤ a ∧ a ≤ b ∧ b ≤ 2000000 then some (rangeInts a b) else none
  | _ => none

section
variable {prog : Program} {w : World} {A : Around} {E : Value → Shared → Prop} {s : Shared} {c Fm : Addr}

theorem name_blt {x : Str} {pos : Pos} {v : Value} {Q : Value → Shared → Prop} (hmod : prog.main.scope.kind = .module) (hx : ∃ mg mb, s.heap.Ns mainGlobals mg ∧ s.heap.Ns builtinsNs mb ∧ mg x = none ∧ mb x = some v) (hd : (x == ("__debug__" : Str)) = false) (h : Q v s) :
    wpAny (model prog w) A (eval (.Name x pos) (mainEnv prog c Fm)) Q E s := by
  obtain ⟨mg, mb, hg, hb, h1, h2⟩ := hx
  exact Name_module hmod rfl (loadGlobal_builtin (env := mainEnv prog c Fm) hg h1 hb h2 h) hd

theorem ints_consts : ∀ (elts : List Expr) (ns : List Int) (s : Shared) (pos : Pos) (env : Env) (Q : List Value → Shared → Prop), intConsts elts = some ns → (∀ vs tk, IntsAre vs ns → Q vs { s with toks := tk }) →
    wpAny (model prog w) A (spliced (backTo pos (starEach elts env))) Q E s
  | [], ns, s, pos, env, Q, h, hQ => by
    obtain rfl : [] = ns := by simpa [intConsts] using h
    exact args_nil (by simpa using hQ [] s.toks .nil)
  | e :: r, ns, s, pos, env, Q, h, hQ => by
    cases e with
    | Constant c k p =>
      cases c with
      | int n =>
        simp only [intConsts, Option.map_eq_some_iff] at h
        obtain ⟨ms, hm, rfl⟩ := h
        refine args_cons (wpAny_Constant_int ?_)
        refine ints_consts r ms _ pos env _ hm fun vs tk hv => ?_
        exact hQ _ tk (.cons n _ hv)
      | _ => simp [intConsts] at h
    | _ => simp [intConsts] at h

theorem ints_of_items : ∀ (acc : List Value) (ns : List Int), acc.length = ns.length → (∀ j v, acc[j]? = some v → ∃ t, v = Value.int (ns.getD j 0) t) → IntsAre acc ns
  | [], [], _, _ => .nil
  | v :: r, n :: ns, hl, h => by
    obtain ⟨t, e⟩ := h 0 v rfl
    subst e
    exact .cons n t (ints_of_items r ns (by simpa using hl) fun j v hj => h (j + 1) v hj)
  | [], _ :: _, hl, _ => by simp at hl
  | _ :: _, [], hl, _ => by simp at hl

theorem rangeInts_length (a b : Int) : (rangeInts a b).length = (b - a).toNat := by simp [rangeInts]
theorem rangeInts_getD {a b : Int} {j : Nat} (hj : j < (b - a).toNat) : (rangeInts a b).getD j 0 = a + (j : Nat) * 1 := by
  unfold rangeInts
  rw [List.getD_eq_getElem?_getD, List.getElem?_map, List.getElem?_range hj]; rfl

theorem eval_range {pos p1 : Pos} {k1 k2 : Nat} {pa pb : Pos} {a b : Int} {Q : Value → Shared → Prop} (hmod : prog.main.scope.kind = .module) (B : Blt s)
    (h : ∀ r h' tk t u v, (∀ b o, s.heap.get? b = some o → h'.get? b = some o) → s.heap.objs.size ≤ r → IsRange h' r a b 1 t u v → Q (.ref r) { s with heap := h', toks := tk }) :
    wpAny (model prog w) A (eval (.Call (.Name "range" p1) [.Constant (.int a) k1 pa, .Constant (.int b) k2 pb] [] pos) (mainEnv prog c Fm)) Q E s := by
  obtain ⟨mg, mb, hg, hb, hn, h1, h2, h3⟩ := B.b
  refine Call_ (name_blt hmod ⟨mg, mb, hg, hb, hn _ (by decide), h3⟩ (by decide) ?_)
  refine PyProof.Rows.callWith_type1 (args_cons (wpAny_Constant_int (args_cons (wpAny_Constant_int (args_nil ?_)))))
  refine call_range_2 ?_
  exact h _ _ _ _ _ _ (fun b o e => Heap.get?_push_of_some _ e) (Nat.le_refl _) (IsRange.new _ a b 1 _ _ _)

theorem add_exact {l b : Addr} {vs ws : List Value} {Q : Value → Shared → Prop} (hl : s.heap.IsList l vs.toArray) (hb : s.heap.IsList b ws.toArray) (hsz : vs.length + ws.length ≤ sizeLine)
    (h : Q (.ref s.heap.objs.size) { s with heap := s.heap.push { cls := .type "list", data := .seq (vs ++ ws).toArray } }) :
    wpAny (model prog w) A (binaryOp .Add (.ref l) (.ref b)) Q E s := by
  obtain ⟨⟨cls, dd, data, sl⟩, ho, hc, n, hd⟩ := id hl
  obtain ⟨⟨cls2, dd2, data2, sl2⟩, ho2, hc2, n2, hd2⟩ := id hb
  simp only at hc hd hc2 hd2
  subst hc hd hc2 hd2
  have e : vs.toArray ++ ws.toArray = (vs ++ ws).toArray := by simp
  refine concat_meets ⟨_, ho, rfl⟩ ⟨_, ho2, rfl⟩ noFill_list_add seq_list_add PySem.F.slot_list_add PySem.F.entry_list_add (PySem.F.args_list_add_2 _ _) (list_addW l b vs.toArray ws.toArray n n2 dd dd2 sl sl2 (by simpa using hsz)) ⟨ho, ho2, ?_⟩
  rw [e]
  exact h

theorem eval_listInts (hh : A.handled = none) (hmod : prog.main.scope.kind = .module) : ∀ (e : Expr) (ns : List Int) (s : Shared) (Q : Value → Shared → Prop), listInts e = some ns → ns.length ≤ 4000 → Blt s →
    (∀ l vs h' tk, (∀ b o, s.heap.get? b = some o → h'.get? b = some o) → s.heap.objs.size ≤ l → h'.IsList l vs.toArray → IntsAre vs ns → Q (.ref l) { s with heap := h', toks := tk }) →
    wpAny (model prog w) A (eval e (mainEnv prog c Fm)) Q E s := by
  intro e
  fun_induction listInts e with
  | case1 elts pos =>
    intro ns s Q h hlen B hQ
    refine List_ (ints_consts elts ns s pos _ _ h fun vs tk hv => ?_)
    have hvl : vs.length ≤ 4000 := by rw [hv.length]; exact hlen
    refine wpAny_newList (hQ _ vs _ _ (fun b o e => Heap.get?_push_of_some _ e) (Nat.le_refl _) ⟨_, Heap.get?_push_size _ rfl, rfl, _, rfl⟩ hv) (by rw [sizeLine_eq]; omega)
  | case2 l r pos a b hr hl ih2 ih1 =>
    intro ns s Q h hlen B hQ
    obtain rfl : a ++ b = ns := by simpa using h
    rw [List.length_append] at hlen
    refine wpAny_BinOp (ih2 a s _ hl (by omega) B fun l₁ vs₁ h₁ tk₁ hk₁ hn₁ hl₁ hv₁ => ?_)
    refine ih1 b _ _ hr (by omega) (B.keeps hk₁) fun l₂ vs₂ h₂ tk₂ hk₂ hn₂ hl₂ hv₂ => ?_
    refine add_exact (s := { s with heap := h₂, toks := tk₂ }) (hl₁.at fun o e => hk₂ _ o e) hl₂ (by rw [sizeLine_eq, hv₁.length, hv₂.length]; omega) ?_
    refine hQ _ (vs₁ ++ vs₂) _ tk₂ (fun b o e => Heap.get?_push_of_some _ (hk₂ b o (hk₁ b o e))) ?_ ⟨_, Heap.get?_push_size _ rfl, rfl, _, rfl⟩ (hv₁.append hv₂)
    obtain ⟨o, e, _⟩ := hl₁
    exact Nat.le_trans hn₁ (Nat.le_of_lt (Heap.lt_size (hk₂ _ _ e)))
  | case4 f pf g pg a k1 p1 b k2 p2 cp pos hc =>
    intro ns s Q h hlen B hQ
    obtain ⟨rfl, rfl, h0, hab, hb⟩ := hc
    obtain rfl : rangeInts a b = ns := by simpa using h
    rw [rangeInts_length] at hlen
    obtain ⟨mg, mb, hg, hbn, hn, h1, h2, h3⟩ := B.b
    refine Call_ (name_blt hmod ⟨mg, mb, hg, hbn, hn _ (by decide), h2⟩ (by decide) ?_)
    refine PyProof.Rows.callWith_type1 (args_cons (eval_range hmod B fun r h₁ tk₁ t u v hk₁ hr₁ hR => args_nil ?_))
    have hsz : Builtin.Range.rangeSize a b 1 = ((b - a).toNat : Nat) := by
      rw [rangeSize_one]; split <;> omega
    refine call_list_range (s := { s with heap := h₁, toks := tk₁ }) hh hR (small_one (by omega) (by omega) (by omega) (by omega)) hsz (by omega) fun h₂ tk₂ acc c' hk₂ hget hacc => ?_
    refine hQ _ acc.toList h₂ tk₂ (fun b o e => hk₂ b o (hk₁ b o e)) ?_ ⟨_, hget, rfl, c', by simp⟩ ?_
    · exact Nat.le_trans hr₁ (Nat.le_of_lt (Heap.lt_size hR))
    · refine ints_of_items _ _ (by rw [rangeInts_length]; simpa using hacc.1) fun j v hj => ?_
      have hj' : acc[j]? = some v := by simpa using hj
      have hlt : j < (b - a).toNat := by
        have := (Array.getElem?_eq_some_iff.mp hj').1
        rw [hacc.1] at this; exact this
      rw [rangeInts_getD hlt]
      exact hacc.2 j v hj'
  | _ =>
    intro ns s Q h
    simp_all
end
end Mine
end

/-! Top3 -/
section
open PySem PySem.W PyProof.Rows PySem.Calls
set_option Elab.async false
set_option maxRecDepth 100000
namespace Mine

def setInts : Expr → Option (List Int)
  | .Call (.Name f _) [.Call (.Name g _) [.Constant (.int a) _ _, .Constant (.int b) _ _] [] _] [] _ => if f = "set" ∧ g = "range" ∧ 0 ≤ a ∧ a ≤ b ∧ b ≤ 2000000 then some (rangeInts a b) else none
  | .Call (.Name f _) [.BinOp l o r p] [] _ => if f = "set" then listInts (.BinOp l o r p) else none
  | _ => none

def tabOf : List (Option Expr) → List Expr → Option (List (Int × Str))
  | [], [] => some []
  | some (.Constant (.int n) _ _) :: ks, .Constant (.str x) _ _ :: vs => (tabOf ks vs).map ((n, x) :: ·)
  | _, _ => none
def dictTab : Expr → Option (List (Int × Str))
  | .Dict ks vs _ => tabOf ks vs
  | _ => none

theorem map_getD (ns : List Int) : (List.range ns.length).map (fun i => ns.getD i 0) = ns := by
  apply List.ext_getElem
  · simp
  · intro i h1 h2
    simp [List.getD_eq_getElem?_getD, List.getElem?_eq_getElem h2]

section
variable {prog : Program} {w : World} {A : Around} {E : Value → Shared → Prop} {s : Shared} {c Fm : Addr}

theorem eval_set (hh : A.handled = none) (hmod : prog.main.scope.kind = .module) (e : Expr) (ns : List Int) (Q : Value → Shared → Prop) (he : setInts e = some ns) (hlen : ns.length ≤ 4000) (B : Blt s)
    (hQ : ∀ a m h' tk, (∀ b o, s.heap.get? b = some o → h'.get? b = some o) → s.heap.objs.size ≤ a → h'.SetOf (intKind prog w) a (fun k => ns.any (· == k)) m → Q (.ref a) { s with heap := h', toks := tk }) :
    wpAny (model prog w) A (eval e (mainEnv prog c Fm)) Q E s := by
  obtain ⟨mg, mb, hg, hbn, hn, h1, h2, h3⟩ := B.b
  unfold setInts at he
  split at he
  · rename_i f pf g pg a k1 p1 b k2 p2 cp pos
    by_cases hc : f = "set" ∧ g = "range" ∧ 0 ≤ a ∧ a ≤ b ∧ b ≤ 2000000
    · rw [if_pos hc] at he
      obtain ⟨rfl, rfl, h0, hab, hb⟩ := id hc
      obtain rfl : rangeInts a b = ns := by simpa using he
      rw [rangeInts_length] at hlen
      refine Call_ (name_blt hmod ⟨mg, mb, hg, hbn, hn _ (by decide), h1⟩ (by decide) ?_)
      refine PyProof.Rows.callWith_type1 (args_cons (eval_range hmod B fun r h₁ tk₁ t u v hk₁ hr₁ hR => args_nil ?_))
      have hsz : Builtin.Range.rangeSize a b 1 = ((b - a).toNat : Nat) := by
        rw [rangeSize_one]; split <;> omega
      refine call_set_range (s := { s with heap := h₁, toks := tk₁ }) hh hR (small_one (by omega) (by omega) (by omega) (by omega)) hsz (by unfold scanBound; omega) fun h₂ tk₂ hS hk₂ => ?_
      refine hQ _ _ h₂ tk₂ (fun b o e => hk₂ b o (Heap.lt_size (hk₁ b o e)) (hk₁ b o e)) (Nat.le_trans hr₁ (Nat.le_of_lt (Heap.lt_size hR))) (SetOf_congr hS (fun k => ?_) rfl)
      rw [firstMet_any]; rfl
    · rw [if_neg hc] at he; cases he
  · rename_i f pf l o r p pos
    by_cases hc : f = "set"
    · rw [if_pos hc] at he
      subst hc
      refine Call_ (name_blt hmod ⟨mg, mb, hg, hbn, hn _ (by decide), h1⟩ (by decide) ?_)
      refine PyProof.Rows.callWith_type1 (args_cons (eval_listInts hh hmod _ ns s _ he hlen B fun l₁ vs h₁ tk₁ hk₁ hn₁ hl₁ hv₁ => args_nil ?_))
      have hvl : vs.length = ns.length := hv₁.length
      refine PySem.call_set_list (s := { s with heap := h₁, toks := tk₁ }) (items := vs.toArray) (ns := ns) hh hl₁ (by simpa using hv₁) (by simp only [List.size_toArray]; unfold scanBound; omega) fun h₂ tk₂ hS hk₂ => ?_
      refine hQ _ _ h₂ tk₂ (fun b o e => hk₂ b o (Heap.lt_size (hk₁ b o e)) (hk₁ b o e)) (Nat.le_trans hn₁ (Nat.le_of_lt (by obtain ⟨o, e, _⟩ := hl₁; exact Heap.lt_size e))) (SetOf_congr hS (fun k => ?_) rfl)
      rw [firstMet_any]
      simp only [List.size_toArray]
      rw [hvl, map_getD]
    · rw [if_neg hc] at he; cases he
  · cases he

theorem trees_of_tab {env : Env} {pos : Pos} : ∀ (keys : List (Option Expr)) (values : List Expr) (ks : List (Int × Str)), tabOf keys values = some ks →
    keys.all (·.isSome) = true ∧ keys.length = values.length ∧ Trees prog w A (pairTrees keys values env pos) ks := by
  intro keys values
  fun_induction tabOf keys values with
  | case1 => intro ks h; obtain rfl : [] = ks := by simpa using h
             exact ⟨rfl, rfl, trivial⟩
  | case2 n k p ks x k' p' vs ih =>
    intro q h
    obtain ⟨r, hr, rfl⟩ := Option.map_eq_some_iff.mp h
    obtain ⟨h1, h2, h3⟩ := ih r hr
    refine ⟨by simpa using h1, by simpa using h2, ?_, ?_, h3⟩
    · intro E s Q hQ
      exact wpAny_Constant_int (env := env) (k := k) (pos := p) (hQ _ _)
    · intro E s Q hQ
      exact wpAny_bind (wpAny_Constant_str (env := env) (k := k') (pos := p') (wpAny_bind (wpAny_standAt (wpAny_pure (hQ _ _)))))
  | _ => intro ks h; simp at h

theorem eval_dict {env : Env} (e : Expr) (ks : List (Int × Str)) (Q : Value → Shared → Prop) (he : dictTab e = some ks) (h0 : ks ≠ []) (hlen : ks.length ≤ 100000) (hn : (ks.map (·.1)).Nodup) (hsys : sysModules < s.heap.objs.size)
    (hQ : ∀ h' tk d kvs, s.heap.objs.size ≤ d → h'.DictOf (intKind prog w) d kvs → Vals kvs ks → (∀ b o, s.heap.get? b = some o → h'.get? b = some o) → Q (.ref d) { s with heap := h', toks := tk }) :
    wpAny (model prog w) A (eval e env) Q E s := by
  unfold dictTab at he
  split at he
  · rename_i keys values pos
    obtain ⟨h1, h2, h3⟩ := trees_of_tab (prog := prog) (w := w) (A := A) (env := env) (pos := pos) keys values ks he
    rw [arm_eval_Dict, zip_pairTrees keys values env pos h1 h2]
    exact wpAny_bind (wpAny_standAt (wp_dictDisplay h3 h0 hsys hlen hn hQ))
  · cases he
end
end Mine
end

/-! Top4 -/
section
open PySem PySem.W PyProof.Rows PySem.Calls
set_option Elab.async false
set_option maxRecDepth 100000
namespace Mine

def setOf (i : Nat) : List Int := (setInts (asVal (stm i))).getD []
def b3tab : List (Int × Str) := (dictTab (asVal (stm 3))).getD []
theorem some_getD {α : Type} {x : Option α} {d : α} (h : x.isSome = true) : x = some (x.getD d) := by cases x with | none => cases h | some a => rfl

def SetAt (w : World) (Pl : Addr) (i : Nat) (v : Value) (h : Heap) : Prop := ∃ a m, v = .ref a ∧ a ≠ Pl ∧ a ≠ mainGlobals ∧ h.SetOf (intKind P w) a (fun k => (setOf i).any (· == k)) m
theorem SetAt.stable (w : World) (Pl : Addr) (i : Nat) (v : Value) : Stable Pl (SetAt w Pl i v) := fun h h' s x => by
  obtain ⟨a, m, e, h1, h2, o, es, ep, t, g, r⟩ := x
  exact ⟨a, m, e, h1, h2, o, es, ep, t, s _ _ h1 h2 g, r⟩
def DictB3 (w : World) (Pl : Addr) (v : Value) (h : Heap) : Prop := ∃ d kvs, v = .ref d ∧ d ≠ Pl ∧ d ≠ mainGlobals ∧ h.DictOf (intKind P w) d kvs ∧ Vals kvs b3tab ∧ (d == sysModules) = false
theorem DictB3.stable (w : World) (Pl : Addr) (v : Value) : Stable Pl (DictB3 w Pl v) := fun h h' s x => by
  obtain ⟨a, m, e, h1, h2, ⟨o, es, ep, g, r⟩, hv⟩ := x
  exact ⟨a, m, e, h1, h2, ⟨o, es, ep, s _ _ h1 h2 g, r⟩, hv⟩

theorem modP : P.main.scope.kind = .module := by kernel_rfl

section
variable {w : World} {A : Around} {E : Value → Shared → Prop} {s₀ s : Shared} {mg mb₀ : Str → Option Value} {c Pl Fm : Addr} {n : Nat} {Fx : Heap → Prop} {Q : Flow → Shared → Prop} {rest : List Stmt}

theorem TopSt.blt (T : TopSt s₀ s mg c Pl n Fx) (hb : s₀.heap.Ns builtinsNs mb₀) (hb' : ∀ x : Str, x ≠ "__name__" → mb₀ x = bootBuiltins x) (h1 : mg "set" = none) (h2 : mg "list" = none) (h3 : mg "range" = none) : Blt s := by
  obtain ⟨l, _, hm⟩ := T.main
  refine ⟨mg, mb₀, hm.g, hb.at' fun o e => T.keep _ o (by decide) e, ?_, ?_, ?_, ?_⟩
  · intro x hx
    rcases List.mem_cons.mp hx with rfl | hx
    · exact h1
    · rcases List.mem_cons.mp hx with rfl | hx
      · exact h2
      · rcases List.mem_cons.mp hx with rfl | hx
        · exact h3
        · cases hx
  · rw [hb' _ (by decide)]; kernel_rfl
  · rw [hb' _ (by decide)]; kernel_rfl
  · rw [hb' _ (by decide)]; kernel_rfl

theorem step_set (i : Nat) (T : TopSt s₀ s mg c Pl n Fx) (hA : A.handled = none) (hb : s₀.heap.Ns builtinsNs mb₀) (hb' : ∀ x : Str, x ≠ "__name__" → mb₀ x = bootBuiltins x) (h1 : mg "set" = none) (h2 : mg "list" = none) (h3 : mg "range" = none)
    (he : stm i = asOf (stm i)) (hs : swapsWith (asVal (stm i)) (some (.Name (asName (stm i)) (asNPos (stm i)))) (asPos (stm i)).line (mainEnv P c Fm) = pure false)
    (hloc : P.main.scope.names.lookup (asName (stm i)) = some .local) (hnb : asName (stm i) ≠ "__builtins__") (hsome : (setInts (asVal (stm i))).isSome = true) (hlen : Nat.ble (setOf i).length 4000 = true)
    (h : ∀ s' v, TopSt s₀ s' (upd mg (asName (stm i)) v) c Pl n (fun h => Fx h ∧ SetAt w Pl i v h) → wpAny (model P w) A (execs rest (mainEnv P c Fm)) Q E s') :
    wpAny (model P w) A (execs (stm i :: rest) (mainEnv P c Fm)) Q E s := by
  refine step_assign T he hs hloc hnb modP (SetAt w Pl i) (SetAt.stable w Pl i) (fun Q' hQ' => ?_) h
  obtain ⟨l, _, hm⟩ := T.main
  refine eval_set hA modP (asVal (stm i)) (setOf i) Q' (some_getD hsome) (Nat.le_of_ble_eq_true hlen) (T.blt hb hb' h1 h2 h3) fun a m h' tk hk ha hS => ?_
  exact hQ' _ h' tk hk ⟨a, m, rfl, fun q => by subst q; exact absurd hm.code.lt.2 (Nat.not_lt.mpr ha), fun q => by subst q; exact absurd hm.g.lt (Nat.not_lt.mpr ha), hS⟩

theorem step_dict (T : TopSt s₀ s mg c Pl n Fx) (hsys : sysModules < s.heap.objs.size)
    (he : stm 3 = asOf (stm 3)) (hs : swapsWith (asVal (stm 3)) (some (.Name (asName (stm 3)) (asNPos (stm 3)))) (asPos (stm 3)).line (mainEnv P c Fm) = pure false)
    (hloc : P.main.scope.names.lookup (asName (stm 3)) = some .local) (hnb : asName (stm 3) ≠ "__builtins__") (hsome : (dictTab (asVal (stm 3))).isSome = true) (h0 : b3tab ≠ []) (hlen : Nat.ble b3tab.length 100000 = true) (hnd : (b3tab.map (·.1)).Nodup)
    (h : ∀ s' v, TopSt s₀ s' (upd mg (asName (stm 3)) v) c Pl n (fun h => Fx h ∧ DictB3 w Pl v h) → wpAny (model P w) A (execs rest (mainEnv P c Fm)) Q E s') :
    wpAny (model P w) A (execs (stm 3 :: rest) (mainEnv P c Fm)) Q E s := by
  refine step_assign T he hs hloc hnb modP (DictB3 w Pl) (DictB3.stable w Pl) (fun Q' hQ' => ?_) h
  obtain ⟨l, _, hm⟩ := T.main
  refine eval_dict (asVal (stm 3)) b3tab Q' (some_getD hsome) h0 (Nat.le_of_ble_eq_true hlen) hnd hsys fun h' tk d kvs hd hD hv hk => ?_
  exact hQ' _ h' tk hk ⟨d, kvs, rfl, fun q => by subst q; exact absurd hm.code.lt.2 (Nat.not_lt.mpr hd), fun q => by subst q; exact absurd hm.g.lt (Nat.not_lt.mpr hd), hD, hv, beq_eq_false_iff_ne.mpr (Nat.ne_of_gt (Nat.lt_of_lt_of_le hsys hd))⟩

theorem step_text (i : Nat) (T : TopSt s₀ s mg c Pl n Fx) {x : Str} {k : Nat} {p : Pos} (he : stm i = asOf (stm i)) (hx : asVal (stm i) = .Constant (.str x) k p)
    (hs : swapsWith (asVal (stm i)) (some (.Name (asName (stm i)) (asNPos (stm i)))) (asPos (stm i)).line (mainEnv P c Fm) = pure false)
    (hloc : P.main.scope.names.lookup (asName (stm i)) = some .local) (hnb : asName (stm i) ≠ "__builtins__")
    (h : ∀ s' v, TopSt s₀ s' (upd mg (asName (stm i)) v) c Pl n (fun h => Fx h ∧ True) → wpAny (model P w) A (execs rest (mainEnv P c Fm)) Q E s') :
    wpAny (model P w) A (execs (stm i :: rest) (mainEnv P c Fm)) Q E s := by
  refine step_assign T he hs hloc hnb modP (fun _ _ => True) (fun _ _ _ _ _ => trivial) (fun Q' hQ' => ?_) h
  rw [hx]
  exact wpAny_Constant_str (hQ' _ _ _ (fun _ _ e => e) trivial)
end

theorem b3some : (dictTab (asVal (stm 3))).isSome = true := by kernel_rfl
theorem b3len : Nat.ble b3tab.length 100000 = true := by kernel_rfl
theorem b3ne : b3tab ≠ [] := by
  intro h
  have : b3tab.isEmpty = true := by rw [h]; rfl
  have h2 : b3tab.isEmpty = false := by kernel_rfl
  rw [h2] at this; cases this
def rising : List Int → Bool
  | a :: b :: r => decide (a < b) && rising (b :: r)
  | _ => true
theorem nodup_of_rising : ∀ (l : List Int), rising l = true → l.Pairwise (· < ·)
  | [], _ => .nil
  | [a], _ => List.pairwise_singleton ..
  | a :: b :: r, h => by
    simp only [rising, Bool.and_eq_true, decide_eq_true_eq] at h
    have ih := nodup_of_rising (b :: r) h.2
    refine List.pairwise_cons.mpr ⟨fun x hx => ?_, ih⟩
    rcases List.mem_cons.mp hx with rfl | hx
    · exact h.1
    · exact Int.lt_trans h.1 (List.rel_of_pairwise_cons ih hx)
theorem b3rising : rising (b3tab.map (·.1)) = true := by kernel_rfl
theorem b3nodup : (b3tab.map (·.1)).Nodup := (nodup_of_rising _ b3rising).imp fun h => Int.ne_of_lt h
end Mine
end

/-! Top5 -/
section
open PySem PySem.W PyProof.Rows PySem.Calls
set_option Elab.async false
set_option maxRecDepth 100000
namespace Mine

def FnG (mg : Str → Option Value) (h : Heap) (i : Nat) (name : Str) : Prop := ∃ a, mg name = some (.ref a) ∧ FnObj h a (stm i)
def SetG (w : World) (mg : Str → Option Value) (h : Heap) (i : Nat) (name : Str) : Prop := ∃ a m, mg name = some (.ref a) ∧ h.SetOf (intKind P w) a (fun k => (setOf i).any (· == k)) m
def DictG (w : World) (mg : Str → Option Value) (h : Heap) : Prop := ∃ d kvs, mg "b3_exceptions" = some (.ref d) ∧ h.DictOf (intKind P w) d kvs ∧ Vals kvs b3tab ∧ (d == sysModules) = false

structure FactsM (w : World) (h : Heap) (mg mb : Str → Option Value) : Prop where
  g : h.Ns mainGlobals mg
  b : h.Ns builtinsNs mb
  bb : ∀ x : Str, x ≠ "__name__" → mb x = bootBuiltins x
  lim : h.NoLimit
  un : ∀ x ∈ (["ord", "chr", "zip", "range", "min"] : List Str), mg x = none
  f2 : FnG mg h 2 "in_table_b1"
  f4 : FnG mg h 4 "map_table_b3"
  f5 : FnG mg h 5 "in_table_c11"
  f6 : FnG mg h 6 "in_table_c4"
  f8 : FnG mg h 8 "in_table_c6"
  f10 : FnG mg h 10 "in_table_c7"
  f12 : FnG mg h 12 "in_table_c8"
  f14 : FnG mg h 14 "in_table_c9"
  f16 : FnG mg h 16 "_law_runs"
  f17 : FnG mg h 17 "_law_spot"
  f18 : FnG mg h 18 "_law_kind"
  f19 : FnG mg h 19 "_law_barred"
  f20 : FnG mg h 20 "law"
  s1 : SetG w mg h 1 "b1_set"
  s7 : SetG w mg h 7 "c6_set"
  s9 : SetG w mg h 9 "c7_set"
  s11 : SetG w mg h 11 "c8_set"
  s13 : SetG w mg h 13 "c9_set"
  d : DictG w mg h
def Facts (w : World) (h : Heap) : Prop := ∃ mg mb, FactsM w h mg mb

theorem FnObj.keeps {h h' : Heap} {a : Addr} {st : Stmt} (x : FnObj h a st) (hk : ∀ b o, h.get? b = some o → h'.get? b = some o) : FnObj h' a st :=
  let ⟨pm, c', doc, g, r⟩ := x; ⟨pm, c', doc, hk _ _ g, r.keeps hk⟩
theorem FnG.keeps {mg : Str → Option Value} {h h' : Heap} {i : Nat} {n : Str} (x : FnG mg h i n) (hk : ∀ b o, h.get? b = some o → h'.get? b = some o) : FnG mg h' i n :=
  let ⟨a, e, f⟩ := x; ⟨a, e, f.keeps hk⟩
theorem SetG.keeps {w : World} {mg : Str → Option Value} {h h' : Heap} {i : Nat} {n : Str} (x : SetG w mg h i n) (hk : ∀ b o, h.get? b = some o → h'.get? b = some o) : SetG w mg h' i n :=
  let ⟨a, m, e, o, es, ep, t, g, r⟩ := x; ⟨a, m, e, o, es, ep, t, hk _ _ g, r⟩
theorem DictG.keeps {w : World} {mg : Str → Option Value} {h h' : Heap} (x : DictG w mg h) (hk : ∀ b o, h.get? b = some o → h'.get? b = some o) : DictG w mg h' :=
  let ⟨d, kvs, e, ⟨o, es, ep, g, r⟩, v⟩ := x; ⟨d, kvs, e, ⟨o, es, ep, hk _ _ g, r⟩, v⟩
theorem NoLimit_keeps {h h' : Heap} (x : h.NoLimit) (hk : ∀ b o, h.get? b = some o → h'.get? b = some o) : h'.NoLimit := let ⟨mc, a, b⟩ := x; ⟨mc, a.keeps hk, b⟩
theorem FactsM.keeps {w : World} {mg mb : Str → Option Value} {h h' : Heap} (x : FactsM w h mg mb) (hk : ∀ b o, h.get? b = some o → h'.get? b = some o) : FactsM w h' mg mb :=
  ⟨x.g.keeps hk, x.b.keeps hk, x.bb, NoLimit_keeps x.lim hk, x.un, x.f2.keeps hk, x.f4.keeps hk, x.f5.keeps hk, x.f6.keeps hk, x.f8.keeps hk, x.f10.keeps hk, x.f12.keeps hk, x.f14.keeps hk, x.f16.keeps hk, x.f17.keeps hk, x.f18.keeps hk, x.f19.keeps hk, x.f20.keeps hk, x.s1.keeps hk, x.s7.keeps hk, x.s9.keeps hk, x.s11.keeps hk, x.s13.keeps hk, x.d.keeps hk⟩
theorem Facts.keeps (w : World) (h h' : Heap) (x : Facts w h) (hk : ∀ b o, h.get? b = some o → h'.get? b = some o) : Facts w h' := let ⟨mg, mb, f⟩ := x; ⟨mg, mb, f.keeps hk⟩

theorem upd_names {ok : Str → Prop} {mg : Str → Option Value} {x : Str} {v : Value} (h : ∀ y u, mg y = some u → ok y) (hx : ok x) : ∀ y u, upd mg x v y = some u → ok y := fun y u e => by
  unfold upd at e
  split at e
  · rename_i q; exact q ▸ hx
  · exact h y u e
theorem FnG.of {Pl a : Addr} {mg : Str → Option Value} {h : Heap} {i : Nat} {n : Str} (x : FnAt Pl a (stm i) h) (e : mg n = some (.ref a)) : FnG mg h i n := ⟨a, e, x.obj⟩
theorem SetG.of {w : World} {Pl : Addr} {mg : Str → Option Value} {h : Heap} {i : Nat} {n : Str} {v : Value} (x : SetAt w Pl i v h) (e : mg n = some v) : SetG w mg h i n := let ⟨a, m, q, _, _, r⟩ := x; ⟨a, m, q ▸ e, r⟩
theorem DictG.of {w : World} {Pl : Addr} {mg : Str → Option Value} {h : Heap} {v : Value} (x : DictB3 w Pl v h) (e : mg "b3_exceptions" = some v) : DictG w mg h := let ⟨a, m, q, _, _, r⟩ := x; ⟨a, m, q ▸ e, r⟩

theorem e0 : stm 0 = asOf (stm 0) := by kernel_rfl
theorem w0 (c F : Addr) : swapsWith (asVal (stm 0)) (some (.Name (asName (stm 0)) (asNPos (stm 0)))) (asPos (stm 0)).line (mainEnv P c F) = pure false := by kernel_rfl
theorem l0 : P.main.scope.names.lookup (asName (stm 0)) = some .local := by kernel_rfl
theorem nb0 : asName (stm 0) ≠ "__builtins__" := by intro h; have := congrArg (fun x : Str => x == "__builtins__") h; exact absurd (this.trans (by rfl)) (by have : (asName (stm 0) == ("__builtins__" : Str)) = false := (by kernel_rfl); rw [this]; decide)
theorem n0 : P.boundNames.contains (asName (stm 0)) = true := by kernel_rfl
theorem e1 : stm 1 = asOf (stm 1) := by kernel_rfl
theorem w1 (c F : Addr) : swapsWith (asVal (stm 1)) (some (.Name (asName (stm 1)) (asNPos (stm 1)))) (asPos (stm 1)).line (mainEnv P c F) = pure false := by kernel_rfl
theorem l1 : P.main.scope.names.lookup (asName (stm 1)) = some .local := by kernel_rfl
theorem nb1 : asName (stm 1) ≠ "__builtins__" := by intro h; have := congrArg (fun x : Str => x == "__builtins__") h; exact absurd (this.trans (by rfl)) (by have : (asName (stm 1) == ("__builtins__" : Str)) = false := (by kernel_rfl); rw [this]; decide)
theorem n1 : P.boundNames.contains (asName (stm 1)) = true := by kernel_rfl
theorem z1 : (setInts (asVal (stm 1))).isSome = true := by kernel_rfl
theorem y1 : Nat.ble (setOf 1).length 4000 = true := by kernel_rfl
theorem e2 : stm 2 = fdOf (stm 2) := by kernel_rfl
theorem k2 : defOk (stm 2) = true := by kernel_rfl
theorem an2 (c F : Addr) : annTrees (fdParams (stm 2)) none (mainEnv P c F) = [] := by kernel_rfl
theorem q2 : qualnameIn { scope := P.main.scope, locals := mainGlobals, globals := mainGlobals, cells := [] } (fdName (stm 2)) (fdName (stm 2)) = fdName (stm 2) := by kernel_rfl
theorem n2 : P.boundNames.contains (fdName (stm 2)) = true := by kernel_rfl
theorem e3 : stm 3 = asOf (stm 3) := by kernel_rfl
theorem w3 (c F : Addr) : swapsWith (asVal (stm 3)) (some (.Name (asName (stm 3)) (asNPos (stm 3)))) (asPos (stm 3)).line (mainEnv P c F) = pure false := by kernel_rfl
theorem l3 : P.main.scope.names.lookup (asName (stm 3)) = some .local := by kernel_rfl
theorem nb3 : asName (stm 3) ≠ "__builtins__" := by intro h; have := congrArg (fun x : Str => x == "__builtins__") h; exact absurd (this.trans (by rfl)) (by have : (asName (stm 3) == ("__builtins__" : Str)) = false := (by kernel_rfl); rw [this]; decide)
theorem n3 : P.boundNames.contains (asName (stm 3)) = true := by kernel_rfl
theorem e4 : stm 4 = fdOf (stm 4) := by kernel_rfl
theorem k4 : defOk (stm 4) = true := by kernel_rfl
theorem an4 (c F : Addr) : annTrees (fdParams (stm 4)) none (mainEnv P c F) = [] := by kernel_rfl
theorem q4 : qualnameIn { scope := P.main.scope, locals := mainGlobals, globals := mainGlobals, cells := [] } (fdName (stm 4)) (fdName (stm 4)) = fdName (stm 4) := by kernel_rfl
theorem n4 : P.boundNames.contains (fdName (stm 4)) = true := by kernel_rfl
theorem e5 : stm 5 = fdOf (stm 5) := by kernel_rfl
theorem k5 : defOk (stm 5) = true := by kernel_rfl
theorem an5 (c F : Addr) : annTrees (fdParams (stm 5)) none (mainEnv P c F) = [] := by kernel_rfl
theorem q5 : qualnameIn { scope := P.main.scope, locals := mainGlobals, globals := mainGlobals, cells := [] } (fdName (stm 5)) (fdName (stm 5)) = fdName (stm 5) := by kernel_rfl
theorem n5 : P.boundNames.contains (fdName (stm 5)) = true := by kernel_rfl
theorem e6 : stm 6 = fdOf (stm 6) := by kernel_rfl
theorem k6 : defOk (stm 6) = true := by kernel_rfl
theorem an6 (c F : Addr) : annTrees (fdParams (stm 6)) none (mainEnv P c F) = [] := by kernel_rfl
theorem q6 : qualnameIn { scope := P.main.scope, locals := mainGlobals, globals := mainGlobals, cells := [] } (fdName (stm 6)) (fdName (stm 6)) = fdName (stm 6) := by kernel_rfl
theorem n6 : P.boundNames.contains (fdName (stm 6)) = true := by kernel_rfl
theorem e7 : stm 7 = asOf (stm 7) := by kernel_rfl
theorem w7 (c F : Addr) : swapsWith (asVal (stm 7)) (some (.Name (asName (stm 7)) (asNPos (stm 7)))) (asPos (stm 7)).line (mainEnv P c F) = pure false := by kernel_rfl
theorem l7 : P.main.scope.names.lookup (asName (stm 7)) = some .local := by kernel_rfl
theorem nb7 : asName (stm 7) ≠ "__builtins__" := by intro h; have := congrArg (fun x : Str => x == "__builtins__") h; exact absurd (this.trans (by rfl)) (by have : (asName (stm 7) == ("__builtins__" : Str)) = false := (by kernel_rfl); rw [this]; decide)
theorem n7 : P.boundNames.contains (asName (stm 7)) = true := by kernel_rfl
theorem z7 : (setInts (asVal (stm 7))).isSome = true := by kernel_rfl
theorem y7 : Nat.ble (setOf 7).length 4000 = true := by kernel_rfl
theorem e8 : stm 8 = fdOf (stm 8) := by kernel_rfl
theorem k8 : defOk (stm 8) = true := by kernel_rfl
theorem an8 (c F : Addr) : annTrees (fdParams (stm 8)) none (mainEnv P c F) = [] := by kernel_rfl
theorem q8 : qualnameIn { scope := P.main.scope, locals := mainGlobals, globals := mainGlobals, cells := [] } (fdName (stm 8)) (fdName (stm 8)) = fdName (stm 8) := by kernel_rfl
theorem n8 : P.boundNames.contains (fdName (stm 8)) = true := by kernel_rfl
theorem e9 : stm 9 = asOf (stm 9) := by kernel_rfl
theorem w9 (c F : Addr) : swapsWith (asVal (stm 9)) (some (.Name (asName (stm 9)) (asNPos (stm 9)))) (asPos (stm 9)).line (mainEnv P c F) = pure false := by kernel_rfl
theorem l9 : P.main.scope.names.lookup (asName (stm 9)) = some .local := by kernel_rfl
theorem nb9 : asName (stm 9) ≠ "__builtins__" := by intro h; have := congrArg (fun x : Str => x == "__builtins__") h; exact absurd (this.trans (by rfl)) (by have : (asName (stm 9) == ("__builtins__" : Str)) = false := (by kernel_rfl); rw [this]; decide)
theorem n9 : P.boundNames.contains (asName (stm 9)) = true := by kernel_rfl
theorem z9 : (setInts (asVal (stm 9))).isSome = true := by kernel_rfl
theorem y9 : Nat.ble (setOf 9).length 4000 = true := by kernel_rfl
theorem e10 : stm 10 = fdOf (stm 10) := by kernel_rfl
theorem k10 : defOk (stm 10) = true := by kernel_rfl
theorem an10 (c F : Addr) : annTrees (fdParams (stm 10)) none (mainEnv P c F) = [] := by kernel_rfl
theorem q10 : qualnameIn { scope := P.main.scope, locals := mainGlobals, globals := mainGlobals, cells := [] } (fdName (stm 10)) (fdName (stm 10)) = fdName (stm 10) := by kernel_rfl
theorem n10 : P.boundNames.contains (fdName (stm 10)) = true := by kernel_rfl
theorem e11 : stm 11 = asOf (stm 11) := by kernel_rfl
theorem w11 (c F : Addr) : swapsWith (asVal (stm 11)) (some (.Name (asName (stm 11)) (asNPos (stm 11)))) (asPos (stm 11)).line (mainEnv P c F) = pure false := by kernel_rfl
theorem l11 : P.main.scope.names.lookup (asName (stm 11)) = some .local := by kernel_rfl
theorem nb11 : asName (stm 11) ≠ "__builtins__" := by intro h; have := congrArg (fun x : Str => x == "__builtins__") h; exact absurd (this.trans (by rfl)) (by have : (asName (stm 11) == ("__builtins__" : Str)) = false := (by kernel_rfl); rw [this]; decide)
theorem n11 : P.boundNames.contains (asName (stm 11)) = true := by kernel_rfl
theorem z11 : (setInts (asVal (stm 11))).isSome = true := by kernel_rfl
theorem y11 : Nat.ble (setOf 11).length 4000 = true := by kernel_rfl
theorem e12 : stm 12 = fdOf (stm 12) := by kernel_rfl
theorem k12 : defOk (stm 12) = true := by kernel_rfl
theorem an12 (c F : Addr) : annTrees (fdParams (stm 12)) none (mainEnv P c F) = [] := by kernel_rfl
theorem q12 : qualnameIn { scope := P.main.scope, locals := mainGlobals, globals := mainGlobals, cells := [] } (fdName (stm 12)) (fdName (stm 12)) = fdName (stm 12) := by kernel_rfl
theorem n12 : P.boundNames.contains (fdName (stm 12)) = true := by kernel_rfl
theorem e13 : stm 13 = asOf (stm 13) := by kernel_rfl
theorem w13 (c F : Addr) : swapsWith (asVal (stm 13)) (some (.Name (asName (stm 13)) (asNPos (stm 13)))) (asPos (stm 13)).line (mainEnv P c F) = pure false := by kernel_rfl
theorem l13 : P.main.scope.names.lookup (asName (stm 13)) = some .local := by kernel_rfl
theorem nb13 : asName (stm 13) ≠ "__builtins__" := by intro h; have := congrArg (fun x : Str => x == "__builtins__") h; exact absurd (this.trans (by rfl)) (by have : (asName (stm 13) == ("__builtins__" : Str)) = false := (by kernel_rfl); rw [this]; decide)
theorem n13 : P.boundNames.contains (asName (stm 13)) = true := by kernel_rfl
theorem z13 : (setInts (asVal (stm 13))).isSome = true := by kernel_rfl
theorem y13 : Nat.ble (setOf 13).length 4000 = true := by kernel_rfl
theorem e14 : stm 14 = fdOf (stm 14) := by kernel_rfl
theorem k14 : defOk (stm 14) = true := by kernel_rfl
theorem an14 (c F : Addr) : annTrees (fdParams (stm 14)) none (mainEnv P c F) = [] := by kernel_rfl
theorem q14 : qualnameIn { scope := P.main.scope, locals := mainGlobals, globals := mainGlobals, cells := [] } (fdName (stm 14)) (fdName (stm 14)) = fdName (stm 14) := by kernel_rfl
theorem n14 : P.boundNames.contains (fdName (stm 14)) = true := by kernel_rfl
theorem e15 : stm 15 = asOf (stm 15) := by kernel_rfl
theorem w15 (c F : Addr) : swapsWith (asVal (stm 15)) (some (.Name (asName (stm 15)) (asNPos (stm 15)))) (asPos (stm 15)).line (mainEnv P c F) = pure false := by kernel_rfl
theorem l15 : P.main.scope.names.lookup (asName (stm 15)) = some .local := by kernel_rfl
theorem nb15 : asName (stm 15) ≠ "__builtins__" := by intro h; have := congrArg (fun x : Str => x == "__builtins__") h; exact absurd (this.trans (by rfl)) (by have : (asName (stm 15) == ("__builtins__" : Str)) = false := (by kernel_rfl); rw [this]; decide)
theorem n15 : P.boundNames.contains (asName (stm 15)) = true := by kernel_rfl
theorem e16 : stm 16 = fdOf (stm 16) := by kernel_rfl
theorem k16 : defOk (stm 16) = true := by kernel_rfl
theorem an16 (c F : Addr) : annTrees (fdParams (stm 16)) none (mainEnv P c F) = [] := by kernel_rfl
theorem q16 : qualnameIn { scope := P.main.scope, locals := mainGlobals, globals := mainGlobals, cells := [] } (fdName (stm 16)) (fdName (stm 16)) = fdName (stm 16) := by kernel_rfl
theorem n16 : P.boundNames.contains (fdName (stm 16)) = true := by kernel_rfl
theorem e17 : stm 17 = fdOf (stm 17) := by kernel_rfl
theorem k17 : defOk (stm 17) = true := by kernel_rfl
theorem an17 (c F : Addr) : annTrees (fdParams (stm 17)) none (mainEnv P c F) = [] := by kernel_rfl
theorem q17 : qualnameIn { scope := P.main.scope, locals := mainGlobals, globals := mainGlobals, cells := [] } (fdName (stm 17)) (fdName (stm 17)) = fdName (stm 17) := by kernel_rfl
theorem n17 : P.boundNames.contains (fdName (stm 17)) = true := by kernel_rfl
theorem e18 : stm 18 = fdOf (stm 18) := by kernel_rfl
theorem k18 : defOk (stm 18) = true := by kernel_rfl
theorem an18 (c F : Addr) : annTrees (fdParams (stm 18)) none (mainEnv P c F) = [] := by kernel_rfl
theorem q18 : qualnameIn { scope := P.main.scope, locals := mainGlobals, globals := mainGlobals, cells := [] } (fdName (stm 18)) (fdName (stm 18)) = fdName (stm 18) := by kernel_rfl
theorem n18 : P.boundNames.contains (fdName (stm 18)) = true := by kernel_rfl
theorem e19 : stm 19 = fdOf (stm 19) := by kernel_rfl
theorem k19 : defOk (stm 19) = true := by kernel_rfl
theorem an19 (c F : Addr) : annTrees (fdParams (stm 19)) none (mainEnv P c F) = [] := by kernel_rfl
theorem q19 : qualnameIn { scope := P.main.scope, locals := mainGlobals, globals := mainGlobals, cells := [] } (fdName (stm 19)) (fdName (stm 19)) = fdName (stm 19) := by kernel_rfl
theorem n19 : P.boundNames.contains (fdName (stm 19)) = true := by kernel_rfl
theorem e20 : stm 20 = fdOf (stm 20) := by kernel_rfl
theorem k20 : defOk (stm 20) = true := by kernel_rfl
theorem an20 (c F : Addr) : annTrees (fdParams (stm 20)) none (mainEnv P c F) = [] := by kernel_rfl
theorem q20 : qualnameIn { scope := P.main.scope, locals := mainGlobals, globals := mainGlobals, cells := [] } (fdName (stm 20)) (fdName (stm 20)) = fdName (stm 20) := by kernel_rfl
theorem n20 : P.boundNames.contains (fdName (stm 20)) = true := by kernel_rfl
end Mine
end

/-! Top6 -/
section
open PySem PySem.W PyProof.Rows PySem.Calls
set_option Elab.async false
set_option maxRecDepth 100000
namespace Mine
def isText : Expr → Bool | .Constant (.str _) _ _ => true | _ => false
theorem text_of {e : Expr} (h : isText e = true) : ∃ x k p, e = .Constant (.str x) k p := by
  unfold isText at h
  split at h
  · exact ⟨_, _, _, rfl⟩
  · cases h
theorem t0 : isText (asVal (stm 0)) = true := by kernel_rfl
theorem t15 : isText (asVal (stm 15)) = true := by kernel_rfl
theorem bodyAnn : hasAnns (behindTheImports P) = false := by kernel_rfl
theorem bodyDoc : docOf (behindTheImports P) = none := by kernel_rfl
theorem pinLaw : P.theDef "law" = some (fdParams (stm 20), fdBody (stm 20), fdScope (stm 20)) := by kernel_rfl
theorem nameLaw : fdName (stm 20) = "law" := by kernel_rfl
theorem parLaw : (fdParams (stm 20)).defaults = [] := by kernel_rfl

def mgEnd (mg : Str → Option Value) (a2 a4 a5 a6 a8 a10 a12 a14 a16 a17 a18 a19 a20 : Addr) (v0 v1 v3 v7 v9 v11 v13 v15 : Value) : Str → Option Value := (upd (upd (upd (upd (upd (upd (upd (upd (upd (upd (upd (upd (upd (upd (upd (upd (upd (upd (upd (upd (upd mg (asName (stm 0)) v0) (asName (stm 1)) v1) (fdName (stm 2)) (.ref a2)) (asName (stm 3)) v3) (fdName (stm 4)) (.ref a4)) (fdName (stm 5)) (.ref a5)) (fdName (stm 6)) (.ref a6)) (asName (stm 7)) v7) (fdName (stm 8)) (.ref a8)) (asName (stm 9)) v9) (fdName (stm 10)) (.ref a10)) (asName (stm 11)) v11) (fdName (stm 12)) (.ref a12)) (asName (stm 13)) v13) (fdName (stm 14)) (.ref a14)) (asName (stm 15)) v15) (fdName (stm 16)) (.ref a16)) (fdName (stm 17)) (.ref a17)) (fdName (stm 18)) (.ref a18)) (fdName (stm 19)) (.ref a19)) (fdName (stm 20)) (.ref a20))
section
variable (mg : Str → Option Value) (a2 a4 a5 a6 a8 a10 a12 a14 a16 a17 a18 a19 a20 : Addr) (v0 v1 v3 v7 v9 v11 v13 v15 : Value)
theorem m2 : mgEnd mg a2 a4 a5 a6 a8 a10 a12 a14 a16 a17 a18 a19 a20 v0 v1 v3 v7 v9 v11 v13 v15 "in_table_b1" = some (.ref a2) := by kernel_rfl
theorem m4 : mgEnd mg a2 a4 a5 a6 a8 a10 a12 a14 a16 a17 a18 a19 a20 v0 v1 v3 v7 v9 v11 v13 v15 "map_table_b3" = some (.ref a4) := by kernel_rfl
theorem m5 : mgEnd mg a2 a4 a5 a6 a8 a10 a12 a14 a16 a17 a18 a19 a20 v0 v1 v3 v7 v9 v11 v13 v15 "in_table_c11" = some (.ref a5) := by kernel_rfl
theorem m6 : mgEnd mg a2 a4 a5 a6 a8 a10 a12 a14 a16 a17 a18 a19 a20 v0 v1 v3 v7 v9 v11 v13 v15 "in_table_c4" = some (.ref a6) := by kernel_rfl
theorem m8 : mgEnd mg a2 a4 a5 a6 a8 a10 a12 a14 a16 a17 a18 a19 a20 v0 v1 v3 v7 v9 v11 v13 v15 "in_table_c6" = some (.ref a8) := by kernel_rfl
theorem m10 : mgEnd mg a2 a4 a5 a6 a8 a10 a12 a14 a16 a17 a18 a19 a20 v0 v1 v3 v7 v9 v11 v13 v15 "in_table_c7" = some (.ref a10) := by kernel_rfl
theorem m12 : mgEnd mg a2 a4 a5 a6 a8 a10 a12 a14 a16 a17 a18 a19 a20 v0 v1 v3 v7 v9 v11 v13 v15 "in_table_c8" = some (.ref a12) := by kernel_rfl
theorem m14 : mgEnd mg a2 a4 a5 a6 a8 a10 a12 a14 a16 a17 a18 a19 a20 v0 v1 v3 v7 v9 v11 v13 v15 "in_table_c9" = some (.ref a14) := by kernel_rfl
theorem m16 : mgEnd mg a2 a4 a5 a6 a8 a10 a12 a14 a16 a17 a18 a19 a20 v0 v1 v3 v7 v9 v11 v13 v15 "_law_runs" = some (.ref a16) := by kernel_rfl
theorem m17 : mgEnd mg a2 a4 a5 a6 a8 a10 a12 a14 a16 a17 a18 a19 a20 v0 v1 v3 v7 v9 v11 v13 v15 "_law_spot" = some (.ref a17) := by kernel_rfl
theorem m18 : mgEnd mg a2 a4 a5 a6 a8 a10 a12 a14 a16 a17 a18 a19 a20 v0 v1 v3 v7 v9 v11 v13 v15 "_law_kind" = some (.ref a18) := by kernel_rfl
theorem m19 : mgEnd mg a2 a4 a5 a6 a8 a10 a12 a14 a16 a17 a18 a19 a20 v0 v1 v3 v7 v9 v11 v13 v15 "_law_barred" = some (.ref a19) := by kernel_rfl
theorem m20 : mgEnd mg a2 a4 a5 a6 a8 a10 a12 a14 a16 a17 a18 a19 a20 v0 v1 v3 v7 v9 v11 v13 v15 "law" = some (.ref a20) := by kernel_rfl
theorem m1 : mgEnd mg a2 a4 a5 a6 a8 a10 a12 a14 a16 a17 a18 a19 a20 v0 v1 v3 v7 v9 v11 v13 v15 "b1_set" = some v1 := by kernel_rfl
theorem m7 : mgEnd mg a2 a4 a5 a6 a8 a10 a12 a14 a16 a17 a18 a19 a20 v0 v1 v3 v7 v9 v11 v13 v15 "c6_set" = some v7 := by kernel_rfl
theorem m9 : mgEnd mg a2 a4 a5 a6 a8 a10 a12 a14 a16 a17 a18 a19 a20 v0 v1 v3 v7 v9 v11 v13 v15 "c7_set" = some v9 := by kernel_rfl
theorem m11 : mgEnd mg a2 a4 a5 a6 a8 a10 a12 a14 a16 a17 a18 a19 a20 v0 v1 v3 v7 v9 v11 v13 v15 "c8_set" = some v11 := by kernel_rfl
theorem m13 : mgEnd mg a2 a4 a5 a6 a8 a10 a12 a14 a16 a17 a18 a19 a20 v0 v1 v3 v7 v9 v11 v13 v15 "c9_set" = some v13 := by kernel_rfl
theorem m3 : mgEnd mg a2 a4 a5 a6 a8 a10 a12 a14 a16 a17 a18 a19 a20 v0 v1 v3 v7 v9 v11 v13 v15 "b3_exceptions" = some v3 := by kernel_rfl
theorem mu_ord : mgEnd mg a2 a4 a5 a6 a8 a10 a12 a14 a16 a17 a18 a19 a20 v0 v1 v3 v7 v9 v11 v13 v15 "ord" = mg "ord" := by kernel_rfl
theorem mu_chr : mgEnd mg a2 a4 a5 a6 a8 a10 a12 a14 a16 a17 a18 a19 a20 v0 v1 v3 v7 v9 v11 v13 v15 "chr" = mg "chr" := by kernel_rfl
theorem mu_zip : mgEnd mg a2 a4 a5 a6 a8 a10 a12 a14 a16 a17 a18 a19 a20 v0 v1 v3 v7 v9 v11 v13 v15 "zip" = mg "zip" := by kernel_rfl
theorem mu_range : mgEnd mg a2 a4 a5 a6 a8 a10 a12 a14 a16 a17 a18 a19 a20 v0 v1 v3 v7 v9 v11 v13 v15 "range" = mg "range" := by kernel_rfl
theorem mu_min : mgEnd mg a2 a4 a5 a6 a8 a10 a12 a14 a16 a17 a18 a19 a20 v0 v1 v3 v7 v9 v11 v13 v15 "min" = mg "min" := by kernel_rfl
theorem mu_builtins : mgEnd mg a2 a4 a5 a6 a8 a10 a12 a14 a16 a17 a18 a19 a20 v0 v1 v3 v7 v9 v11 v13 v15 "__builtins__" = mg "__builtins__" := by kernel_rfl
theorem mu_package : mgEnd mg a2 a4 a5 a6 a8 a10 a12 a14 a16 a17 a18 a19 a20 v0 v1 v3 v7 v9 v11 v13 v15 "__package__" = mg "__package__" := by kernel_rfl
theorem mu_loader : mgEnd mg a2 a4 a5 a6 a8 a10 a12 a14 a16 a17 a18 a19 a20 v0 v1 v3 v7 v9 v11 v13 v15 "__loader__" = mg "__loader__" := by kernel_rfl
theorem mu_spec : mgEnd mg a2 a4 a5 a6 a8 a10 a12 a14 a16 a17 a18 a19 a20 v0 v1 v3 v7 v9 v11 v13 v15 "__spec__" = mg "__spec__" := by kernel_rfl
theorem mu_file : mgEnd mg a2 a4 a5 a6 a8 a10 a12 a14 a16 a17 a18 a19 a20 v0 v1 v3 v7 v9 v11 v13 v15 "__file__" = mg "__file__" := by kernel_rfl
theorem mu_cached : mgEnd mg a2 a4 a5 a6 a8 a10 a12 a14 a16 a17 a18 a19 a20 v0 v1 v3 v7 v9 v11 v13 v15 "__cached__" = mg "__cached__" := by kernel_rfl
end
theorem g1_set (mg : Str → Option Value) (v0 : Value) (h : mg "set" = none) : (upd mg (asName (stm 0)) v0) "set" = none := (show (upd mg (asName (stm 0)) v0) "set" = mg "set" by kernel_rfl).trans h
theorem g1_list (mg : Str → Option Value) (v0 : Value) (h : mg "list" = none) : (upd mg (asName (stm 0)) v0) "list" = none := (show (upd mg (asName (stm 0)) v0) "list" = mg "list" by kernel_rfl).trans h
theorem g1_range (mg : Str → Option Value) (v0 : Value) (h : mg "range" = none) : (upd mg (asName (stm 0)) v0) "range" = none := (show (upd mg (asName (stm 0)) v0) "range" = mg "range" by kernel_rfl).trans h
theorem g7_set (mg : Str → Option Value) (a2 a4 a5 a6 : Addr) (v0 v1 v3 : Value) (h : mg "set" = none) : (upd (upd (upd (upd (upd (upd (upd mg (asName (stm 0)) v0) (asName (stm 1)) v1) (fdName (stm 2)) (.ref a2)) (asName (stm 3)) v3) (fdName (stm 4)) (.ref a4)) (fdName (stm 5)) (.ref a5)) (fdName (stm 6)) (.ref a6)) "set" = none := (show (upd (upd (upd (upd (upd (upd (upd mg (asName (stm 0)) v0) (asName (stm 1)) v1) (fdName (stm 2)) (.ref a2)) (asName (stm 3)) v3) (fdName (stm 4)) (.ref a4)) (fdName (stm 5)) (.ref a5)) (fdName (stm 6)) (.ref a6)) "set" = mg "set" by kernel_rfl).trans h
theorem g7_list (mg : Str → Option Value) (a2 a4 a5 a6 : Addr) (v0 v1 v3 : Value) (h : mg "list" = none) : (upd (upd (upd (upd (upd (upd (upd mg (asName (stm 0)) v0) (asName (stm 1)) v1) (fdName (stm 2)) (.ref a2)) (asName (stm 3)) v3) (fdName (stm 4)) (.ref a4)) (fdName (stm 5)) (.ref a5)) (fdName (stm 6)) (.ref a6)) "list" = none := (show (upd (upd (upd (upd (upd (upd (upd mg (asName (stm 0)) v0) (asName (stm 1)) v1) (fdName (stm 2)) (.ref a2)) (asName (stm 3)) v3) (fdName (stm 4)) (.ref a4)) (fdName (stm 5)) (.ref a5)) (fdName (stm 6)) (.ref a6)) "list" = mg "list" by kernel_rfl).trans h
theorem g7_range (mg : Str → Option Value) (a2 a4 a5 a6 : Addr) (v0 v1 v3 : Value) (h : mg "range" = none) : (upd (upd (upd (upd (upd (upd (upd mg (asName (stm 0)) v0) (asName (stm 1)) v1) (fdName (stm 2)) (.ref a2)) (asName (stm 3)) v3) (fdName (stm 4)) (.ref a4)) (fdName (stm 5)) (.ref a5)) (fdName (stm 6)) (.ref a6)) "range" = none := (show (upd (upd (upd (upd (upd (upd (upd mg (asName (stm 0)) v0) (asName (stm 1)) v1) (fdName (stm 2)) (.ref a2)) (asName (stm 3)) v3) (fdName (stm 4)) (.ref a4)) (fdName (stm 5)) (.ref a5)) (fdName (stm 6)) (.ref a6)) "range" = mg "range" by kernel_rfl).trans h
theorem g9_set (mg : Str → Option Value) (a2 a4 a5 a6 a8 : Addr) (v0 v1 v3 v7 : Value) (h : mg "set" = none) : (upd (upd (upd (upd (upd (upd (upd (upd (upd mg (asName (stm 0)) v0) (asName (stm 1)) v1) (fdName (stm 2)) (.ref a2)) (asName (stm 3)) v3) (fdName (stm 4)) (.ref a4)) (fdName (stm 5)) (.ref a5)) (fdName (stm 6)) (.ref a6)) (asName (stm 7)) v7) (fdName (stm 8)) (.ref a8)) "set" = none := (show (upd (upd (upd (upd (upd (upd (upd (upd (upd mg (asName (stm 0)) v0) (asName (stm 1)) v1) (fdName (stm 2)) (.ref a2)) (asName (stm 3)) v3) (fdName (stm 4)) (.ref a4)) (fdName (stm 5)) (.ref a5)) (fdName (stm 6)) (.ref a6)) (asName (stm 7)) v7) (fdName (stm 8)) (.ref a8)) "set" = mg "set" by kernel_rfl).trans h
theorem g9_list (mg : Str → Option Value) (a2 a4 a5 a6 a8 : Addr) (v0 v1 v3 v7 : Value) (h : mg "list" = none) : (upd (upd (upd (upd (upd (upd (upd (upd (upd mg (asName (stm 0)) v0) (asName (stm 1)) v1) (fdName (stm 2)) (.ref a2)) (asName (stm 3)) v3) (fdName (stm 4)) (.ref a4)) (fdName (stm 5)) (.ref a5)) (fdName (stm 6)) (.ref a6)) (asName (stm 7)) v7) (fdName (stm 8)) (.ref a8)) "list" = none := (show (upd (upd (upd (upd (upd (upd (upd (upd (upd mg (asName (stm 0)) v0) (asName (stm 1)) v1) (fdName (stm 2)) (.ref a2)) (asName (stm 3)) v3) (fdName (stm 4)) (.ref a4)) (fdName (stm 5)) (.ref a5)) (fdName (stm 6)) (.ref a6)) (asName (stm 7)) v7) (fdName (stm 8)) (.ref a8)) "list" = mg "list" by kernel_rfl).trans h
theorem g9_range (mg : Str → Option Value) (a2 a4 a5 a6 a8 : Addr) (v0 v1 v3 v7 : Value) (h : mg "range" = none) : (upd (upd (upd (upd (upd (upd (upd (upd (upd mg (asName (stm 0)) v0) (asName (stm 1)) v1) (fdName (stm 2)) (.ref a2)) (asName (stm 3)) v3) (fdName (stm 4)) (.ref a4)) (fdName (stm 5)) (.ref a5)) (fdName (stm 6)) (.ref a6)) (asName (stm 7)) v7) (fdName (stm 8)) (.ref a8)) "range" = none := (show (upd (upd (upd (upd (upd (upd (upd (upd (upd mg (asName (stm 0)) v0) (asName (stm 1)) v1) (fdName (stm 2)) (.ref a2)) (asName (stm 3)) v3) (fdName (stm 4)) (.ref a4)) (fdName (stm 5)) (.ref a5)) (fdName (stm 6)) (.ref a6)) (asName (stm 7)) v7) (fdName (stm 8)) (.ref a8)) "range" = mg "range" by kernel_rfl).trans h
theorem g11_set (mg : Str → Option Value) (a2 a4 a5 a6 a8 a10 : Addr) (v0 v1 v3 v7 v9 : Value) (h : mg "set" = none) : (upd (upd (upd (upd (upd (upd (upd (upd (upd (upd (upd mg (asName (stm 0)) v0) (asName (stm 1)) v1) (fdName (stm 2)) (.ref a2)) (asName (stm 3)) v3) (fdName (stm 4)) (.ref a4)) (fdName (stm 5)) (.ref a5)) (fdName (stm 6)) (.ref a6)) (asName (stm 7)) v7) (fdName (stm 8)) (.ref a8)) (asName (stm 9)) v9) (fdName (stm 10)) (.ref a10)) "set" = none := (show (upd (upd (upd (upd (upd (upd (upd (upd (upd (upd (upd mg (asName (stm 0)) v0) (asName (stm 1)) v1) (fdName (stm 2)) (.ref a2)) (asName (stm 3)) v3) (fdName (stm 4)) (.ref a4)) (fdName (stm 5)) (.ref a5)) (fdName (stm 6)) (.ref a6)) (asName (stm 7)) v7) (fdName (stm 8)) (.ref a8)) (asName (stm 9)) v9) (fdName (stm 10)) (.ref a10)) "set" = mg "set" by kernel_rfl).trans h
theorem g11_list (mg : Str → Option Value) (a2 a4 a5 a6 a8 a10 : Addr) (v0 v1 v3 v7 v9 : Value) (h : mg "list" = none) : (upd (upd (upd (upd (upd (upd (upd (upd (upd (upd (upd mg (asName (stm 0)) v0) (asName (stm 1)) v1) (fdName (stm 2)) (.ref a2)) (asName (stm 3)) v3) (fdName (stm 4)) (.ref a4)) (fdName (stm 5)) (.ref a5)) (fdName (stm 6)) (.ref a6)) (asName (stm 7)) v7) (fdName (stm 8)) (.ref a8)) (asName (stm 9)) v9) (fdName (stm 10)) (.ref a10)) "list" = none := (show (upd (upd (upd (upd (upd (upd (upd (upd (upd (upd (upd mg (asName (stm 0)) v0) (asName (stm 1)) v1) (fdName (stm 2)) (.ref a2)) (asName (stm 3)) v3) (fdName (stm 4)) (.ref a4)) (fdName (stm 5)) (.ref a5)) (fdName (stm 6)) (.ref a6)) (asName (stm 7)) v7) (fdName (stm 8)) (.ref a8)) (asName (stm 9)) v9) (fdName (stm 10)) (.ref a10)) "list" = mg "list" by kernel_rfl).trans h
theorem g11_range (mg : Str → Option Value) (a2 a4 a5 a6 a8 a10 : Addr) (v0 v1 v3 v7 v9 : Value) (h : mg "range" = none) : (upd (upd (upd (upd (upd (upd (upd (upd (upd (upd (upd mg (asName (stm 0)) v0) (asName (stm 1)) v1) (fdName (stm 2)) (.ref a2)) (asName (stm 3)) v3) (fdName (stm 4)) (.ref a4)) (fdName (stm 5)) (.ref a5)) (fdName (stm 6)) (.ref a6)) (asName (stm 7)) v7) (fdName (stm 8)) (.ref a8)) (asName (stm 9)) v9) (fdName (stm 10)) (.ref a10)) "range" = none := (show (upd (upd (upd (upd (upd (upd (upd (upd (upd (upd (upd mg (asName (stm 0)) v0) (asName (stm 1)) v1) (fdName (stm 2)) (.ref a2)) (asName (stm 3)) v3) (fdName (stm 4)) (.ref a4)) (fdName (stm 5)) (.ref a5)) (fdName (stm 6)) (.ref a6)) (asName (stm 7)) v7) (fdName (stm 8)) (.ref a8)) (asName (stm 9)) v9) (fdName (stm 10)) (.ref a10)) "range" = mg "range" by kernel_rfl).trans h
theorem g13_set (mg : Str → Option Value) (a2 a4 a5 a6 a8 a10 a12 : Addr) (v0 v1 v3 v7 v9 v11 : Value) (h : mg "set" = none) : (upd (upd (upd (upd (upd (upd (upd (upd (upd (upd (upd (upd (upd mg (asName (stm 0)) v0) (asName (stm 1)) v1) (fdName (stm 2)) (.ref a2)) (asName (stm 3)) v3) (fdName (stm 4)) (.ref a4)) (fdName (stm 5)) (.ref a5)) (fdName (stm 6)) (.ref a6)) (asName (stm 7)) v7) (fdName (stm 8)) (.ref a8)) (asName (stm 9)) v9) (fdName (stm 10)) (.ref a10)) (asName (stm 11)) v11) (fdName (stm 12)) (.ref a12)) "set" = none := (show (upd (upd (upd (upd (upd (upd (upd (upd (upd (upd (upd (upd (upd mg (asName (stm 0)) v0) (asName (stm 1)) v1) (fdName (stm 2)) (.ref a2)) (asName (stm 3)) v3) (fdName (stm 4)) (.ref a4)) (fdName (stm 5)) (.ref a5)) (fdName (stm 6)) (.ref a6)) (asName (stm 7)) v7) (fdName (stm 8)) (.ref a8)) (asName (stm 9)) v9) (fdName (stm 10)) (.ref a10)) (asName (stm 11)) v11) (fdName (stm 12)) (.ref a12)) "set" = mg "set" by kernel_rfl).trans h
theorem g13_list (mg : Str → Option Value) (a2 a4 a5 a6 a8 a10 a12 : Addr) (v0 v1 v3 v7 v9 v11 : Value) (h : mg "list" = none) : (upd (upd (upd (upd (upd (upd (upd (upd (upd (upd (upd (upd (upd mg (asName (stm 0)) v0) (asName (stm 1)) v1) (fdName (stm 2)) (.ref a2)) (asName (stm 3)) v3) (fdName (stm 4)) (.ref a4)) (fdName (stm 5)) (.ref a5)) (fdName (stm 6)) (.ref a6)) (asName (stm 7)) v7) (fdName (stm 8)) (.ref a8)) (asName (stm 9)) v9) (fdName (stm 10)) (.ref a10)) (asName (stm 11)) v11) (fdName (stm 12)) (.ref a12)) "list" = none := (show (upd (upd (upd (upd (upd (upd (upd (upd (upd (upd (upd (upd (upd mg (asName (stm 0)) v0) (asName (stm 1)) v1) (fdName (stm 2)) (.ref a2)) (asName (stm 3)) v3) (fdName (stm 4)) (.ref a4)) (fdName (stm 5)) (.ref a5)) (fdName (stm 6)) (.ref a6)) (asName (stm 7)) v7) (fdName (stm 8)) (.ref a8)) (asName (stm 9)) v9) (fdName (stm 10)) (.ref a10)) (asName (stm 11)) v11) (fdName (stm 12)) (.ref a12)) "list" = mg "list" by kernel_rfl).trans h
theorem g13_range (mg : Str → Option Value) (a2 a4 a5 a6 a8 a10 a12 : Addr) (v0 v1 v3 v7 v9 v11 : Value) (h : mg "range" = none) : (upd (upd (upd (upd (upd (upd (upd (upd (upd (upd (upd (upd (upd mg (asName (stm 0)) v0) (asName (stm 1)) v1) (fdName (stm 2)) (.ref a2)) (asName (stm 3)) v3) (fdName (stm 4)) (.ref a4)) (fdName (stm 5)) (.ref a5)) (fdName (stm 6)) (.ref a6)) (asName (stm 7)) v7) (fdName (stm 8)) (.ref a8)) (asName (stm 9)) v9) (fdName (stm 10)) (.ref a10)) (asName (stm 11)) v11) (fdName (stm 12)) (.ref a12)) "range" = none := (show (upd (upd (upd (upd (upd (upd (upd (upd (upd (upd (upd (upd (upd mg (asName (stm 0)) v0) (asName (stm 1)) v1) (fdName (stm 2)) (.ref a2)) (asName (stm 3)) v3) (fdName (stm 4)) (.ref a4)) (fdName (stm 5)) (.ref a5)) (fdName (stm 6)) (.ref a6)) (asName (stm 7)) v7) (fdName (stm 8)) (.ref a8)) (asName (stm 9)) v9) (fdName (stm 10)) (.ref a10)) (asName (stm 11)) v11) (fdName (stm 12)) (.ref a12)) "range" = mg "range" by kernel_rfl).trans h

theorem not_boot {x : Str} (h : bootMainNames.contains x = false) : x ∉ bootMainNames := fun q => by rw [List.contains_iff_mem.mpr q] at h; cases h

theorem TopSt.low {s₀ s : Shared} {mg : Str → Option Value} {c Pl : Addr} {n : Nat} {Fx : Heap → Prop} (T : TopSt s₀ s mg c Pl n Fx) (h : ∃ o, s₀.heap.get? sysModules = some o) : sysModules < s.heap.objs.size :=
  let ⟨o, e⟩ := h; Heap.lt_size (T.keep _ o (by decide) e)

theorem top_chain {w : World} {A : Around} {s₀ s : Shared} {mg mb₀ : Str → Option Value} {c Pl Fm : Addr} {Q : Flow → Shared → Prop} (hA : A.handled = none) (hb : s₀.heap.Ns builtinsNs mb₀) (hb' : ∀ x : Str, x ≠ "__name__" → mb₀ x = bootBuiltins x)
    (hn : ∀ x, x ∉ bootMainNames → mg x = none) (hsys : ∃ o, s₀.heap.get? sysModules = some o) (T : TopSt s₀ s mg c Pl 0 (fun _ => True))
    (fin : ∀ s' a2 a4 a5 a6 a8 a10 a12 a14 a16 a17 a18 a19 a20 v0 v1 v3 v7 v9 v11 v13 v15, TopSt s₀ s' (mgEnd mg a2 a4 a5 a6 a8 a10 a12 a14 a16 a17 a18 a19 a20 v0 v1 v3 v7 v9 v11 v13 v15) c Pl 1000000 (fun h => FnAt Pl a2 (stm 2) h ∧ FnAt Pl a4 (stm 4) h ∧ FnAt Pl a5 (stm 5) h ∧ FnAt Pl a6 (stm 6) h ∧ FnAt Pl a8 (stm 8) h ∧ FnAt Pl a10 (stm 10) h ∧ FnAt Pl a12 (stm 12) h ∧ FnAt Pl a14 (stm 14) h ∧ FnAt Pl a16 (stm 16) h ∧ FnAt Pl a17 (stm 17) h ∧ FnAt Pl a18 (stm 18) h ∧ FnAt Pl a19 (stm 19) h ∧ FnAt Pl a20 (stm 20) h ∧ SetAt w Pl 1 v1 h ∧ SetAt w Pl 7 v7 h ∧ SetAt w Pl 9 v9 h ∧ SetAt w Pl 11 v11 h ∧ SetAt w Pl 13 v13 h ∧ DictB3 w Pl v3 h) → Q .next s') :
    wpAny (model P w) A (execs (behindTheImports P) (mainEnv P c Fm)) Q (fun _ _ => False) s := by
  rw [body_is]
  have hset := hn "set" (not_boot (by kernel_rfl))
  have hlist := hn "list" (not_boot (by kernel_rfl))
  have hrange := hn "range" (not_boot (by kernel_rfl))
  obtain ⟨x0, k0', p0, h0⟩ := text_of t0
  obtain ⟨x15, k15', p15, h15⟩ := text_of t15
  refine step_text 0 T e0 h0 (w0 c Fm) l0 nb0 fun s0 v0 T0 => ?_
  refine step_set 1 T0 hA hb hb' (g1_set mg  v0 hset) (g1_list mg  v0 hlist) (g1_range mg  v0 hrange) e1 (w1 c Fm) l1 nb1 z1 y1 fun s1 v1 T1 => ?_
  refine step_def (n' := (fdPos (stm 2)).line + 1) T1 e2 k2 (an2 c Fm) q2 modP (Nat.le_of_ble_eq_true (by kernel_rfl)) (Nat.lt_succ_self _) fun s2 a2 T2 => ?_
  refine step_dict T2 (T2.low hsys) e3 (w3 c Fm) l3 nb3 b3some b3ne b3len b3nodup fun s3 v3 T3 => ?_
  refine step_def (n' := (fdPos (stm 4)).line + 1) T3 e4 k4 (an4 c Fm) q4 modP (Nat.le_of_ble_eq_true (by kernel_rfl)) (Nat.lt_succ_self _) fun s4 a4 T4 => ?_
  refine step_def (n' := (fdPos (stm 5)).line + 1) T4 e5 k5 (an5 c Fm) q5 modP (Nat.le_of_ble_eq_true (by kernel_rfl)) (Nat.lt_succ_self _) fun s5 a5 T5 => ?_
  refine step_def (n' := (fdPos (stm 6)).line + 1) T5 e6 k6 (an6 c Fm) q6 modP (Nat.le_of_ble_eq_true (by kernel_rfl)) (Nat.lt_succ_self _) fun s6 a6 T6 => ?_
  refine step_set 7 T6 hA hb hb' (g7_set mg a2 a4 a5 a6 v0 v1 v3 hset) (g7_list mg a2 a4 a5 a6 v0 v1 v3 hlist) (g7_range mg a2 a4 a5 a6 v0 v1 v3 hrange) e7 (w7 c Fm) l7 nb7 z7 y7 fun s7 v7 T7 => ?_
  refine step_def (n' := (fdPos (stm 8)).line + 1) T7 e8 k8 (an8 c Fm) q8 modP (Nat.le_of_ble_eq_true (by kernel_rfl)) (Nat.lt_succ_self _) fun s8 a8 T8 => ?_
  refine step_set 9 T8 hA hb hb' (g9_set mg a2 a4 a5 a6 a8 v0 v1 v3 v7 hset) (g9_list mg a2 a4 a5 a6 a8 v0 v1 v3 v7 hlist) (g9_range mg a2 a4 a5 a6 a8 v0 v1 v3 v7 hrange) e9 (w9 c Fm) l9 nb9 z9 y9 fun s9 v9 T9 => ?_
  refine step_def (n' := (fdPos (stm 10)).line + 1) T9 e10 k10 (an10 c Fm) q10 modP (Nat.le_of_ble_eq_true (by kernel_rfl)) (Nat.lt_succ_self _) fun s10 a10 T10 => ?_
  refine step_set 11 T10 hA hb hb' (g11_set mg a2 a4 a5 a6 a8 a10 v0 v1 v3 v7 v9 hset) (g11_list mg a2 a4 a5 a6 a8 a10 v0 v1 v3 v7 v9 hlist) (g11_range mg a2 a4 a5 a6 a8 a10 v0 v1 v3 v7 v9 hrange) e11 (w11 c Fm) l11 nb11 z11 y11 fun s11 v11 T11 => ?_
  refine step_def (n' := (fdPos (stm 12)).line + 1) T11 e12 k12 (an12 c Fm) q12 modP (Nat.le_of_ble_eq_true (by kernel_rfl)) (Nat.lt_succ_self _) fun s12 a12 T12 => ?_
  refine step_set 13 T12 hA hb hb' (g13_set mg a2 a4 a5 a6 a8 a10 a12 v0 v1 v3 v7 v9 v11 hset) (g13_list mg a2 a4 a5 a6 a8 a10 a12 v0 v1 v3 v7 v9 v11 hlist) (g13_range mg a2 a4 a5 a6 a8 a10 a12 v0 v1 v3 v7 v9 v11 hrange) e13 (w13 c Fm) l13 nb13 z13 y13 fun s13 v13 T13 => ?_
  refine step_def (n' := (fdPos (stm 14)).line + 1) T13 e14 k14 (an14 c Fm) q14 modP (Nat.le_of_ble_eq_true (by kernel_rfl)) (Nat.lt_succ_self _) fun s14 a14 T14 => ?_
  refine step_text 15 T14 e15 h15 (w15 c Fm) l15 nb15 fun s15 v15 T15 => ?_
  refine step_def (n' := (fdPos (stm 16)).line + 1) T15 e16 k16 (an16 c Fm) q16 modP (Nat.le_of_ble_eq_true (by kernel_rfl)) (Nat.lt_succ_self _) fun s16 a16 T16 => ?_
  refine step_def (n' := (fdPos (stm 17)).line + 1) T16 e17 k17 (an17 c Fm) q17 modP (Nat.le_of_ble_eq_true (by kernel_rfl)) (Nat.lt_succ_self _) fun s17 a17 T17 => ?_
  refine step_def (n' := (fdPos (stm 18)).line + 1) T17 e18 k18 (an18 c Fm) q18 modP (Nat.le_of_ble_eq_true (by kernel_rfl)) (Nat.lt_succ_self _) fun s18 a18 T18 => ?_
  refine step_def (n' := (fdPos (stm 19)).line + 1) T18 e19 k19 (an19 c Fm) q19 modP (Nat.le_of_ble_eq_true (by kernel_rfl)) (Nat.lt_succ_self _) fun s19 a19 T19 => ?_
  refine step_def (n' := (fdPos (stm 20)).line + 1) T19 e20 k20 (an20 c Fm) q20 modP (Nat.le_of_ble_eq_true (by kernel_rfl)) (Nat.lt_succ_self _) fun s20 a20 T20 => ?_
  refine wpAny_execs_nil (fin s20 a2 a4 a5 a6 a8 a10 a12 a14 a16 a17 a18 a19 a20 v0 v1 v3 v7 v9 v11 v13 v15 ?_)
  obtain ⟨⟨l, hl, hm⟩, hsh, hkeep, hnew, hf, _⟩ := T20
  obtain ⟨⟨⟨⟨⟨⟨⟨⟨⟨⟨⟨⟨⟨⟨⟨⟨⟨⟨⟨⟨⟨_, z0⟩, z1⟩, z2⟩, z3⟩, z4⟩, z5⟩, z6⟩, z7⟩, z8⟩, z9⟩, z10⟩, z11⟩, z12⟩, z13⟩, z14⟩, z15⟩, z16⟩, z17⟩, z18⟩, z19⟩, z20⟩ := hf
  refine ⟨⟨l, fun t ht => Nat.lt_of_lt_of_le (hl t ht) (Nat.le_of_ble_eq_true (by kernel_rfl)), hm⟩, hsh, hkeep, hnew, ⟨z2, z4, z5, z6, z8, z10, z12, z14, z16, z17, z18, z19, z20, z1, z7, z9, z11, z13, z3⟩, ?_⟩
  exact (Stable.and (FnAt.stable Pl a2 (stm 2)) (Stable.and (FnAt.stable Pl a4 (stm 4)) (Stable.and (FnAt.stable Pl a5 (stm 5)) (Stable.and (FnAt.stable Pl a6 (stm 6)) (Stable.and (FnAt.stable Pl a8 (stm 8)) (Stable.and (FnAt.stable Pl a10 (stm 10)) (Stable.and (FnAt.stable Pl a12 (stm 12)) (Stable.and (FnAt.stable Pl a14 (stm 14)) (Stable.and (FnAt.stable Pl a16 (stm 16)) (Stable.and (FnAt.stable Pl a17 (stm 17)) (Stable.and (FnAt.stable Pl a18 (stm 18)) (Stable.and (FnAt.stable Pl a19 (stm 19)) (Stable.and (FnAt.stable Pl a20 (stm 20)) (Stable.and (SetAt.stable w Pl 1 v1) (Stable.and (SetAt.stable w Pl 7 v7) (Stable.and (SetAt.stable w Pl 9 v9) (Stable.and (SetAt.stable w Pl 11 v11) (Stable.and (SetAt.stable w Pl 13 v13) (DictB3.stable w Pl v3)))))))))))))))))))
end Mine
end

/-! Top7 -/
section
open PySem PySem.W PyProof.Rows PySem.Calls
set_option Elab.async false
set_option maxRecDepth 100000
namespace Mine
theorem top_wp (w : World) (s : Shared) (mb mg : Str → Option Value) (c₀ Pl₀ : Addr) (hB : BootLeft s.heap mb mg c₀ Pl₀) (hg : s.gens = #[]) :
    wpAny (model P w) callerA (topTree P) (fun fin s' => ∃ f, fin = .done f ∧ TopEnd Facts P "law" w s mg s' ∧ leftWithCleanup s'.gens = false) (fun _ _ => False) s := by
  unfold topTree
  refine wpAny_bind (wpAny_moduleCode fun c Pl h₁ tk₁ hk₁ hc hPl hcode => ?_)
  unfold newBodyFrame
  refine wpAny_bind (wpAny_bind (wpAny_nsGet (hB.g.keeps hk₁) (wpAny_alloc ?_)))
  refine wpAny_bind (wpAny_run (codeAny_body bodyAnn bodyDoc (wpAny_mono (E := fun _ _ => False) ?_ (fun _ _ x => x) fun _ _ x => x.elim)))
  have hglt : mainGlobals < s.heap.objs.size := hB.g.lt
  obtain ⟨bm, ob, hbm, hne0, hneG, hneP, hbo, hcls, hdict, hdata⟩ := hB.bmod
  have hsys : ∃ o, s.heap.get? sysModules = some o := by
    obtain ⟨mm, ⟨o, _, _, e, _⟩, _⟩ := hB.noPylong
    exact ⟨o, e⟩
  refine top_chain (s₀ := s) (mg := mg) (mb₀ := mb) (c := c) (Pl := Pl) rfl hB.b hB.builtins hB.others hsys
    ⟨⟨[], fun _ h => (nomatch h), (hB.g.keeps hk₁).push _, hcode.push _, ⟨Nat.lt_of_lt_of_le hglt hc, Nat.lt_of_lt_of_le hglt hPl⟩,
      ⟨bm, ob, hbm, hne0, hneG, Nat.ne_of_lt (Nat.lt_of_lt_of_le (Heap.lt_size hbo) hPl), Heap.get?_push_of_some _ (hk₁ _ _ hbo), hcls, hdict, hdata⟩⟩, ⟨_, _, rfl⟩, fun b o _ e => Heap.get?_push_of_some _ (hk₁ b o e), hPl, trivial, fun _ _ _ _ => trivial⟩
    fun s' a2 a4 a5 a6 a8 a10 a12 a14 a16 a17 a18 a19 a20 v0 v1 v3 v7 v9 v11 v13 v15 T => ?_
  obtain ⟨⟨l, _, hm⟩, ⟨h', tk', rfl⟩, hkeep, hnew, ⟨z2, z4, z5, z6, z8, z10, z12, z14, z16, z17, z18, z19, z20, z1, z7, z9, z11, z13, z3⟩, _⟩ := T
  have hn : ∀ x : Str, bootMainNames.contains x = false → mg x = none := fun x hx => hB.others x (not_boot hx)
  refine wpAny_pure ⟨_, rfl, ⟨hg, rfl, hkeep, ⟨mgEnd mg a2 a4 a5 a6 a8 a10 a12 a14 a16 a17 a18 a19 a20 v0 v1 v3 v7 v9 v11 v13 v15, hm.g, ?_, ?_, mu_builtins mg a2 a4 a5 a6 a8 a10 a12 a14 a16 a17 a18 a19 a20 v0 v1 v3 v7 v9 v11 v13 v15⟩, ?_, ⟨mgEnd mg a2 a4 a5 a6 a8 a10 a12 a14 a16 a17 a18 a19 a20 v0 v1 v3 v7 v9 v11 v13 v15, mb, ⟨hm.g, hB.b.at' fun o e => hkeep _ o (by decide) e, hB.builtins, ⟨_, hB.statics.at' fun o e => hkeep _ o (by decide) e, rfl⟩, ?_,
    FnG.of z2 (m2 mg a2 a4 a5 a6 a8 a10 a12 a14 a16 a17 a18 a19 a20 v0 v1 v3 v7 v9 v11 v13 v15), FnG.of z4 (m4 mg a2 a4 a5 a6 a8 a10 a12 a14 a16 a17 a18 a19 a20 v0 v1 v3 v7 v9 v11 v13 v15), FnG.of z5 (m5 mg a2 a4 a5 a6 a8 a10 a12 a14 a16 a17 a18 a19 a20 v0 v1 v3 v7 v9 v11 v13 v15), FnG.of z6 (m6 mg a2 a4 a5 a6 a8 a10 a12 a14 a16 a17 a18 a19 a20 v0 v1 v3 v7 v9 v11 v13 v15), FnG.of z8 (m8 mg a2 a4 a5 a6 a8 a10 a12 a14 a16 a17 a18 a19 a20 v0 v1 v3 v7 v9 v11 v13 v15), FnG.of z10 (m10 mg a2 a4 a5 a6 a8 a10 a12 a14 a16 a17 a18 a19 a20 v0 v1 v3 v7 v9 v11 v13 v15), FnG.of z12 (m12 mg a2 a4 a5 a6 a8 a10 a12 a14 a16 a17 a18 a19 a20 v0 v1 v3 v7 v9 v11 v13 v15), FnG.of z14 (m14 mg a2 a4 a5 a6 a8 a10 a12 a14 a16 a17 a18 a19 a20 v0 v1 v3 v7 v9 v11 v13 v15), FnG.of z16 (m16 mg a2 a4 a5 a6 a8 a10 a12 a14 a16 a17 a18 a19 a20 v0 v1 v3 v7 v9 v11 v13 v15), FnG.of z17 (m17 mg a2 a4 a5 a6 a8 a10 a12 a14 a16 a17 a18 a19 a20 v0 v1 v3 v7 v9 v11 v13 v15), FnG.of z18 (m18 mg a2 a4 a5 a6 a8 a10 a12 a14 a16 a17 a18 a19 a20 v0 v1 v3 v7 v9 v11 v13 v15), FnG.of z19 (m19 mg a2 a4 a5 a6 a8 a10 a12 a14 a16 a17 a18 a19 a20 v0 v1 v3 v7 v9 v11 v13 v15), FnG.of z20 (m20 mg a2 a4 a5 a6 a8 a10 a12 a14 a16 a17 a18 a19 a20 v0 v1 v3 v7 v9 v11 v13 v15), SetG.of z1 (m1 mg a2 a4 a5 a6 a8 a10 a12 a14 a16 a17 a18 a19 a20 v0 v1 v3 v7 v9 v11 v13 v15), SetG.of z7 (m7 mg a2 a4 a5 a6 a8 a10 a12 a14 a16 a17 a18 a19 a20 v0 v1 v3 v7 v9 v11 v13 v15), SetG.of z9 (m9 mg a2 a4 a5 a6 a8 a10 a12 a14 a16 a17 a18 a19 a20 v0 v1 v3 v7 v9 v11 v13 v15), SetG.of z11 (m11 mg a2 a4 a5 a6 a8 a10 a12 a14 a16 a17 a18 a19 a20 v0 v1 v3 v7 v9 v11 v13 v15), SetG.of z13 (m13 mg a2 a4 a5 a6 a8 a10 a12 a14 a16 a17 a18 a19 a20 v0 v1 v3 v7 v9 v11 v13 v15), DictG.of z3 (m3 mg a2 a4 a5 a6 a8 a10 a12 a14 a16 a17 a18 a19 a20 v0 v1 v3 v7 v9 v11 v13 v15)⟩⟩⟩, by show leftWithCleanup s.gens = false; rw [hg]; simp [leftWithCleanup]⟩
  · have h0 : ∀ y u, mg y = some u → y ∈ startupNames ∨ y ∈ P.boundNames := fun y u e => by
      refine .inl (Classical.byContradiction fun q => ?_)
      have : mg y = none := hB.others y q
      rw [this] at e; cases e
    exact (upd_names (upd_names (upd_names (upd_names (upd_names (upd_names (upd_names (upd_names (upd_names (upd_names (upd_names (upd_names (upd_names (upd_names (upd_names (upd_names (upd_names (upd_names (upd_names (upd_names (upd_names h0 (Or.inr (List.contains_iff_mem.mp n0))) (Or.inr (List.contains_iff_mem.mp n1))) (Or.inr (List.contains_iff_mem.mp n2))) (Or.inr (List.contains_iff_mem.mp n3))) (Or.inr (List.contains_iff_mem.mp n4))) (Or.inr (List.contains_iff_mem.mp n5))) (Or.inr (List.contains_iff_mem.mp n6))) (Or.inr (List.contains_iff_mem.mp n7))) (Or.inr (List.contains_iff_mem.mp n8))) (Or.inr (List.contains_iff_mem.mp n9))) (Or.inr (List.contains_iff_mem.mp n10))) (Or.inr (List.contains_iff_mem.mp n11))) (Or.inr (List.contains_iff_mem.mp n12))) (Or.inr (List.contains_iff_mem.mp n13))) (Or.inr (List.contains_iff_mem.mp n14))) (Or.inr (List.contains_iff_mem.mp n15))) (Or.inr (List.contains_iff_mem.mp n16))) (Or.inr (List.contains_iff_mem.mp n17))) (Or.inr (List.contains_iff_mem.mp n18))) (Or.inr (List.contains_iff_mem.mp n19))) (Or.inr (List.contains_iff_mem.mp n20)))
  · intro x hx
    rcases List.mem_cons.mp hx with rfl | hx
    · exact mu_package mg a2 a4 a5 a6 a8 a10 a12 a14 a16 a17 a18 a19 a20 v0 v1 v3 v7 v9 v11 v13 v15
    rcases List.mem_cons.mp hx with rfl | hx
    · exact mu_loader mg a2 a4 a5 a6 a8 a10 a12 a14 a16 a17 a18 a19 a20 v0 v1 v3 v7 v9 v11 v13 v15
    rcases List.mem_cons.mp hx with rfl | hx
    · exact mu_spec mg a2 a4 a5 a6 a8 a10 a12 a14 a16 a17 a18 a19 a20 v0 v1 v3 v7 v9 v11 v13 v15
    rcases List.mem_cons.mp hx with rfl | hx
    · exact mu_file mg a2 a4 a5 a6 a8 a10 a12 a14 a16 a17 a18 a19 a20 v0 v1 v3 v7 v9 v11 v13 v15
    rcases List.mem_cons.mp hx with rfl | hx
    · exact mu_cached mg a2 a4 a5 a6 a8 a10 a12 a14 a16 a17 a18 a19 a20 v0 v1 v3 v7 v9 v11 v13 v15
    cases hx
  · obtain ⟨_, _, pm, c', doc, _, _, ga, gr⟩ := z20
    have hn20 := nameLaw
    exact ⟨a20, _, _, _, _, _, (globalOf_ns hm.g _).trans (m20 mg a2 a4 a5 a6 a8 a10 a12 a14 a16 a17 a18 a19 a20 v0 v1 v3 v7 v9 v11 v13 v15), ga, rfl, pinLaw, nameLaw, nameLaw, rfl, rfl, rfl, rfl, rfl, rfl, .inl ⟨parLaw, rfl⟩, [], by kernel_rfl, .inl ⟨rfl, rfl⟩⟩
  · intro x hx
    rcases List.mem_cons.mp hx with rfl | hx
    · exact (mu_ord mg a2 a4 a5 a6 a8 a10 a12 a14 a16 a17 a18 a19 a20 v0 v1 v3 v7 v9 v11 v13 v15).trans (hn _ (by kernel_rfl))
    rcases List.mem_cons.mp hx with rfl | hx
    · exact (mu_chr mg a2 a4 a5 a6 a8 a10 a12 a14 a16 a17 a18 a19 a20 v0 v1 v3 v7 v9 v11 v13 v15).trans (hn _ (by kernel_rfl))
    rcases List.mem_cons.mp hx with rfl | hx
    · exact (mu_zip mg a2 a4 a5 a6 a8 a10 a12 a14 a16 a17 a18 a19 a20 v0 v1 v3 v7 v9 v11 v13 v15).trans (hn _ (by kernel_rfl))
    rcases List.mem_cons.mp hx with rfl | hx
    · exact (mu_range mg a2 a4 a5 a6 a8 a10 a12 a14 a16 a17 a18 a19 a20 v0 v1 v3 v7 v9 v11 v13 v15).trans (hn _ (by kernel_rfl))
    rcases List.mem_cons.mp hx with rfl | hx
    · exact (mu_min mg a2 a4 a5 a6 a8 a10 a12 a14 a16 a17 a18 a19 a20 v0 v1 v3 v7 v9 v11 v13 v15).trans (hn _ (by kernel_rfl))
    cases hx
end Mine
end

/-! C1 -/
section
open PySem PySem.W PyProof.Rows PySem.Calls
set_option Elab.async false
set_option maxRecDepth 100000
namespace Mine

/-- one sign -/
def sg (c : Nat) : Str := ⟨#[c]⟩

/-- room for calls -/
structure Room (A : Around) (k : Nat) : Prop where
  handled : A.handled = none
  depth : A.depth + k < recursionLimit
  units : A.units + 3 * k + 10 < cLine

theorem Room.deeper {A : Around} {k : Nat} (x : Room A (k + 1)) (env : Env) : Room (A.deeper env) k :=
  ⟨x.handled, by have := x.depth; show A.depth + 1 + k < _; omega, by have := x.units; show A.units + 3 + 3 * k + 10 < _; omega⟩
theorem Room.less {A : Around} {k j : Nat} (x : Room A k) (h : j ≤ k) : Room A j :=
  ⟨x.handled, by have := x.depth; omega, by have := x.units; omega⟩

/-- an environment of a def or of a comprehension of the text -/
structure FEnv (env : Env) : Prop where
  kind : env.scope.kind = .function
  globals : env.globals = mainGlobals
  builtins : env.builtins = builtinsNs

section
variable {w : World} {A : Around} {E : Value → Shared → Prop} {s : Shared} {env : Env} {mg mb : Str → Option Value} {Q : Value → Shared → Prop}

theorem nm_local {x : Str} {pos : Pos} {m : Str → Option Value} {v : Value} (hE : FEnv env) (hx : env.kindOf x = some .local) (hd : (x == ("__debug__" : Str)) = false) (hn : s.heap.Ns env.locals m) (hm : m x = some v) (h : Q v s) :
    wpAny (model P w) A (eval (.Name x pos) env) Q E s := wpAny_Name (wpAny_loadName_local hE.kind hx hn hm h) hd
theorem nm_global {x : Str} {pos : Pos} {v : Value} (hE : FEnv env) (hx : env.kindOf x = some .globalImplicit) (hd : (x == ("__debug__" : Str)) = false) (F : FactsM w s.heap mg mb) (hv : mg x = some v) (h : Q v s) :
    wpAny (model P w) A (eval (.Name x pos) env) Q E s :=
  Name_function_global hE.kind hx (loadGlobal_global (by rw [hE.globals]; exact F.g) hv h) hd
theorem nm_builtin {x : Str} {pos : Pos} {v : Value} (hE : FEnv env) (hx : env.kindOf x = some .globalImplicit) (hd : (x == ("__debug__" : Str)) = false) (F : FactsM w s.heap mg mb) (hv : mg x = none) (hn : x ≠ "__name__") (hb : bootBuiltins x = some v) (h : Q v s) :
    wpAny (model P w) A (eval (.Name x pos) env) Q E s :=
  Name_function_global hE.kind hx (loadGlobal_builtin (by rw [hE.globals]; exact F.g) hv (by rw [hE.builtins]; exact F.b) (by rw [F.bb x hn]; exact hb) h) hd

theorem b_ord : bootBuiltins "ord" = some (.builtin "ord") := by kernel_rfl
theorem b_chr : bootBuiltins "chr" = some (.builtin "chr") := by kernel_rfl
theorem b_zip : bootBuiltins "zip" = some (.type "zip") := by kernel_rfl
theorem b_range : bootBuiltins "range" = some (.type "range") := by kernel_rfl
theorem b_min : bootBuiltins "min" = some (.builtin "min") := by kernel_rfl

theorem st_local {x : Str} {v : Value} {h₀ : Heap} {m : Str → Option Value} {R : Unit → Shared → Prop} (hE : FEnv env) (hx : env.kindOf x = some .local) (F : Fr h₀ env.locals s.heap m)
    (h : ∀ h' tk, Fr h₀ env.locals h' (fun y => if y = x then some v else m y) → (∀ b o, b ≠ env.locals → s.heap.get? b = some o → h'.get? b = some o) → R () { s with heap := h', toks := tk }) :
    wpAny (model P w) A (storeName env x v) R E s :=
  wpAny_storeName_local hx F.ns (fun h' hn hs => h h' _ (F.set hn hs) fun b o hb e => (hs.2 b hb).trans e) (by rw [hE.kind]; rfl)

theorem wp_If {test : Expr} {body orelse : List Stmt} {pos : Pos} {R : Flow → Shared → Prop} (C : Bool) (ht : ∀ Q' : Bool → Shared → Prop, (∀ tk, Q' C { s with toks := tk }) → wpAny (model P w) A (isTrue test env (eval test env)) Q' E s)
    (h1 : C = true → ∀ tk, wpAny (model P w) A (execs body env) R E { s with toks := tk }) (h2 : C = false → ∀ tk, wpAny (model P w) A (execs orelse env) R E { s with toks := tk }) : wpAny (model P w) A (exec (.If test body orelse pos) env) R E s := by
  refine wpAny_If (ht _ fun tk => ?_)
  cases C with
  | true => exact h1 rfl tk
  | false => exact h2 rfl tk

/-- a call of one of the text's defs, by its statement -/
theorem call_fn {i : Nat} {a : Addr} {args : List Value} {binds : List (Str × Value)} (hf : FnObj s.heap a (stm i)) (hlim : s.heap.NoLimit) (hroom : A.depth < recursionLimit)
    (hbind : ∀ pm cd doc, bindArgs (defFd (fdName (stm i)) (fdName (stm i)) (fdParams (stm i)) (fdBody (stm i)) (fdScope (stm i)) mainGlobals .none .none none pm cd doc) ⟨args, []⟩ = pure binds)
    (hcell : ((fdScope (stm i)).names.all fun x => x.2 != .cell) = true) (hloc : (binds.map (·.1)).all (fun x => (fdScope (stm i)).names.lookup x == some .local) = true)
    (hsc : ((fdScope (stm i)).isCoroutine, (fdScope (stm i)).isGenerator, (fdScope (stm i)).kind) = (false, false, .function))
    (h : ∀ env h₀, FEnv env → env.scope = fdScope (stm i) → Fr s.heap env.locals h₀ (fun x => binds.reverse.lookup x) →
      wpAny (model P w) (A.deeper env) (execs (fdBody (stm i)) env) (fun f s' => Q (match f with | .ret v => v | _ => .none) s') (fun _ _ => False) { s with heap := h₀, toks := s.toks + binds.length }) :
    wpAny (model P w) A (call (.ref a) args) Q E s := by
  obtain ⟨pm, c', doc, g, r⟩ := hf
  obtain ⟨h1, h2, h3⟩ : _ ∧ _ ∧ _ := by simpa only [Prod.mk.injEq] using hsc
  refine wpAny_call (codeAny_call_def (fd := defFd (fdName (stm i)) (fdName (stm i)) (fdParams (stm i)) (fdBody (stm i)) (fdScope (stm i)) mainGlobals .none .none none pm (.ref c') doc) (body := fdBody (stm i)) (binds := binds) hroom g rfl hlim r rfl
    (BindsTo.of_eq (hbind pm (.ref c') doc)) (fun x hx => by simpa using List.all_eq_true.mp hcell x hx) (fun x hx => by show (fdScope (stm i)).names.lookup x.1 = some .local; exact eq_of_beq (List.all_eq_true.mp hloc x.1 (List.mem_map_of_mem hx))) (fun h₀ hns hk => ?_) h1 h2 h3)
  exact wpAny_mono (h _ h₀ ⟨h3, rfl, rfl⟩ rfl ⟨hns, hk, Nat.le_refl _⟩) (fun f s' q => q) fun _ _ x => x.elim
end
end Mine
end

/-! C2 -/
section
open PySem PySem.W PyProof.Rows PySem.Calls
set_option Elab.async false
set_option maxRecDepth 100000
namespace Mine

/-- the shape of «return ord(code) in g» -/
def SetBody (g : Str) (b : List Stmt) : Prop := ∃ p1 p2 p3 p4 p5 p6, b = [.Return (some (.Compare (.Call (.Name "ord" p1) [.Name "code" p2] [] p3) [.In] [.Name g p4] p5)) p6]
theorem sb2 : SetBody "b1_set" (fdBody (stm 2)) := by with_unfolding_all exact ⟨_, _, _, _, _, _, rfl⟩
theorem sb8 : SetBody "c6_set" (fdBody (stm 8)) := by with_unfolding_all exact ⟨_, _, _, _, _, _, rfl⟩
theorem sb10 : SetBody "c7_set" (fdBody (stm 10)) := by with_unfolding_all exact ⟨_, _, _, _, _, _, rfl⟩
theorem sb12 : SetBody "c8_set" (fdBody (stm 12)) := by with_unfolding_all exact ⟨_, _, _, _, _, _, rfl⟩
theorem sb14 : SetBody "c9_set" (fdBody (stm 14)) := by with_unfolding_all exact ⟨_, _, _, _, _, _, rfl⟩

def kn (i : Nat) (x : Str) : Option NameKind := (fdScope (stm i)).names.lookup x

section
variable {w : World} {A : Around} {E : Value → Shared → Prop} {s : Shared} {mg mb : Str → Option Value} {Q : Value → Shared → Prop}

theorem un_ord {h : Heap} (F : FactsM w h mg mb) : mg "ord" = none := F.un _ (by decide)
theorem un_chr {h : Heap} (F : FactsM w h mg mb) : mg "chr" = none := F.un _ (by decide)
theorem un_zip {h : Heap} (F : FactsM w h mg mb) : mg "zip" = none := F.un _ (by decide)
theorem un_range {h : Heap} (F : FactsM w h mg mb) : mg "range" = none := F.un _ (by decide)
theorem un_min {h : Heap} (F : FactsM w h mg mb) : mg "min" = none := F.un _ (by decide)

/-- ord of a local name -/
theorem ev_ord {env : Env} {x : Str} {p1 p2 p3 : Pos} {m : Str → Option Value} {c : Nat} {t : Tok} (hE : FEnv env) (F : FactsM w s.heap mg mb) (ho : env.kindOf "ord" = some .globalImplicit) (hx : env.kindOf x = some .local) (hd : (x == ("__debug__" : Str)) = false)
    (hn : s.heap.Ns env.locals m) (hm : m x = some (.str (sg c) t)) (h : ∀ u tk, Q (.int (c : Nat) u) { s with toks := tk }) :
    wpAny (model P w) A (eval (.Call (.Name "ord" p1) [.Name x p2] [] p3) env) Q E s := by
  refine Call_ (nm_builtin hE ho (by decide) F (un_ord F) (by decide) b_ord ?_)
  refine PyProof.Rows.callWith_builtin1 (args_cons (nm_local hE hx hd hn hm (args_nil ?_)))
  exact P.ord_of_char (h _ _)

theorem set_fn {i j : Nat} {f g : Str} {c : Nat} {t : Tok} (F : FactsM w s.heap mg mb) (hr : Room A 1) (hf : FnG mg s.heap i f) (hS : ∀ h, FactsM w h mg mb → SetG w mg h j g) (hb : SetBody g (fdBody (stm i)))
    (hbind : ∀ pm cd doc v, bindArgs (defFd (fdName (stm i)) (fdName (stm i)) (fdParams (stm i)) (fdBody (stm i)) (fdScope (stm i)) mainGlobals .none .none none pm cd doc) ⟨[v], []⟩ = pure [(("code" : Str), v)])
    (hcell : ((fdScope (stm i)).names.all fun x => x.2 != .cell) = true)
    (hk : (kn i "ord", kn i "code", kn i g) = (some .globalImplicit, some .local, some .globalImplicit)) (hd : (g == ("__debug__" : Str)) = false)
    (hsc : ((fdScope (stm i)).isCoroutine, (fdScope (stm i)).isGenerator, (fdScope (stm i)).kind) = (false, false, .function))
    (h : ∀ h' tk, (∀ b o, s.heap.get? b = some o → h'.get? b = some o) → Q (.bool ((setOf j).any (· == (c : Int)))) { s with heap := h', toks := tk }) :
    ∃ a, mg f = some (.ref a) ∧ wpAny (model P w) A (call (.ref a) [.str (sg c) t]) Q E s := by
  obtain ⟨a, ha, ho⟩ := hf
  obtain ⟨k1, k2, k3⟩ : _ ∧ _ ∧ _ := by simpa only [Prod.mk.injEq] using hk
  obtain ⟨p1, p2, p3, p4, p5, p6, hb⟩ := hb
  refine ⟨a, ha, call_fn (binds := [("code", .str (sg c) t)]) ho F.lim (by have := hr.depth; omega) (fun pm cd doc => hbind pm cd doc _) hcell (by simpa [kn] using k2) hsc fun env h₀ hE hes hF => ?_⟩
  rw [hb]
  have F' := F.keeps hF.keep
  have hkind : ∀ x, env.kindOf x = kn i x := fun x => by unfold Env.kindOf kn; rw [hes]
  refine wpAny_execs_cons (wpAny_Return_some (wpAny_Compare1 (ev_ord (s := { s with heap := h₀, toks := _ }) hE F' (by rw [hkind]; exact k1) (by rw [hkind]; exact k2) (by decide) hF.ns rfl fun u tk => ?_)))
  obtain ⟨b, mm, hb1, hb2⟩ := hS _ F'
  refine nm_global (s := { s with heap := h₀, toks := tk }) hE (by rw [hkind]; exact k3) hd F' hb1 ?_
  refine wpAny_inSet_of (knd := intKind P w) (k := (c : Int)) (intKind_is P w _ _) rfl hb2 ?_
  exact h _ _ hF.keep

theorem in_b1 {c : Nat} {t : Tok} (F : FactsM w s.heap mg mb) (hr : Room A 1) (h : ∀ h' tk, (∀ b o, s.heap.get? b = some o → h'.get? b = some o) → Q (.bool ((setOf 1).any (· == (c : Int)))) { s with heap := h', toks := tk }) :
    ∃ a, mg "in_table_b1" = some (.ref a) ∧ wpAny (model P w) A (call (.ref a) [.str (sg c) t]) Q E s :=
  set_fn F hr F.f2 (fun _ F => F.s1) sb2 (fun _ _ _ _ => by kernel_rfl) (by kernel_rfl) (by kernel_rfl) (by decide) (by kernel_rfl) h
theorem in_c6 {c : Nat} {t : Tok} (F : FactsM w s.heap mg mb) (hr : Room A 1) (h : ∀ h' tk, (∀ b o, s.heap.get? b = some o → h'.get? b = some o) → Q (.bool ((setOf 7).any (· == (c : Int)))) { s with heap := h', toks := tk }) :
    ∃ a, mg "in_table_c6" = some (.ref a) ∧ wpAny (model P w) A (call (.ref a) [.str (sg c) t]) Q E s :=
  set_fn F hr F.f8 (fun _ F => F.s7) sb8 (fun _ _ _ _ => by kernel_rfl) (by kernel_rfl) (by kernel_rfl) (by decide) (by kernel_rfl) h
theorem in_c7 {c : Nat} {t : Tok} (F : FactsM w s.heap mg mb) (hr : Room A 1) (h : ∀ h' tk, (∀ b o, s.heap.get? b = some o → h'.get? b = some o) → Q (.bool ((setOf 9).any (· == (c : Int)))) { s with heap := h', toks := tk }) :
    ∃ a, mg "in_table_c7" = some (.ref a) ∧ wpAny (model P w) A (call (.ref a) [.str (sg c) t]) Q E s :=
  set_fn F hr F.f10 (fun _ F => F.s9) sb10 (fun _ _ _ _ => by kernel_rfl) (by kernel_rfl) (by kernel_rfl) (by decide) (by kernel_rfl) h
theorem in_c8 {c : Nat} {t : Tok} (F : FactsM w s.heap mg mb) (hr : Room A 1) (h : ∀ h' tk, (∀ b o, s.heap.get? b = some o → h'.get? b = some o) → Q (.bool ((setOf 11).any (· == (c : Int)))) { s with heap := h', toks := tk }) :
    ∃ a, mg "in_table_c8" = some (.ref a) ∧ wpAny (model P w) A (call (.ref a) [.str (sg c) t]) Q E s :=
  set_fn F hr F.f12 (fun _ F => F.s11) sb12 (fun _ _ _ _ => by kernel_rfl) (by kernel_rfl) (by kernel_rfl) (by decide) (by kernel_rfl) h
theorem in_c9 {c : Nat} {t : Tok} (F : FactsM w s.heap mg mb) (hr : Room A 1) (h : ∀ h' tk, (∀ b o, s.heap.get? b = some o → h'.get? b = some o) → Q (.bool ((setOf 13).any (· == (c : Int)))) { s with heap := h', toks := tk }) :
    ∃ a, mg "in_table_c9" = some (.ref a) ∧ wpAny (model P w) A (call (.ref a) [.str (sg c) t]) Q E s :=
  set_fn F hr F.f14 (fun _ F => F.s13) sb14 (fun _ _ _ _ => by kernel_rfl) (by kernel_rfl) (by kernel_rfl) (by decide) (by kernel_rfl) h
end
end Mine
end

/-! C3 -/
section
open PySem PySem.W PyProof.Rows PySem.Calls
set_option Elab.async false
set_option maxRecDepth 100000
namespace Mine

def C11Body (b : List Stmt) : Prop := ∃ p1 k p2 p3 p4, b = [.Return (some (.Compare (.Name "code" p1) [.Eq] [.Constant (.str " ") k p2] p3)) p4]
theorem sb5 : C11Body (fdBody (stm 5)) := by with_unfolding_all exact ⟨_, _, _, _, _, rfl⟩
def C4Body (b : List Stmt) : Prop := ∃ p1 p2 p3 p4 p5 p6 k1 p7 p8 k2 p9 p10 p11 p12 k3 p13 p14 k4 p15 p16 p17 p18 p19 p20 k5 p21 p22 k6 p23 k7 p24 k8 p25 p26 p27, b = [
  .Assign [.Name "c" p1] (.Call (.Name "ord" p2) [.Name "code" p3] [] p4) p5,
  .If (.Compare (.Name "c" p6) [.Lt] [.Constant (.int 64976) k1 p7] p8) [.Return (some (.Constant (.bool false) k2 p9)) p10] [] p11,
  .If (.Compare (.Name "c" p12) [.Lt] [.Constant (.int 65008) k3 p13] p14) [.Return (some (.Constant (.bool true) k4 p15)) p16] [] p17,
  .Return (some (.Compare (.BinOp (.Call (.Name "ord" p18) [.Name "code" p19] [] p20) .BitAnd (.Constant (.int 65535) k5 p21) p22) [.In] [.Tuple [.Constant (.int 65534) k6 p23, .Constant (.int 65535) k7 p24] k8 p25] p26)) p27]
theorem sb6 : C4Body (fdBody (stm 6)) := by with_unfolding_all exact ⟨_, _, _, _, _, _, _, _, _, _, _, _, _, _, _, _, _, _, _, _, _, _, _, _, _, _, _, _, _, _, _, _, _, _, _, rfl⟩
def MapBody (b : List Stmt) : Prop := ∃ p1 p2 p3 p4 p5 p6 p7 p8 p9 k1 p10 p11 p12 p13 p14 p15 p16 p17 p18, b = [
  .Assign [.Name "r" p1] (.Call (.Attribute (.Name "b3_exceptions" p2) "get" p3) [.Call (.Name "ord" p4) [.Name "code" p5] [] p6] [] p7) p8,
  .If (.Compare (.Name "r" p9) [.IsNot] [.Constant .none k1 p10] p11) [.Return (some (.Name "r" p12)) p13] [] p14,
  .Return (some (.Call (.Attribute (.Name "code" p15) "lower" p16) [] [] p17)) p18] ∧ (p3.endLine == p7.line) = true ∧ (p16.endLine == p17.line) = true
theorem sb4 : MapBody (fdBody (stm 4)) := by with_unfolding_all exact ⟨_, _, _, _, _, _, _, _, _, _, _, _, _, _, _, _, _, _, _, rfl, rfl, rfl⟩

def b3get (ks : List (Int × Str)) (k : Int) : Option Str := (ks.find? fun kv => decide (kv.1 = k)).map (·.2)
def mapS (c : Nat) : Str := (b3get b3tab (c : Int)).getD (Txt.lower (sg c))
def c4B (c : Nat) : Bool := if (c : Int) < 64976 then false else if (c : Int) < 65008 then true else ([65534, 65535] : List Int).any (· == Builtin.bitAnd (c : Int) 65535)

theorem vals_get : ∀ {kvs : List (Int × Value)} {ks : List (Int × Str)} (k : Int), Vals kvs ks → (valueAt kvs k = none ∧ b3get ks k = none) ∨ ∃ x t, valueAt kvs k = some (.str x t) ∧ b3get ks k = some x
  | [], [], _, _ => .inl ⟨rfl, rfl⟩
  | p :: r, q :: l, k, h => by
    obtain ⟨h1, ⟨t, h2⟩, h3⟩ := h
    by_cases e : p.1 = k
    · have e' : q.1 = k := h1 ▸ e
      exact .inr ⟨q.2, t, by simp [valueAt, e, h2], by simp [b3get, e']⟩
    · have e' : ¬ q.1 = k := h1 ▸ e
      have := vals_get k h3
      simpa [valueAt, b3get, List.find?_cons, e, e'] using this
  | [], _ :: _, _, h => h.elim
  | _ :: _, [], _, h => h.elim

theorem ite_dec {p : Prop} [Decidable p] {a b : Prop} (h1 : p → a) (h2 : ¬ p → b) : if decide p = true then a else b := by
  by_cases h : p
  · rw [decide_eq_true h]; exact h1 h
  · rw [decide_eq_false h]; exact h2 h

section
variable {w : World} {A : Around} {E : Value → Shared → Prop} {s : Shared} {mg mb : Str → Option Value} {Q : Value → Shared → Prop}

theorem in_c11 {c : Nat} {t : Tok} (F : FactsM w s.heap mg mb) (hr : Room A 1) (h : ∀ h' tk, (∀ b o, s.heap.get? b = some o → h'.get? b = some o) → Q (.bool (c == 32)) { s with heap := h', toks := tk }) :
    ∃ a, mg "in_table_c11" = some (.ref a) ∧ wpAny (model P w) A (call (.ref a) [.str (sg c) t]) Q E s := by
  obtain ⟨a, ha, ho⟩ := F.f5
  obtain ⟨p1, k, p2, p3, p4, hb⟩ := sb5
  refine ⟨a, ha, call_fn (binds := [("code", .str (sg c) t)]) ho F.lim (by have := hr.depth; omega) (fun _ _ _ => by kernel_rfl) (by kernel_rfl) (by kernel_rfl) (by kernel_rfl) fun env h₀ hE hes hF => ?_⟩
  rw [hb]
  have hkind : ∀ x, env.kindOf x = kn 5 x := fun x => by unfold Env.kindOf kn; rw [hes]
  refine wpAny_execs_cons (wpAny_Return_some (wpAny_Compare1 (nm_local (s := { s with heap := h₀, toks := _ }) hE (by rw [hkind]; kernel_rfl) (by decide) hF.ns rfl (wpAny_Constant_str ?_))))
  refine PySem.P.eq_str ?_
  have e : ((sg c).cps.toList == (" " : Str).cps.toList) = (c == 32) := by
    rw [show (" " : Str).cps.toList = [32] by kernel_rfl]
    show ([c] == [32]) = (c == 32)
    simp
  rw [e]
  exact h _ _ hF.keep

theorem in_c4 {c : Nat} {t : Tok} (F : FactsM w s.heap mg mb) (hr : Room A 1) (h : ∀ h' tk, (∀ b o, s.heap.get? b = some o → h'.get? b = some o) → Q (.bool (c4B c)) { s with heap := h', toks := tk }) :
    ∃ a, mg "in_table_c4" = some (.ref a) ∧ wpAny (model P w) A (call (.ref a) [.str (sg c) t]) Q E s := by
  obtain ⟨a, ha, ho⟩ := F.f6
  obtain ⟨p1, p2, p3, p4, p5, p6, k1, p7, p8, k2, p9, p10, p11, p12, k3, p13, p14, k4, p15, p16, p17, p18, p19, p20, k5, p21, p22, k6, p23, k7, p24, k8, p25, p26, p27, hb⟩ := sb6
  refine ⟨a, ha, call_fn (binds := [("code", .str (sg c) t)]) ho F.lim (by have := hr.depth; omega) (fun _ _ _ => by kernel_rfl) (by kernel_rfl) (by kernel_rfl) (by kernel_rfl) fun env h₀ hE hes hF => ?_⟩
  rw [hb]
  have hkind : ∀ x, env.kindOf x = kn 6 x := fun x => by unfold Env.kindOf kn; rw [hes]
  have ho : env.kindOf "ord" = some .globalImplicit := by rw [hkind]; kernel_rfl
  have hcode : env.kindOf "code" = some .local := by rw [hkind]; kernel_rfl
  have hc : env.kindOf "c" = some .local := by rw [hkind]; kernel_rfl
  refine wpAny_execs_cons (wpAny_Assign_Name (ev_ord (s := { s with heap := h₀, toks := _ }) hE (F.keeps hF.keep) ho hcode (by decide) hF.ns rfl fun u tk => ?_))
  refine st_local (s := { s with heap := h₀, toks := tk }) hE hc hF fun h₁ tk₁ hF₁ _ => ?_
  refine wpAny_execs_cons (wp_If (s := { s with heap := h₁, toks := tk₁ }) (decide ((c : Int) < 64976)) (fun Q' hQ' => wpAny_isTrue_Compare1 (nm_local (s := { s with heap := h₁, toks := tk₁ }) hE hc (by decide) hF₁.ns rfl (wpAny_Constant_int (lt_int (wpAny_truthy_bool (hQ' _)))))) (fun q1 tk₂ => ?_) fun q1 tk₂ => ?_)
  · refine wpAny_execs_cons (wpAny_Return_some (wpAny_Constant_bool ?_))
    have e : c4B c = false := by unfold c4B; rw [if_pos (of_decide_eq_true q1)]
    rw [← e]; exact h _ _ hF₁.keep
  refine wpAny_execs_nil ?_
  refine wpAny_execs_cons (wp_If (s := { s with heap := h₁, toks := tk₂ }) (decide ((c : Int) < 65008)) (fun Q' hQ' => wpAny_isTrue_Compare1 (nm_local (s := { s with heap := h₁, toks := tk₂ }) hE hc (by decide) hF₁.ns rfl (wpAny_Constant_int (lt_int (wpAny_truthy_bool (hQ' _)))))) (fun q2 tk₃ => ?_) fun q2 tk₃ => ?_)
  · refine wpAny_execs_cons (wpAny_Return_some (wpAny_Constant_bool ?_))
    have e : c4B c = true := by unfold c4B; rw [if_neg (of_decide_eq_false q1), if_pos (of_decide_eq_true q2)]
    rw [← e]; exact h _ _ hF₁.keep
  refine wpAny_execs_nil ?_
  refine wpAny_execs_cons (wpAny_Return_some (wpAny_Compare1 (wpAny_BinOp (ev_ord (s := { s with heap := h₁, toks := tk₃ }) hE (F.keeps hF₁.keep) ho hcode (by decide) hF₁.ns rfl fun u' tk' => wpAny_Constant_int (and_int ?_)))))
  refine Tuple_ (args_cons (wpAny_Constant_int (args_cons (wpAny_Constant_int (args_nil ?_)))))
  refine wpAny_newTuple ?_ (by show (2 : Nat) ≤ sizeLine; rw [sizeLine_eq]; omega)
  refine in_tuple_ints (ns := [65534, 65535]) ⟨_, Heap.get?_push_size _ rfl, rfl, _, rfl⟩ (.cons _ _ (.cons _ _ .nil)) ?_
  have e : c4B c = ([65534, 65535] : List Int).any (· == Builtin.bitAnd (c : Int) 65535) := by unfold c4B; rw [if_neg (of_decide_eq_false q1), if_neg (of_decide_eq_false q2)]
  rw [← e]
  exact h _ _ fun b o e => Heap.get?_push_of_some _ (hF₁.keep b o e)

theorem map_b3 {c : Nat} {t : Tok} (F : FactsM w s.heap mg mb) (hr : Room A 1) (h : ∀ t' h' tk, (∀ b o, s.heap.get? b = some o → h'.get? b = some o) → Q (.str (mapS c) t') { s with heap := h', toks := tk }) :
    ∃ a, mg "map_table_b3" = some (.ref a) ∧ wpAny (model P w) A (call (.ref a) [.str (sg c) t]) Q E s := by
  obtain ⟨a, ha, ho⟩ := F.f4
  obtain ⟨p1, p2, p3, p4, p5, p6, p7, p8, p9, k1, p10, p11, p12, p13, p14, p15, p16, p17, p18, hb, hl1, hl2⟩ := sb4
  refine ⟨a, ha, call_fn (binds := [("code", .str (sg c) t)]) ho F.lim (by have := hr.depth; omega) (fun _ _ _ => by kernel_rfl) (by kernel_rfl) (by kernel_rfl) (by kernel_rfl) fun env h₀ hE hes hF => ?_⟩
  rw [hb]
  have hkind : ∀ x, env.kindOf x = kn 4 x := fun x => by unfold Env.kindOf kn; rw [hes]
  have ho : env.kindOf "ord" = some .globalImplicit := by rw [hkind]; kernel_rfl
  have hcode : env.kindOf "code" = some .local := by rw [hkind]; kernel_rfl
  have hrr : env.kindOf "r" = some .local := by rw [hkind]; kernel_rfl
  have hbx : env.kindOf "b3_exceptions" = some .globalImplicit := by rw [hkind]; kernel_rfl
  have F' := F.keeps hF.keep
  obtain ⟨d, kvs, hd, hD, hV, hds⟩ := F'.d
  refine wpAny_execs_cons (wpAny_Assign_Name (Call_method1 rfl rfl hl1 (nm_global (s := { s with heap := h₀, toks := _ }) hE hbx (by decide) F' hd ?_)))
  refine ⟨"dict", "dict.get", PySem.F.plainAttrs_dict, PySem.F.slot_dict_get, PySem.F.type_dict_get, hD.typeIs, hD.mapOf.noDict, ?_⟩
  refine wpAny_dict_get1 (knd := intKind P w) hds (ev_ord hE F' ho hcode (by decide) hF.ns rfl fun u tk => ⟨(c : Int), _, intKind_is P w _ _, hD.mapOf, ?_⟩)
  refine st_local (s := { s with heap := h₀, toks := tk + 1 }) hE hrr hF fun h₁ tk₁ hF₁ _ => ?_
  rcases vals_get (c : Int) hV with ⟨g1, g2⟩ | ⟨x, tx, g1, g2⟩
  · rw [g1] at hF₁
    refine wpAny_execs_cons (wpAny_If (wpAny_isTrue_Compare1 (nm_local (s := { s with heap := h₁, toks := tk₁ }) hE hrr (by decide) hF₁.ns rfl (wpAny_Constant_none (wpAny_isNot_self rfl (wpAny_truthy_bool ?_))))))
    refine wpAny_execs_nil ?_
    refine wpAny_execs_cons (wpAny_Return_some (Call_method0 rfl hl2 (nm_local hE hcode (by decide) hF₁.ns rfl ?_)))
    refine SBL.lower (by show (1 : Nat) ≤ 5592405; omega) fun _ => ?_
    have e : mapS c = Txt.lower (sg c) := by unfold mapS; rw [g2]; rfl
    rw [← e]
    exact h _ _ _ hF₁.keep
  · rw [g1] at hF₁
    refine wpAny_execs_cons (wpAny_If (wpAny_isTrue_Compare1 (nm_local (s := { s with heap := h₁, toks := tk₁ }) hE hrr (by decide) hF₁.ns rfl (wpAny_Constant_none (isnot_str_none (wpAny_truthy_bool ?_))))))
    refine wpAny_execs_cons (wpAny_Return_some (nm_local hE hrr (by decide) hF₁.ns rfl ?_))
    have e : mapS c = x := by unfold mapS; rw [g2]; rfl
    rw [← e]
    exact h _ _ _ hF₁.keep
end
end Mine
end

/-! C4 -/
section
open PySem PySem.W PyProof.Rows PySem.Calls
set_option Elab.async false
set_option maxRecDepth 100000
namespace Mine

abbrev Run3 := Int × Int × Int
def TupIs (h : Heap) (v : Value) (r : Run3) : Prop := ∃ T t1 t2 t3, v = .ref T ∧ h.get? T = some { cls := .type "tuple", data := .seq #[.int r.1 t1, .int r.2.1 t2, .int r.2.2 t3] }
def AllTup (h : Heap) : List Value → List Run3 → Prop
  | [], [] => True
  | v :: vs, r :: rs => TupIs h v r ∧ AllTup h vs rs
  | _, _ => False
/-- the list of runs stands at R -/
def RunsAt (h : Heap) (R : Addr) (rs : List Run3) : Prop := ∃ items : List Value, PlainL h R items.toArray ∧ AllTup h items rs

def tupObj (xs : Array Value) : Obj := { cls := .type "tuple", data := .seq xs }
def KeepsTup (h h' : Heap) : Prop := ∀ b xs, h.get? b = some (tupObj xs) → h'.get? b = some (tupObj xs)
theorem TupIs.keeps {h h' : Heap} {v : Value} {r : Run3} (x : TupIs h v r) (k : KeepsTup h h') : TupIs h' v r :=
  let ⟨T, t1, t2, t3, e, g⟩ := x; ⟨T, t1, t2, t3, e, k _ _ g⟩
theorem AllTup.keeps {h h' : Heap} (k : KeepsTup h h') : ∀ {vs : List Value} {rs : List Run3}, AllTup h vs rs → AllTup h' vs rs
  | [], [], _ => trivial
  | _ :: _, _ :: _, x => ⟨x.1.keeps k, AllTup.keeps k x.2⟩
  | [], _ :: _, x => x.elim
  | _ :: _, [], x => x.elim
theorem AllTup.append {h : Heap} : ∀ {vs : List Value} {rs : List Run3} {us : List Value} {qs : List Run3}, AllTup h vs rs → AllTup h us qs → AllTup h (vs ++ us) (rs ++ qs)
  | [], [], _, _, _, y => y
  | _ :: _, _ :: _, _, _, x, y => ⟨x.1, AllTup.append x.2 y⟩
  | [], _ :: _, _, _, x, _ => x.elim
  | _ :: _, [], _, _, x, _ => x.elim
theorem AllTup.length {h : Heap} : ∀ {vs : List Value} {rs : List Run3}, AllTup h vs rs → vs.length = rs.length
  | [], [], _ => rfl
  | _ :: _, _ :: _, x => by rw [List.length_cons, List.length_cons, AllTup.length x.2]
  | [], _ :: _, x => x.elim
  | _ :: _, [], x => x.elim
theorem AllTup.at {h : Heap} : ∀ {vs : List Value} {rs : List Run3} (i : Nat) (v : Value), AllTup h vs rs → vs[i]? = some v → ∃ r, rs[i]? = some r ∧ TupIs h v r
  | [], [], i, v, _, e => by simp at e
  | a :: vs, r :: rs, 0, v, x, e => by
    obtain rfl : a = v := by simpa using e
    exact ⟨r, rfl, x.1⟩
  | _ :: vs, _ :: rs, i + 1, v, x, e => by
    have := AllTup.at i v x.2 (by simpa using e)
    simpa using this
  | [], _ :: _, _, _, x, _ => x.elim
  | _ :: _, [], _, _, x, _ => x.elim
theorem keepsTup_of {h h' : Heap} (k : ∀ b o, h.get? b = some o → h'.get? b = some o) : KeepsTup h h' := fun b _ e => k b _ e
theorem keepsTup_but {h h' : Heap} {L : Addr} {m : Str → Option Value} (hn : h.Ns L m) (k : ∀ b o, b ≠ L → h.get? b = some o → h'.get? b = some o) : KeepsTup h h' := fun b xs e => k b _ (fun q => by
  subst q
  obtain ⟨o, es, ep, e', d', _⟩ := hn
  rw [e] at e'
  cases e'
  cases d') e
theorem RunsAt.keeps {h h' : Heap} {R : Addr} {rs : List Run3} (x : RunsAt h R rs) (k : ∀ b o, h.get? b = some o → h'.get? b = some o) : RunsAt h' R rs :=
  let ⟨items, p, a⟩ := x; ⟨items, p.keeps k, a.keeps (keepsTup_of k)⟩

def tupConst : Expr → Option Run3
  | .Tuple [.Constant (.int a) _ _, .Constant (.int b) _ _, .Constant (.int c) _ _] _ _ => some (a, b, c)
  | _ => none
def tupConsts : List Expr → Option (List Run3)
  | [] => some []
  | e :: r => match tupConst e, tupConsts r with
    | some a, some b => some (a :: b)
    | _, _ => none

section
variable {w : World} {A : Around} {E : Value → Shared → Prop} {s : Shared} {env : Env}

theorem ev_tups {pos : Pos} : ∀ (elts : List Expr) (rs : List Run3) (s : Shared) (Q : List Value → Shared → Prop), tupConsts elts = some rs →
    (∀ vs h' tk, (∀ b o, s.heap.get? b = some o → h'.get? b = some o) → AllTup h' vs rs → Q vs { s with heap := h', toks := tk }) → wpAny (model P w) A (spliced (backTo pos (starEach elts env))) Q E s
  | [], rs, s, Q, h, hQ => by
    obtain rfl : [] = rs := by simpa [tupConsts] using h
    exact args_nil (by simpa using hQ [] s.heap s.toks (fun _ _ e => e) trivial)
  | e :: r, rs, s, Q, h, hQ => by
    unfold tupConsts at h
    split at h
    · rename_i a b ha hb
      obtain rfl : a :: b = rs := by simpa using h
      unfold tupConst at ha
      split at ha
      · rename_i x k1 p1 y k2 p2 z k3 p3 k4 p4
        obtain rfl : (x, y, z) = a := by simpa using ha
        refine args_cons (Tuple_ (args_cons (wpAny_Constant_int (args_cons (wpAny_Constant_int (args_cons (wpAny_Constant_int (args_nil ?_))))))))
        refine wpAny_newTuple ?_ (by show (3 : Nat) ≤ sizeLine; rw [sizeLine_eq]; omega)
        refine ev_tups r b _ _ hb fun vs h' tk hk hv => ?_
        exact hQ _ h' tk (fun b o e => hk b o (Heap.get?_push_of_some _ e)) ⟨⟨_, _, _, _, rfl, hk _ _ (Heap.get?_push_size _ rfl)⟩, hv⟩
      · cases ha
    · cases h
end

def RunsBody (elts : List Expr) (b : List Stmt) : Prop := ∃ p1 p2 p3 p4 p5 k1 p6 p7 p8 p9 q1 k2 q2 q3 k3 q4 q5 q6 k4 q7 q8 k5 q9 q10 k6 q11 k7 q12 p10 p11 p12 p13 p14, b = [
  .Assign [.Name "runs" p1] (.List elts p2) p3,
  .For (.Name "plane" p4) (.Call (.Name "range" p5) [.Constant (.int 17) k1 p6] [] p7) [
    .Expr (.Call (.Attribute (.Name "runs" p8) "append" p9) [.Tuple [.BinOp (.BinOp (.Name "plane" q1) .Mult (.Constant (.int 65536) k2 q2) q3) .Add (.Constant (.int 65534) k3 q4) q5,
      .BinOp (.BinOp (.Name "plane" q6) .Mult (.Constant (.int 65536) k4 q7) q8) .Add (.Constant (.int 65535) k5 q9) q10, .Constant (.int 1) k6 q11] k7 q12] [] p10) p11] [] p12,
  .Return (some (.Name "runs" p13)) p14] ∧ (p9.endLine == p10.line) = true
theorem sb16 : ∃ elts, RunsBody elts (fdBody (stm 16)) ∧ (tupConsts elts).isSome = true := by
  refine ⟨_, (by with_unfolding_all exact ⟨_, _, _, _, _, _, _, _, _, _, _, _, _, _, _, _, _, _, _, _, _, _, _, _, _, _, _, _, _, _, _, _, _, rfl, rfl⟩ : RunsBody _ (fdBody (stm 16))), ?_⟩
  kernel_rfl
end Mine
end

/-! C5 -/
section
open PySem PySem.W PyProof.Rows PySem.Calls
set_option Elab.async false
set_option maxRecDepth 100000
namespace Mine

def runsElts : List Stmt → List Expr | .Assign _ (.List e _) _ :: _ => e | _ => []
def baseRuns : List Run3 := (tupConsts (runsElts (fdBody (stm 16)))).getD []
def planeRun (p : Nat) : Run3 := (((p : Int) * 65536 + 65534), ((p : Int) * 65536 + 65535), 1)
def runsAll : List Run3 := baseRuns ++ (List.range 17).map planeRun

theorem baseLen : Nat.ble baseRuns.length 100 = true := by kernel_rfl

theorem frBut {h₀ h h' : Heap} {L : Addr} {m : Str → Option Value} {wr : List Addr} (F : Fr h₀ L h m) (hk : ∀ b o, b ∉ wr → h.get? b = some o → h'.get? b = some o) (hL : L ∉ wr) (hn : ∀ b ∈ wr, h₀.get? b = none) : Fr h₀ L h' m :=
  ⟨F.ns.at' fun o e => hk _ o hL e, fun b o e => hk b o (fun q => by rw [hn b q] at e; cases e) (F.keep b o e), F.above⟩

section
variable {w : World} {A : Around} {E : Value → Shared → Prop} {s : Shared} {mg mb : Str → Option Value} {Q : Value → Shared → Prop}

theorem law_runs_loop {env : Env} {h₀ h₂ : Heap} {tk₂ : Nat} {R : Addr} {m₂ : Str → Option Value} {p4 p5 p6 p7 p8 p9 p10 p11 p12 p13 p14 q1 q2 q3 q4 q5 q6 q7 q8 q9 q10 q11 q12 : Pos} {k1 k2 k3 k4 k5 k6 k7 : Nat} {Q : Value → Shared → Prop}
    (hh : A.handled = none) (F : FactsM w h₂ mg mb) (hE : FEnv env) (kr : env.kindOf "runs" = some .local) (kp : env.kindOf "plane" = some .local) (kg : env.kindOf "range" = some .globalImplicit) (hline : (p9.endLine == p10.line) = true)
    (hF₂ : Fr h₀ env.locals h₂ m₂) (hm₂ : m₂ "runs" = some (.ref R)) (hRL : R ≠ env.locals) (hRlt : R < h₂.objs.size) (hR0 : h₀.get? R = none) (hRuns₂ : RunsAt h₂ R baseRuns)
    (h : ∀ h' tk, (∀ b o, h₀.get? b = some o → h'.get? b = some o) → RunsAt h' R runsAll → Q (.ref R) { s with heap := h', toks := tk }) :
    wpAny (model P w) A (execs [.For (.Name "plane" p4) (.Call (.Name "range" p5) [.Constant (.int 17) k1 p6] [] p7) [
      .Expr (.Call (.Attribute (.Name "runs" p8) "append" p9) [.Tuple [.BinOp (.BinOp (.Name "plane" q1) .Mult (.Constant (.int 65536) k2 q2) q3) .Add (.Constant (.int 65534) k3 q4) q5,
        .BinOp (.BinOp (.Name "plane" q6) .Mult (.Constant (.int 65536) k4 q7) q8) .Add (.Constant (.int 65535) k5 q9) q10, .Constant (.int 1) k6 q11] k7 q12] [] p10) p11] [] p12,
      .Return (some (.Name "runs" p13)) p14] env) (fun f s' => Q (match f with | .ret v => v | _ => .none) s') (fun _ _ => False) { s with heap := h₂, toks := tk₂ } := by
  have hlen : baseRuns.length ≤ 100 := Nat.le_of_ble_eq_true baseLen
  have hLlt : env.locals < h₂.objs.size := hF₂.ns.lt
  have hLI : env.locals ≠ h₂.objs.size + 1 := Nat.ne_of_lt (Nat.lt_succ_of_lt hLlt)
  have hRI : R ≠ h₂.objs.size + 1 := Nat.ne_of_lt (Nat.lt_succ_of_lt hRlt)
  refine wpAny_execs_cons (wpAny_For (Call_ (nm_builtin (s := { s with heap := h₂, toks := tk₂ }) hE kg (by decide) F (un_range F) (by decide) b_range ?_)))
  refine PyProof.Rows.callWith_type1 (args_cons (wpAny_Constant_int (args_nil ?_)))
  refine call_range_1 ?_
  dsimp only
  refine wpAny_pyIter_range (IsRange.new _ 0 17 1 _ _ _) (by decide) ?_
  have hI : ∀ x : Obj, (h₂.push x).objs.size = h₂.objs.size + 1 := fun x => Heap.size_push ..
  dsimp only
  rw [hI]
  have hInew : ∀ b ∈ [h₂.objs.size + 1], h₀.get? b = none := fun b hb => by
    simp only [List.mem_singleton] at hb
    subst hb
    exact Heap.get?_none_of_le (Nat.le_succ_of_le (Nat.le_trans hF₂.above (Nat.le_of_lt hLlt)))
  have tupI : ∀ {h h' : Heap} {x l st : Int}, IsRangeIter h (h₂.objs.size + 1) x l st → (∀ b o, b ∉ [h₂.objs.size + 1] → h.get? b = some o → h'.get? b = some o) → KeepsTup h h' := fun hI hk b xs e => hk b _ (fun q => by
    simp only [List.mem_singleton] at q
    subst q
    rw [show _ = _ from hI] at e
    simp [tupObj] at e) e
  refine codeAny_forLoop_any (fun k s' => ∃ i h' tk m, k = 17 - i ∧ i ≤ 17 ∧ s' = { s with heap := h', toks := tk } ∧ IsRangeIter h' (h₂.objs.size + 1) (0 + (i : Nat) * 1) ((17 : Nat) - (i : Nat)) 1 ∧ Fr h₀ env.locals h' m ∧ m "runs" = some (.ref R) ∧
      RunsAt h' R (baseRuns ++ (List.range i).map planeRun)) ?_ 17 ⟨0, _, _, _, rfl, by omega, rfl, ?_, (hF₂.push _).push _, hm₂, ?_⟩
  · rintro k s' ⟨i, h', tk, m, rfl, hi, rfl, hit, hFi, hm, hRi⟩
    have W := Walks.range (prog := P) (w := w) (A := A) hh (h₂.objs.size + 1) 0 1 17
    by_cases hlt : i < 17
    · refine W.item i { s with heap := h', toks := tk } _ _ hlt hit fun v h₄ tk₄ hP hit₄ hk₄ => ?_
      obtain ⟨t, hv⟩ := hP
      have hv' : v = .int ((i : Nat) : Int) t := hv.trans (congrArg (fun z => Value.int z t) (by omega))
      clear hv
      subst hv'
      have hF₄ := frBut hFi hk₄ (by simpa using hLI) hInew
      have hR₄ : RunsAt h₄ R (baseRuns ++ (List.range i).map planeRun) := by
        obtain ⟨items, ⟨o, n, e, r⟩, ht⟩ := hRi
        exact ⟨items, ⟨o, n, hk₄ _ _ (by simpa using hRI) e, r⟩, ht.keeps (tupI hit hk₄)⟩
      refine wpAny_pure ?_
      refine wpAny_assign_Name (st_local (s := { s with heap := h₄, toks := tk₄ }) hE kp hF₄ fun h₅ tk₅ hF₅ hk₅ => ?_)
      have hR₅ : RunsAt h₅ R (baseRuns ++ (List.range i).map planeRun) := by
        obtain ⟨items, ⟨o, n, e, r⟩, ht⟩ := hR₄
        exact ⟨items, ⟨o, n, hk₅ _ _ hRL e, r⟩, ht.keeps (keepsTup_but hF₄.ns hk₅)⟩
      have hit₅ : IsRangeIter h₅ (h₂.objs.size + 1) (0 + ((i + 1 : Nat) : Nat) * 1) ((17 : Nat) - ((i + 1 : Nat) : Nat)) 1 := hk₅ _ _ (Ne.symm hLI) hit₄
      obtain ⟨items, hRp, hRt⟩ := hR₅
      have hil : items.length ≤ 200 := by rw [hRt.length]; simp; omega
      have hmp : (fun y : Str => if y = "plane" then some (Value.int ((i : Nat) : Int) t) else m y) "runs" = some (.ref R) := by
        show (if ("runs" : Str) = "plane" then _ else m "runs") = _
        rw [if_neg (by decide)]; exact hm
      refine wpAny_execs_cons (wpAny_Expr (wpAny_Call_append rfl rfl hline rfl (nm_local (s := { s with heap := h₅, toks := tk₅ }) hE kr (by decide) hF₅.ns hmp ⟨R, items.toArray, rfl, hRp, ?_⟩)) (by unfold interactive; rw [hE.kind]; rfl))
      have pl : ∀ (E' : Value → Shared → Prop) (s' : Shared) (p : Pos) (K : Value → Shared → Prop), s'.heap = h₅ → K (.int ((i : Nat) : Int) t) s' → wpAny (model P w) A (eval (.Name "plane" p) env) K E' s' := fun E' s' p K e hK => nm_local hE kp (by decide) (e ▸ hF₅.ns) rfl hK
      refine Tuple_ (args_cons ?_)
      refine wpAny_BinOp (wpAny_BinOp (pl _ _ _ _ rfl (wpAny_Constant_int (mul_int ?_ (IntMulOk.of_right (by decide))))))
      refine wpAny_Constant_int (add_int (args_cons ?_))
      refine wpAny_BinOp (wpAny_BinOp (pl _ _ _ _ rfl (wpAny_Constant_int (mul_int ?_ (IntMulOk.of_right (by decide))))))
      refine wpAny_Constant_int (add_int (args_cons (wpAny_Constant_int (args_nil ?_))))
      refine wpAny_newTuple ?_ (by show (3 : Nat) ≤ sizeLine; rw [sizeLine_eq]; omega)
      refine list_append_plainL (hRp.keeps fun b o e => Heap.get?_push_of_some _ e) (fun h₆ hR₆ hs₆ => ?_) (by rw [sizeLine_eq]; simp; omega)
      refine wpAny_execs_nil ?_
      have hup : ∀ b o, b ≠ R → h₅.get? b = some o → h₆.get? b = some o := fun b o hb e => (hs₆.2 b hb).trans (Heap.get?_push_of_some _ e)
      refine ⟨17 - (i + 1), by omega, i + 1, h₆, _, _, rfl, by omega, rfl, hup _ _ (Ne.symm hRI) hit₅, ⟨hF₅.ns.at' fun o e => hup _ o (Ne.symm hRL) e, fun b o e => hup b o (fun q => by rw [q, hR0] at e; cases e) (hF₅.keep b o e), hF₅.above⟩, hmp, ?_⟩
      have hne : h₅.objs.size ≠ R := Nat.ne_of_gt hRp.lt
      have hT : TupIs h₆ (.ref h₅.objs.size) (planeRun i) := by
        have e := (hs₆.2 _ hne).trans (Heap.get?_push_size _ rfl)
        refine ⟨h₅.objs.size, ?_⟩
        dsimp only [planeRun]
        exact ⟨_, _, _, rfl, e⟩
      refine ⟨items ++ [.ref h₅.objs.size], by simpa using hR₆, ?_⟩
      rw [List.range_succ, List.map_append, ← List.append_assoc]
      refine AllTup.append (hRt.keeps fun b xs e => hup b _ (fun q => ?_) e) ⟨hT, trivial⟩
      subst q
      obtain ⟨o, n, e', hc, _⟩ := hRp
      rw [e] at e'
      cases e'
      simp [tupObj] at hc
    · obtain rfl : i = 17 := by omega
      refine W.done { s with heap := h', toks := tk } _ _ hit fun h₄ tk₄ hk₄ => ?_
      have hF₄ := frBut hFi hk₄ (by simpa using hLI) hInew
      refine wpAny_execs_nil ?_
      refine wpAny_execs_cons (wpAny_Return_some (nm_local (s := { s with heap := h₄, toks := tk₄ }) hE kr (by decide) hF₄.ns hm ?_))
      refine h h₄ tk₄ hF₄.keep ?_
      obtain ⟨items, ⟨o, n, e, r⟩, ht⟩ := hRi
      exact ⟨items, ⟨o, n, hk₄ _ _ (by simpa using hRI) e, r⟩, ht.keeps (tupI hit hk₄)⟩
  · show IsRangeIter _ _ (0 + ((0 : Nat) : Int) * 1) ((17 : Nat) - ((0 : Nat) : Int)) 1
    rw [← hI { cls := .type "range", data := .fields #[.int 0 _, .int 17 _, .int 1 _] }]
    exact Heap.get?_push_size _ rfl
  · simpa using (hRuns₂.keeps fun b o e => Heap.get?_push_of_some _ (Heap.get?_push_of_some _ e))

theorem law_runs (F : FactsM w s.heap mg mb) (hr : Room A 1) (h : ∀ R h' tk, (∀ b o, s.heap.get? b = some o → h'.get? b = some o) → s.heap.objs.size ≤ R → RunsAt h' R runsAll → Q (.ref R) { s with heap := h', toks := tk }) :
    ∃ a, mg "_law_runs" = some (.ref a) ∧ wpAny (model P w) A (call (.ref a) []) Q E s := by
  obtain ⟨a, ha, ho⟩ := F.f16
  obtain ⟨elts, ⟨p1, p2, p3, p4, p5, k1, p6, p7, p8, p9, q1, k2, q2, q3, k3, q4, q5, q6, k4, q7, q8, k5, q9, q10, k6, q11, k7, q12, p10, p11, p12, p13, p14, hb, hline⟩, hsome⟩ := sb16
  have hbase : tupConsts elts = some baseRuns := by
    have e : runsElts (fdBody (stm 16)) = elts := by rw [hb]; rfl
    unfold baseRuns
    rw [e]
    exact some_getD hsome
  refine ⟨a, ha, call_fn (binds := []) ho F.lim (by have := hr.depth; omega) (fun _ _ _ => by kernel_rfl) (by kernel_rfl) (by kernel_rfl) (by kernel_rfl) fun env h₀ hE hes hF => ?_⟩
  rw [hb]
  have hkind : ∀ x, env.kindOf x = kn 16 x := fun x => by unfold Env.kindOf kn; rw [hes]
  have kr : env.kindOf "runs" = some .local := by rw [hkind]; kernel_rfl
  have kp : env.kindOf "plane" = some .local := by rw [hkind]; kernel_rfl
  have kg : env.kindOf "range" = some .globalImplicit := by rw [hkind]; kernel_rfl
  have hlen : baseRuns.length ≤ 100 := Nat.le_of_ble_eq_true baseLen
  have hLlt : ∀ {h : Heap} {m : Str → Option Value}, Fr s.heap env.locals h m → env.locals < h.objs.size := fun F => F.ns.lt
  -- runs = [..]
  refine wpAny_execs_cons (wpAny_Assign_Name (List_ (ev_tups (s := { s with heap := h₀, toks := _ }) elts baseRuns _ hbase fun vs h₁ tk₁ hk₁ hv₁ => ?_)))
  have hF₁ : Fr s.heap env.locals h₁ _ := hF.keeps hk₁
  refine wpAny_newList ?_ (by rw [sizeLine_eq, hv₁.length]; omega)
  have hR : PlainL (h₁.push { cls := .type "list", data := .seq vs.toArray }) h₁.objs.size vs.toArray := ⟨_, _, Heap.get?_push_size _ rfl, rfl, rfl, rfl⟩
  have hRnew : s.heap.objs.size ≤ h₁.objs.size := Nat.le_trans hF₁.above (Nat.le_of_lt (hLlt hF₁))
  refine st_local (s := { s with heap := h₁.push { cls := .type "list", data := .seq vs.toArray }, toks := tk₁ }) hE kr (hF₁.push _) fun h₂ tk₂ hF₂ hk₂ => ?_
  have hRL : h₁.objs.size ≠ env.locals := Nat.ne_of_gt (hLlt hF₁)
  have hRuns₂ : RunsAt h₂ h₁.objs.size baseRuns := by
    obtain ⟨o, n, e, r⟩ := hR
    exact ⟨vs, ⟨o, n, hk₂ _ _ hRL e, r⟩, (hv₁.keeps fun b o e => Heap.get?_push_of_some _ e).keeps (keepsTup_but (hF₁.push _).ns hk₂)⟩
  have F₂ := F.keeps hF₂.keep
  refine law_runs_loop hr.handled F₂ hE kr kp kg hline hF₂ rfl hRL ?_ (Heap.get?_none_of_le hRnew) hRuns₂ fun h' tk hk hR' => h _ h' tk hk hRnew hR'
  obtain ⟨items, ⟨o, n, e, r⟩, ht⟩ := hRuns₂
  exact Heap.lt_size e
end
end Mine
end

/-! C6 -/
section
open PySem PySem.W PyProof.Rows PySem.Calls
set_option Elab.async false
set_option maxRecDepth 100000
namespace Mine

def kindIn : List Run3 → Int → Int
  | [], _ => 6
  | r :: q, c => if r.1 ≤ c ∧ c ≤ r.2.1 then r.2.2 else kindIn q c

def KindBody (b : List Stmt) : Prop := ∃ p1 p2 p3 k1 p4 p5 p6 p7 p8 p9 p10 p11 p12 p13 k2 p14 p15, b = [
  .For (.Tuple [.Name "first" p1, .Name "last" p2, .Name "kind" p3] k1 p4) (.Name "runs" p5) [.If (.Compare (.Name "first" p6) [.LtE, .LtE] [.Name "spot" p7, .Name "last" p8] p9) [.Return (some (.Name "kind" p10)) p11] [] p12] [] p13,
  .Return (some (.Constant (.int 6) k2 p14)) p15]
theorem sb18 : KindBody (fdBody (stm 18)) := by with_unfolding_all exact ⟨_, _, _, _, _, _, _, _, _, _, _, _, _, _, _, _, _, rfl⟩

section
variable {w : World} {A : Around} {E : Value → Shared → Prop} {s : Shared} {mg mb : Str → Option Value} {Q : Value → Shared → Prop}

theorem law_kind {R : Addr} {rs : List Run3} {c : Int} {t : Tok} (F : FactsM w s.heap mg mb) (hr : Room A 1) (hR : RunsAt s.heap R rs) (hlen : rs.length ≤ 1000) (h : ∀ t' h' tk, (∀ b o, s.heap.get? b = some o → h'.get? b = some o) → Q (.int (kindIn rs c) t') { s with heap := h', toks := tk }) :
    ∃ a, mg "_law_kind" = some (.ref a) ∧ wpAny (model P w) A (call (.ref a) [.int c t, .ref R]) Q E s := by
  obtain ⟨a, ha, ho⟩ := F.f18
  obtain ⟨p1, p2, p3, k1, p4, p5, p6, p7, p8, p9, p10, p11, p12, p13, k2, p14, p15, hb⟩ := sb18
  refine ⟨a, ha, call_fn (binds := [("spot", .int c t), ("runs", .ref R)]) ho F.lim (by have := hr.depth; omega) (fun _ _ _ => by kernel_rfl) (by kernel_rfl) (by kernel_rfl) (by kernel_rfl) fun env h₀ hE hes hF => ?_⟩
  rw [hb]
  have hkind : ∀ x, env.kindOf x = kn 18 x := fun x => by unfold Env.kindOf kn; rw [hes]
  have k_f : env.kindOf "first" = some .local := by rw [hkind]; kernel_rfl
  have k_l : env.kindOf "last" = some .local := by rw [hkind]; kernel_rfl
  have k_k : env.kindOf "kind" = some .local := by rw [hkind]; kernel_rfl
  have k_s : env.kindOf "spot" = some .local := by rw [hkind]; kernel_rfl
  have k_r : env.kindOf "runs" = some .local := by rw [hkind]; kernel_rfl
  have hR₀ := hR.keeps hF.keep
  obtain ⟨items, hRp, hRt⟩ := hR₀
  have hRs : R < s.heap.objs.size := by obtain ⟨_, p, _⟩ := hR; exact p.lt
  have hLlt : env.locals < h₀.objs.size := hF.ns.lt
  have hRne : R ≠ h₀.objs.size := Nat.ne_of_lt hRp.lt
  have hRL : R ≠ env.locals := Nat.ne_of_lt (Nat.lt_of_lt_of_le hRs hF.above)
  have hLI : env.locals ≠ h₀.objs.size := Nat.ne_of_lt hLlt
  refine wpAny_execs_cons (wpAny_For (nm_local (s := { s with heap := h₀, toks := _ }) hE k_r (by decide) hF.ns rfl (wpAny_pyIter_list hRp.isList ?_)))
  have hInew : ∀ b ∈ [h₀.objs.size], s.heap.get? b = none := fun b hb => by
    simp only [List.mem_singleton] at hb
    subst hb
    exact Heap.get?_none_of_le (Nat.le_trans hF.above (Nat.le_of_lt hLlt))
  have W := Walks.list (prog := P) (w := w) (A := A.deeper env) hr.handled h₀.objs.size R hRne items.toArray
  refine codeAny_forLoop_any (fun k s' => ∃ i h' tk m, k = items.length - i ∧ i ≤ items.length ∧ s' = { s with heap := h', toks := tk } ∧ h'.IsListIter h₀.objs.size R i ∧ h'.IsList R items.toArray ∧ Fr s.heap env.locals h' m ∧ m "spot" = some (.int c t) ∧
      KeepsTup h₀ h' ∧ kindIn rs c = kindIn (rs.drop i) c) ?_ items.length ⟨0, _, _, _, rfl, Nat.zero_le _, rfl, ⟨_, Heap.get?_push_size _ rfl, rfl, rfl⟩, hRp.isList.push _, hF.push _, rfl, keepsTup_of fun b o e => Heap.get?_push_of_some _ e, rfl⟩
  rintro k s' ⟨i, h', tk, m, rfl, hi, rfl, hit, hl, hFi, hm, hkt, hkd⟩
  have hil : items.length = rs.length := hRt.length
  by_cases hlt : i < items.length
  · refine W.item i { s with heap := h', toks := tk } _ _ (by simpa using hlt) ⟨hit, hl⟩ fun v h₄ tk₄ hP hst₄ hk₄ => ?_
    obtain ⟨hit₄, hl₄⟩ := hst₄
    have hv : items[i]? = some v := by simpa using hP
    obtain ⟨r, hr', hT⟩ := hRt.at i v hv
    have tupI : KeepsTup h' h₄ := fun b xs e => hk₄ b _ (fun q => by
      simp only [List.mem_singleton] at q
      subst q
      obtain ⟨o, e', hc, _⟩ := hit
      rw [e] at e'
      cases e'
      simp [tupObj] at hc) e
    obtain ⟨T, t1, t2, t3, rfl, hT4⟩ := (hT.keeps hkt).keeps tupI
    have hF₄ := frBut hFi hk₄ (by simpa using hLI) hInew
    refine wpAny_letOwnedTupleGo_listiter (s := { s with heap := h₄, toks := tk₄ }) hit₄ ?_
    refine wpAny_assign_Tuple (s := { s with heap := h₄, toks := tk₄ }) hr.handled ⟨_, hT4, rfl, _, rfl⟩ rfl rfl fun h₅ he₅ => ?_
    have up₅ : ∀ b o, h₄.get? b = some o → h₅.get? b = some o := fun b o e => he₅ b o (Nat.ne_of_lt (Heap.lt_size e)) e
    show wpAny _ _ (assignInOrder [assign (.Name "first" p1) env, assign (.Name "last" p2) env, assign (.Name "kind" p3) env] [.int r.1 t1, .int r.2.1 t2, .int r.2.2 t3]) _ _ _
    refine assignInOrder_cons (wpAny_assign_Name (st_local (s := { s with heap := h₅, toks := tk₄ }) hE k_f (hF₄.keeps up₅) fun h₆ tk₆ hF₆ hk₆ => ?_))
    refine assignInOrder_cons (wpAny_assign_Name (st_local (s := { s with heap := h₆, toks := tk₆ }) hE k_l hF₆ fun h₇ tk₇ hF₇ hk₇ => ?_))
    refine assignInOrder_cons (wpAny_assign_Name (st_local (s := { s with heap := h₇, toks := tk₇ }) hE k_k hF₇ fun h₈ tk₈ hF₈ hk₈ => assignInOrder_nil ?_))
    have up₈ : ∀ b o, b ≠ env.locals → h₄.get? b = some o → h₈.get? b = some o := fun b o hb e => hk₈ b o hb (hk₇ b o hb (hk₆ b o hb (up₅ b o e)))
    have hsp : (fun y : Str => if y = "kind" then some (Value.int r.2.2 t3) else if y = "last" then some (Value.int r.2.1 t2) else if y = "first" then some (Value.int r.1 t1) else m y) "spot" = some (.int c t) := by
      show (if ("spot" : Str) = "kind" then _ else if ("spot" : Str) = "last" then _ else if ("spot" : Str) = "first" then _ else m "spot") = _
      rw [if_neg (by decide), if_neg (by decide), if_neg (by decide)]; exact hm
    have hdrop : rs.drop i = r :: rs.drop (i + 1) := by
      have hlt' : i < rs.length := by omega
      rw [List.drop_eq_getElem_cons hlt']
      congr 1
      exact Option.some.inj ((List.getElem?_eq_getElem hlt').symm.trans hr')
    have back : ∀ tk', ¬ (r.1 ≤ c ∧ c ≤ r.2.1) → ∃ m', m' < items.length - i ∧ ∃ i_1 h' tk m, m' = items.length - i_1 ∧ i_1 ≤ items.length ∧ ({ s with heap := h₈, toks := tk' } : Shared) = { s with heap := h', toks := tk } ∧ h'.IsListIter h₀.objs.size R i_1 ∧ h'.IsList R items.toArray ∧ Fr s.heap env.locals h' m ∧ m "spot" = some (.int c t) ∧ KeepsTup h₀ h' ∧ kindIn rs c = kindIn (rs.drop i_1) c := fun tk' hno => by
      refine ⟨items.length - (i + 1), by omega, i + 1, h₈, tk', _, rfl, by omega, rfl, hit₄.at fun o e => up₈ _ o (Ne.symm hLI) e, hl₄.at fun o e => up₈ _ o hRL e, hF₈, hsp, ?_, ?_⟩
      · intro b xs e
        have e4 := tupI b xs (hkt b xs e)
        exact keepsTup_but hF₄.ns up₈ b xs e4
      · rw [hkd, hdrop]
        show (if r.1 ≤ c ∧ c ≤ r.2.1 then r.2.2 else kindIn (rs.drop (i + 1)) c) = _
        rw [if_neg hno]
    refine wpAny_execs_cons (wpAny_If (isTrue_chain (nm_local (s := { s with heap := h₈, toks := tk₈ }) hE k_f (by decide) hF₈.ns rfl (test_link (nm_local (s := { s with heap := h₈, toks := tk₈ }) hE k_s (by decide) hF₈.ns hsp (le_int (wpAny_truthy_bool ?_)))))))
    by_cases c1 : r.1 ≤ c
    · rw [decide_eq_true c1, if_pos rfl]
      refine test_last (nm_local (s := { s with heap := h₈, toks := tk₈ }) hE k_l (by decide) hF₈.ns rfl (le_int (wpAny_truthy_bool ?_)))
      by_cases c2 : c ≤ r.2.1
      · rw [decide_eq_true c2]
        refine wpAny_execs_cons (wpAny_Return_some (nm_local (s := { s with heap := h₈, toks := tk₈ }) hE k_k (by decide) hF₈.ns rfl ?_))
        have e : kindIn rs c = r.2.2 := by
          rw [hkd, hdrop]
          show (if r.1 ≤ c ∧ c ≤ r.2.1 then r.2.2 else kindIn (rs.drop (i + 1)) c) = _
          rw [if_pos ⟨c1, c2⟩]
        have := h t3 h₈ tk₈ hF₈.keep
        rw [e] at this
        exact this
      · rw [decide_eq_false c2]
        exact wpAny_execs_nil (wpAny_execs_nil (back _ fun x => c2 x.2))
    · rw [decide_eq_false c1, if_neg Bool.false_ne_true]
      exact wpAny_execs_nil (wpAny_execs_nil (back _ fun x => c1 x.1))
  · have hie : i = items.length := by omega
    refine W.done { s with heap := h', toks := tk } _ _ ⟨by simpa [hie] using hit, hl⟩ fun h₄ tk₄ hk₄ => ?_
    have hF₄ := frBut hFi hk₄ (by simpa using hLI) hInew
    refine wpAny_execs_nil ?_
    refine wpAny_execs_cons (wpAny_Return_some (wpAny_Constant_int ?_))
    have e : kindIn rs c = 6 := by
      rw [hkd, List.drop_eq_nil_of_le (by omega)]; rfl
    have := h tk₄ h₄ (tk₄ + 1) hF₄.keep
    rw [e] at this
    exact this
end
end Mine
end

/-! C7 -/
section
open PySem PySem.W PyProof.Rows PySem.Calls
set_option Elab.async false
set_option maxRecDepth 100000
namespace Mine

def ModT (k : Int) (b : Expr) : Prop := ∃ z1 y2 z3 z4 y5 z6 z7, b = .Compare (.BinOp (.Name "number" z1) .Mod (.Constant (.int 4) y2 z3) z4) [.Eq] [.Constant (.int k) y5 z6] z7
def PickE (b : Expr) : Prop := ∃ z1 y2 z3 z4 z5 z6 z7 z8 y9 z10 z11 z12 z13 y14 z15 z16 z17, b = .List [.BinOp (.Name "first" z1) .Sub (.Constant (.int 1) y2 z3) z4, .Name "first" z5, .BinOp (.BinOp (.Name "first" z6) .Add (.Name "last" z7) z8) .FloorDiv (.Constant (.int 2) y9 z10) z11, .Name "last" z12, .BinOp (.Name "last" z13) .Add (.Constant (.int 1) y14 z15) z16] z17
def IdxE (b : Expr) : Prop := ∃ z1 y2 z3 z4 y5 z6 z7, b = .BinOp (.BinOp (.Name "rest" z1) .FloorDiv (.Constant (.int 34) y2 z3) z4) .Mod (.Constant (.int 5) y5 z6) z7
def RestS (b : Stmt) : Prop := ∃ z1 z2 y3 z4 z5 z6, b = .Assign [.Name "rest" z1] (.BinOp (.Name "number" z2) .FloorDiv (.Constant (.int 4) y3 z4) z5) z6
def RunS (b : Stmt) : Prop := ∃ z1 z2 z3 y4 z5 z6 z7 y8 z9 z10 z11 z12, b = .Assign [.Tuple [.Name "first" z1, .Name "last" z2, .Name "kind" z3] y4 z5] (.Subscript (.Name "runs" z6) (.BinOp (.Name "rest" z7) .Mod (.Constant (.int 34) y8 z9) z10) z11) z12
def RetM (k : Int) (b : Stmt) : Prop := ∃ z1 y2 z3 z4 z5, b = .Return (some (.BinOp (.Name "rest" z1) .Mod (.Constant (.int k) y2 z3) z4)) z5
def RetA (a k : Int) (b : Stmt) : Prop := ∃ y1 z2 z3 y4 z5 z6 z7 z8, b = .Return (some (.BinOp (.Constant (.int a) y1 z2) .Add (.BinOp (.Name "rest" z3) .Mod (.Constant (.int k) y4 z5) z6) z7)) z8
def SpotBody (b : List Stmt) : Prop := ∃ s1 t0 a0 e0 e1 p1 p2 p3 k1 p4 p5 p6 p7 t1 r1 p8 t2 r2 p9 r3,
  b = [s1, .If t0 [a0, .Return (some (.Call (.Name "min" p1) [.Subscript e0 e1 p2, .Constant (.int 1114111) k1 p3] [] p4)) p5] [] p6, .If t1 [r1] [] p7, .If t2 [r2] [] p8, r3] ∧
  RestS s1 ∧ ModT 0 t0 ∧ RunS a0 ∧ PickE e0 ∧ IdxE e1 ∧ ModT 1 t1 ∧ RetM 13312 r1 ∧ ModT 2 t2 ∧ RetA 63744 1792 r2 ∧ RetA 119808 1024 r3 ∧ p9 = p8
theorem sb17 : SpotBody (fdBody (stm 17)) := by
  with_unfolding_all exact ⟨_, _, _, _, _, _, _, _, _, _, _, _, _, _, _, _, _, _, _, _, rfl, ⟨_, _, _, _, _, _, rfl⟩, ⟨_, _, _, _, _, _, _, rfl⟩, ⟨_, _, _, _, _, _, _, _, _, _, _, _, rfl⟩, ⟨_, _, _, _, _, _, _, _, _, _, _, _, _, _, _, _, _, rfl⟩, ⟨_, _, _, _, _, _, _, rfl⟩, ⟨_, _, _, _, _, _, _, rfl⟩, ⟨_, _, _, _, _, rfl⟩, ⟨_, _, _, _, _, _, _, rfl⟩, ⟨_, _, _, _, _, _, _, _, rfl⟩, ⟨_, _, _, _, _, _, _, _, rfl⟩, rfl⟩

def runOk (r : Run3) : Bool := decide (1 ≤ r.1) && decide (r.1 ≤ r.2.1) && decide (r.2.1 ≤ 1114111)
theorem runs_ok : runsAll.all runOk = true := by kernel_rfl
theorem runs_len : Nat.beq runsAll.length 34 = true := by kernel_rfl
theorem run_ok {r : Run3} (h : r ∈ runsAll) : 1 ≤ r.1 ∧ r.1 ≤ r.2.1 ∧ r.2.1 ≤ 1114111 := by
  have := List.all_eq_true.mp runs_ok r h
  simp only [runOk, Bool.and_eq_true, decide_eq_true_eq] at this
  exact ⟨this.1.1, this.1.2, this.2⟩
theorem runs_len' : runsAll.length = 34 := Nat.eq_of_beq_eq_true runs_len

section
variable {w : World} {A : Around} {E : Value → Shared → Prop} {s : Shared} {mg mb : Str → Option Value} {env : Env} {h₀ : Heap} {m : Str → Option Value}

theorem ev_modT {k n : Int} {t : Tok} {e : Expr} {Q : Bool → Shared → Prop} (he : ModT k e) (hE : FEnv env) (k_n : env.kindOf "number" = some .local) (hF : Fr h₀ env.locals s.heap m) (hm : m "number" = some (.int n t)) (h : ∀ tk, Q (n.fmod 4 == k) { s with toks := tk }) :
    wpAny (model P w) A (isTrue e env (eval e env)) Q E s := by
  obtain ⟨z1, y2, z3, z4, y5, z6, z7, rfl⟩ := he
  exact wpAny_isTrue_Compare1 (wpAny_BinOp (nm_local hE k_n (by decide) hF.ns hm (wpAny_Constant_int (mod_int' (by decide) (wpAny_Constant_int (PyProof.Rows.eq_int (wpAny_truthy_bool (h _))))))))

theorem ev_rest {n : Int} {t : Tok} {e : Stmt} {Q : Flow → Shared → Prop} (he : RestS e) (hE : FEnv env) (k_n : env.kindOf "number" = some .local) (k_e : env.kindOf "rest" = some .local) (hF : Fr h₀ env.locals s.heap m) (hm : m "number" = some (.int n t))
    (h : ∀ u h' tk, Fr h₀ env.locals h' (fun y => if y = "rest" then some (.int (n.fdiv 4) u) else m y) → (∀ b o, b ≠ env.locals → s.heap.get? b = some o → h'.get? b = some o) → Q .next { s with heap := h', toks := tk }) :
    wpAny (model P w) A (exec e env) Q E s := by
  obtain ⟨z1, z2, y3, z4, z5, z6, rfl⟩ := he
  refine wpAny_Assign_Name (wpAny_BinOp (nm_local hE k_n (by decide) hF.ns hm (wpAny_Constant_int (floordiv_int (by decide) ?_ (Or.inl (PyProof.noPylong_small (by decide)))))))
  exact st_local hE k_e hF fun h' tk hF' hk => h _ h' tk hF' hk

theorem ev_retM {k r : Int} {t : Tok} {e : Stmt} {Q : Flow → Shared → Prop} (he : RetM k e) (hk : k ≠ 0) (hE : FEnv env) (k_e : env.kindOf "rest" = some .local) (hF : Fr h₀ env.locals s.heap m) (hm : m "rest" = some (.int r t))
    (h : ∀ u tk, Q (.ret (.int (r.fmod k) u)) { s with toks := tk }) : wpAny (model P w) A (exec e env) Q E s := by
  obtain ⟨z1, y2, z3, z4, z5, rfl⟩ := he
  exact wpAny_Return_some (wpAny_BinOp (nm_local hE k_e (by decide) hF.ns hm (wpAny_Constant_int (mod_int' hk (h _ _)))))

theorem ev_retA {a k r : Int} {t : Tok} {e : Stmt} {Q : Flow → Shared → Prop} (he : RetA a k e) (hk : k ≠ 0) (hE : FEnv env) (k_e : env.kindOf "rest" = some .local) (hF : Fr h₀ env.locals s.heap m) (hm : m "rest" = some (.int r t))
    (h : ∀ u tk, Q (.ret (.int (a + r.fmod k) u)) { s with toks := tk }) : wpAny (model P w) A (exec e env) Q E s := by
  obtain ⟨y1, z2, z3, y4, z5, z6, z7, z8, rfl⟩ := he
  exact wpAny_Return_some (wpAny_BinOp (wpAny_Constant_int (wpAny_BinOp (nm_local hE k_e (by decide) hF.ns hm (wpAny_Constant_int (mod_int' hk (PyProof.Rows.add_int (h _ _))))))))

theorem ev_idx {r : Int} {t : Tok} {e : Expr} {Q : Value → Shared → Prop} (he : IdxE e) (hE : FEnv env) (k_e : env.kindOf "rest" = some .local) (hn : s.heap.Ns env.locals m) (hm : m "rest" = some (.int r t))
    (h : ∀ u tk, Q (.int ((r.fdiv 34).fmod 5) u) { s with toks := tk }) : wpAny (model P w) A (eval e env) Q E s := by
  obtain ⟨z1, y2, z3, z4, y5, z6, z7, rfl⟩ := he
  exact wpAny_BinOp (wpAny_BinOp (nm_local hE k_e (by decide) hn hm (wpAny_Constant_int (floordiv_int (by decide) (wpAny_Constant_int (mod_int' (by decide) (h _ _))) (Or.inl (PyProof.noPylong_small (by decide)))))))

theorem ev_pick {f l : Int} {t u : Tok} {e : Expr} {Q : Value → Shared → Prop} (he : PickE e) (hE : FEnv env) (k_f : env.kindOf "first" = some .local) (k_l : env.kindOf "last" = some .local) (hF : Fr h₀ env.locals s.heap m) (hf : m "first" = some (.int f t)) (hl : m "last" = some (.int l u))
    (h : ∀ vs tk, IntsAre vs [f - 1, f, (f + l).fdiv 2, l, l + 1] → Q (.ref s.heap.objs.size) { s with heap := s.heap.push { cls := .type "list", data := .seq vs.toArray }, toks := tk }) : wpAny (model P w) A (eval e env) Q E s := by
  obtain ⟨z1, y2, z3, z4, z5, z6, z7, z8, y9, z10, z11, z12, z13, y14, z15, z16, z17, rfl⟩ := he
  have nf : ∀ (E' : Value → Shared → Prop) (s' : Shared) (p : Pos) (K : Value → Shared → Prop), s'.heap = s.heap → K (.int f t) s' → wpAny (model P w) A (eval (.Name "first" p) env) K E' s' := fun E' s' p K e hK => nm_local hE k_f (by decide) (e ▸ hF.ns) hf hK
  have nl : ∀ (E' : Value → Shared → Prop) (s' : Shared) (p : Pos) (K : Value → Shared → Prop), s'.heap = s.heap → K (.int l u) s' → wpAny (model P w) A (eval (.Name "last" p) env) K E' s' := fun E' s' p K e hK => nm_local hE k_l (by decide) (e ▸ hF.ns) hl hK
  refine List_ (args_cons (wpAny_BinOp (nf _ _ _ _ rfl (wpAny_Constant_int (PyProof.Rows.sub_int ?_)))))
  refine args_cons (nf _ _ _ _ rfl ?_)
  refine args_cons (wpAny_BinOp (wpAny_BinOp (nf _ _ _ _ rfl (nl _ _ _ _ rfl (PyProof.Rows.add_int (wpAny_Constant_int (floordiv_int (by decide) ?_ (Or.inl (PyProof.noPylong_small (by decide))))))))))
  refine args_cons (nl _ _ _ _ rfl ?_)
  refine args_cons (wpAny_BinOp (nl _ _ _ _ rfl (wpAny_Constant_int (PyProof.Rows.add_int (args_nil ?_)))))
  exact wpAny_newList (h _ _ (.cons _ _ (.cons _ _ (.cons _ _ (.cons _ _ (.cons _ _ .nil)))))) (by show (5 : Nat) ≤ sizeLine; rw [sizeLine_eq]; omega)
end
end Mine
end

/-! C8 -/
section
open PySem PySem.W PyProof.Rows PySem.Calls
set_option Elab.async false
set_option maxRecDepth 100000
namespace Mine

section
variable {w : World} {A : Around} {E : Value → Shared → Prop} {s : Shared} {mg mb : Str → Option Value} {Q : Value → Shared → Prop} {env : Env} {h₀ : Heap} {m : Str → Option Value}

theorem pick_ok {r : Run3} (hr : r ∈ runsAll) {v : Int} {i : Nat} (h : ([r.1 - 1, r.1, (r.1 + r.2.1).fdiv 2, r.2.1, r.2.1 + 1] : List Int)[i]? = some v) : 0 ≤ v := by
  obtain ⟨h1, h2, h3⟩ := run_ok hr
  have hd := fdiv_fmod_facts (r.1 + r.2.1) 2
  obtain ⟨d1, d2, d3, d4⟩ := hd
  have d5 := d3 (by omega)
  match i, h with
  | 0, h => have e : r.1 - 1 = v := Option.some.inj h
            omega
  | 1, h => have e : r.1 = v := Option.some.inj h
            omega
  | 2, h => have e : (r.1 + r.2.1).fdiv 2 = v := Option.some.inj h
            omega
  | 3, h => have e : r.2.1 = v := Option.some.inj h
            omega
  | 4, h => have e : r.2.1 + 1 = v := Option.some.inj h
            omega
  | (n + 5), h => simp at h

theorem ev_run {r : Int} {t : Tok} {R : Addr} {e : Stmt} {Qf : Flow → Shared → Prop} (he : RunS e) (hr : A.handled = none) (hE : FEnv env) (k_e : env.kindOf "rest" = some .local) (k_r : env.kindOf "runs" = some .local)
    (k_f : env.kindOf "first" = some .local) (k_l : env.kindOf "last" = some .local) (k_k : env.kindOf "kind" = some .local) (hF : Fr h₀ env.locals s.heap m) (hm : m "rest" = some (.int r t)) (hmr : m "runs" = some (.ref R))
    (hR : RunsAt s.heap R runsAll)
    (h : ∀ q ∈ runsAll, ∀ t1 t2 t3 h' tk, Fr h₀ env.locals h' (fun y => if y = "kind" then some (.int q.2.2 t3) else if y = "last" then some (.int q.2.1 t2) else if y = "first" then some (.int q.1 t1) else m y) → Qf .next { s with heap := h', toks := tk }) :
    wpAny (model P w) A (exec e env) Qf E s := by
  obtain ⟨z1, z2, z3, y4, z5, z6, z7, y8, z9, z10, z11, z12, rfl⟩ := he
  obtain ⟨items, hp, ht⟩ := hR
  have hb := (fdiv_fmod_facts r 34).2.2.1 (by decide)
  have hlen : items.length = 34 := ht.length.trans runs_len'
  have hlt : (r.fmod 34).toNat < items.length := by omega
  obtain ⟨q, hq, T, t1, t2, t3, hv, hT⟩ := ht.at (r.fmod 34).toNat items[(r.fmod 34).toNat] (List.getElem?_eq_getElem hlt)
  refine Assign_Tuple (Subscript_ (nm_local hE k_r (by decide) hF.ns hmr (wpAny_BinOp (nm_local hE k_e (by decide) hF.ns hm (wpAny_Constant_int (mod_int' (by decide) ?_))))))
  refine tail_any (s := { s with toks := _ }) hp.isList.typeIs slot_list_getitem.lookup (wpAny_getItem_list (x := .ref T) hp.isList hb.1 (by have := hb.2; omega) (by simpa [hlt] using hv) ?_) rfl
  refine wpAny_assign_Tuple hr ⟨_, hT, rfl, _, rfl⟩ rfl rfl fun h₅ he₅ => ?_
  have up₅ : ∀ b o, s.heap.get? b = some o → h₅.get? b = some o := fun b o e => he₅ b o (Nat.ne_of_lt (Heap.lt_size e)) e
  show wpAny _ _ (assignInOrder [assign (.Name "first" z1) env, assign (.Name "last" z2) env, assign (.Name "kind" z3) env] [.int q.1 t1, .int q.2.1 t2, .int q.2.2 t3]) _ _ _
  refine assignInOrder_cons (wpAny_assign_Name (st_local (s := { s with heap := h₅, toks := _ }) hE k_f (hF.keeps up₅) fun h₆ tk₆ hF₆ hk₆ => ?_))
  refine assignInOrder_cons (wpAny_assign_Name (st_local (s := { s with heap := h₆, toks := tk₆ }) hE k_l hF₆ fun h₇ tk₇ hF₇ hk₇ => ?_))
  refine assignInOrder_cons (wpAny_assign_Name (st_local (s := { s with heap := h₇, toks := tk₇ }) hE k_k hF₇ fun h₈ tk₈ hF₈ hk₈ => assignInOrder_nil ?_))
  exact h q (List.mem_of_getElem? hq) _ _ _ _ _ hF₈

theorem idx_sub {e : Expr} (he : IdxE e) (o i : Value) : ∃ ops, subscripted e false o i = operate ops (getItem o i) := by
  obtain ⟨z1, y2, z3, z4, y5, z6, z7, rfl⟩ := he
  exact ⟨_, rfl⟩

theorem law_spot {R : Addr} {n : Int} {t : Tok} (F : FactsM w s.heap mg mb) (hr : Room A 1) (hR : RunsAt s.heap R runsAll)
    (h : ∀ v t' h' tk, 0 ≤ v → v ≤ 1114111 → (∀ b o, s.heap.get? b = some o → h'.get? b = some o) → Q (.int v t') { s with heap := h', toks := tk }) :
    ∃ a, mg "_law_spot" = some (.ref a) ∧ wpAny (model P w) A (call (.ref a) [.int n t, .ref R]) Q E s := by
  obtain ⟨a, ha, ho⟩ := F.f17
  obtain ⟨s1, x0, a0, e0, e1, p1, p2, p3, k1, p4, p5, p6, p7, x1, r1, p8, x2, r2, p9, r3, hb, b1, b2, b3, b4, b5, b6, b7, b8, b9, b10, b11⟩ := sb17
  refine ⟨a, ha, call_fn (binds := [("number", .int n t), ("runs", .ref R)]) ho F.lim (by have := hr.depth; omega) (fun _ _ _ => by kernel_rfl) (by kernel_rfl) (by kernel_rfl) (by kernel_rfl) fun env h₀ hE hes hF => ?_⟩
  rw [hb]
  have hkind : ∀ x, env.kindOf x = kn 17 x := fun x => by unfold Env.kindOf kn; rw [hes]
  have k_f : env.kindOf "first" = some .local := by rw [hkind]; kernel_rfl
  have k_l : env.kindOf "last" = some .local := by rw [hkind]; kernel_rfl
  have k_k : env.kindOf "kind" = some .local := by rw [hkind]; kernel_rfl
  have k_n : env.kindOf "number" = some .local := by rw [hkind]; kernel_rfl
  have k_e : env.kindOf "rest" = some .local := by rw [hkind]; kernel_rfl
  have k_r : env.kindOf "runs" = some .local := by rw [hkind]; kernel_rfl
  have k_m : env.kindOf "min" = some .globalImplicit := by rw [hkind]; kernel_rfl
  refine wpAny_execs_cons (ev_rest (s := { s with heap := h₀, toks := _ }) b1 hE k_n k_e hF rfl fun u h₁ tk₁ hF₁ hk₁ => ?_)
  have hR₁ := hR.keeps hF₁.keep
  have hfm := fun (k : Int) (hk : 0 < k) => (fdiv_fmod_facts (n.fdiv 4) k).2.2.1 hk
  refine wpAny_execs_cons (wp_If (s := { s with heap := h₁, toks := tk₁ }) (n.fmod 4 == 0) (fun Q' hQ' => ev_modT b2 hE k_n hF₁ rfl hQ') (fun q1 tk₂ => ?_) fun q1 tk₂ => ?_)
  · refine wpAny_execs_cons (ev_run (s := { s with heap := h₁, toks := tk₂ }) b3 hr.handled hE k_e k_r k_f k_l k_k hF₁ rfl rfl hR₁ fun q hq t1 t2 t3 h₂ tk₃ hF₂ => ?_)
    refine wpAny_execs_cons (wpAny_Return_some (Call_ (nm_builtin (s := { s with heap := h₂, toks := tk₃ }) hE k_m (by decide) (F.keeps hF₂.keep) (un_min F) (by decide) b_min ?_)))
    refine PyProof.Rows.callWith_builtin1 (args_cons (Subscript_ (ev_pick (s := { s with heap := h₂, toks := tk₃ }) b4 hE k_f k_l hF₂ rfl rfl fun vs tk₄ hI => ?_)))
    refine ev_idx b5 hE k_e (hF₂.push _).ns rfl fun u₅ tk₅ => ?_
    have hb := (fdiv_fmod_facts ((n.fdiv 4).fdiv 34) 5).2.2.1 (by decide)
    have hlen : vs.length = 5 := hI.length
    have hlt : (((n.fdiv 4).fdiv 34).fmod 5).toNat < vs.length := by omega
    obtain ⟨v, tv, hv, hv'⟩ := hI.at _ _ (List.getElem?_eq_getElem hlt)
    obtain ⟨ops, hops⟩ := idx_sub b5 (.ref h₂.objs.size) (.int (((n.fdiv 4).fdiv 34).fmod 5) u₅)
    have hv0 := pick_ok hq hv'
    refine tail_any (T := "list") (Heap.IsList.typeIs (items := vs.toArray) ⟨_, Heap.get?_push_size _ rfl, rfl, _, rfl⟩) slot_list_getitem.lookup (wpAny_getItem_list (x := .int v tv) (items := vs.toArray) ⟨_, Heap.get?_push_size _ rfl, rfl, _, rfl⟩ hb.1 (by have := hb.2; omega) (by simpa [hlt] using hv) ?_) hops
    refine args_cons (wpAny_Constant_int (args_nil (min_two_ints hr.handled fun h₆ tk₆ hk₆ => ?_)))
    have keep : ∀ b o, s.heap.get? b = some o → h₆.get? b = some o := fun b o e => hk₆ b o (Heap.get?_push_of_some _ (hF₂.keep b o e))
    by_cases hc : (1114111 : Int) < v
    · rw [if_pos hc]; exact h _ _ _ _ (by omega) (by omega) keep
    · rw [if_neg hc]; exact h _ _ _ _ hv0 (by omega) keep
  refine wpAny_execs_nil ?_
  refine wpAny_execs_cons (wp_If (s := { s with heap := h₁, toks := tk₂ }) (n.fmod 4 == 1) (fun Q' hQ' => ev_modT b6 hE k_n hF₁ rfl hQ') (fun q2 tk₃ => ?_) fun q2 tk₃ => ?_)
  · refine wpAny_execs_cons (ev_retM (s := { s with heap := h₁, toks := tk₃ }) b7 (by decide) hE k_e hF₁ rfl fun u' tk => ?_)
    have := hfm 13312 (by omega)
    exact h _ _ _ _ (by omega) (by omega) hF₁.keep
  refine wpAny_execs_nil ?_
  refine wpAny_execs_cons (wp_If (s := { s with heap := h₁, toks := tk₃ }) (n.fmod 4 == 2) (fun Q' hQ' => ev_modT b8 hE k_n hF₁ rfl hQ') (fun q3 tk₄ => ?_) fun q3 tk₄ => ?_)
  · refine wpAny_execs_cons (ev_retA (s := { s with heap := h₁, toks := tk₄ }) b9 (by decide) hE k_e hF₁ rfl fun u' tk => ?_)
    have := hfm 1792 (by omega)
    exact h _ _ _ _ (by omega) (by omega) hF₁.keep
  refine wpAny_execs_nil ?_
  refine wpAny_execs_cons (ev_retA (s := { s with heap := h₁, toks := tk₄ }) b10 (by decide) hE k_e hF₁ rfl fun u' tk => ?_)
  have := hfm 1024 (by omega)
  exact h _ _ _ _ (by omega) (by omega) hF₁.keep
end
end Mine
end

/-! D1 -/
section
open PySem PySem.W PyProof.Rows PySem.Calls
set_option Elab.async false
set_option maxRecDepth 100000
namespace Mine

abbrev Sup (h h' : Heap) : Prop := ∀ b o, h.get? b = some o → h'.get? b = some o

/-- what has to hold behind an iterator's step: the end, or an item bound to the target -/
def TurnPost (w : World) (A : Around) (tgt : Expr) (it : Value) (env : Env) (N Q : Shared → Prop) (E : Value → Shared → Prop) : Option Value → Shared → Prop
  | none, s₁ => N s₁
  | some v, s₁ => wpAny (model P w) A (letOwnedTupleGo tgt it v) (fun _ s₀ => wpAny (model P w) A (assign tgt env v) (fun _ s₂ => Q s₂) E s₀) E s₁

/-- the turns of a loop over what the iterator at I gives -/
structure Turns {α : Type} (w : World) (A : Around) (I : Addr) (tgt : Expr) (fp wr : List Addr) (names : List Str) (as : List α) (B : α → (Str → Option Value) → Prop) (St : Nat → Heap → Prop) : Prop where
  sub : ∀ b ∈ wr, b ∈ fp
  frame : ∀ i h h', St i h → (∀ b ∈ fp, ∀ o, h.get? b = some o → h'.get? b = some o) → St i h'
  item : ∀ i a (s : Shared) (env : Env) m (N Q : Shared → Prop) (E : Value → Shared → Prop), as[i]? = some a → St i s.heap → env.scope.kind = .function → (∀ x ∈ names, env.kindOf x = some .local) → env.locals ∉ fp → s.heap.Ns env.locals m →
    (∀ m' h' tk, h'.Ns env.locals m' → B a m' → St (i + 1) h' → (∀ b o, b ≠ env.locals → b ∉ wr → s.heap.get? b = some o → h'.get? b = some o) → Q { s with heap := h', toks := tk }) →
    wpAny (model P w) A (pyNext (.ref I)) (TurnPost w A tgt (.ref I) env N Q E) E s
  done : ∀ (s : Shared) (Q : Option Value → Shared → Prop) (E : Value → Shared → Prop), St as.length s.heap →
    (∀ h' tk, (∀ b o, b ∉ wr → s.heap.get? b = some o → h'.get? b = some o) → Q none { s with heap := h', toks := tk }) → wpAny (model P w) A (pyNext (.ref I)) Q E s
  self : ∀ i (s : Shared) (Q : Value → Shared → Prop) (E : Value → Shared → Prop), St i s.heap → Q (.ref I) s → wpAny (model P w) A (pyIter (.ref I)) Q E s

section
variable {w : World} {A : Around} {E : Value → Shared → Prop} {s : Shared} {α : Type}

theorem Turns.name {I : Addr} {fp wr : List Addr} {as : List α} {Pv : Nat → Value → Prop} {St : Nat → Heap → Prop} {x : Str} {px : Pos} (V : α → Value → Prop) (W : Walks P w A I fp wr as.length Pv St) (hV : ∀ i a v, as[i]? = some a → Pv i v → V a v) :
    Turns w A I (.Name x px) fp wr [x] as (fun a m => ∃ v, m x = some v ∧ V a v) St where
  sub := W.sub
  frame := W.frame
  item := fun i a s env m N Q E ha hst hk hx hL hn hQ => by
    have hi : i < as.length := by
      rcases Nat.lt_or_ge i as.length with h | h
      · exact h
      · rw [List.getElem?_eq_none h] at ha; cases ha
    refine W.item i s _ _ hi hst fun v h' tk hP hst' hk' => ?_
    show wpAny _ _ (letOwnedTupleGo _ _ _) _ _ _
    refine wpAny_of_eq (show letOwnedTupleGo (.Name x px) (.ref I) v = pure () from rfl) ?_
    refine wpAny_assign_Name (wpAny_storeName_local (hx x (by simp)) (hn.at' fun o e => hk' _ o (fun q => hL (W.sub _ q)) e) (fun h₂ hn₂ hs₂ => ?_) (by rw [hk]; rfl))
    exact hQ _ h₂ _ hn₂ ⟨v, by simp, hV i a v ha hP⟩ (W.frame _ _ _ hst' fun b hb o e => hs₂.extBut b o (fun q => hL (q ▸ hb)) e) fun b o hb hbw e => hs₂.extBut b o hb (hk' b o hbw e)
  done := W.done
  self := W.self

theorem Turns.pair {I : Addr} {fp wr : List Addr} {as : List α} {Pt : Nat → Array Value → Prop} {St : Nat → Heap → Prop} {Mid : Nat → Addr → Heap → Prop} {x y : Str} {px py tp : Pos} {kk : Nat} (hh : A.handled = none) (hxy : x ≠ y) (V : α → Value → Value → Prop) (W : WalksT P w A I fp wr as.length Pt St Mid)
    (hV : ∀ i a vs, as[i]? = some a → Pt i vs → ∃ u v, vs = #[u, v] ∧ V a u v) :
    Turns w A I (.Tuple [.Name x px, .Name y py] kk tp) fp wr [x, y] as (fun a m => ∃ u v, m x = some u ∧ m y = some v ∧ V a u v) St where
  sub := W.sub
  frame := W.frame
  item := fun i a s env m N Q E ha hst hk hx hL hn hQ => by
    have hi : i < as.length := by
      rcases Nat.lt_or_ge i as.length with h | h
      · exact h
      · rw [List.getElem?_eq_none h] at ha; cases ha
    refine W.item i s _ _ hi hst fun T vals h' tk hP hTs hT hM hk' => ?_
    obtain ⟨u, v, rfl, hv⟩ := hV i a vals ha hP
    have hLw : env.locals ∉ wr := fun q => hL (W.sub _ q)
    have hTw := W.apart i T h' hM
    show wpAny _ _ (letOwnedTupleGo _ _ _) _ _ _
    refine W.go _ _ _ i T { s with heap := h', toks := tk } _ _ hM fun h₁ hst₁ hk₁ => ?_
    have hn₁ : h₁.Ns env.locals m := (hn.at' fun o e => hk' _ o hLw e).at' fun o e => hk₁ _ o hLw e
    refine wpAny_assign_Tuple (s := { s with heap := h₁, toks := tk }) hh (hT.at fun o e => hk₁ T o hTw e) rfl rfl fun h₂ he₂ => ?_
    have up₂ : ∀ b o, h₁.get? b = some o → h₂.get? b = some o := fun b o e => he₂ b o (Nat.ne_of_lt (Heap.lt_size e)) e
    have hkn : (env.scope.kind == .class || (env.scope.kind == .module && env.locals != env.globals)) = false := by rw [hk]; rfl
    show wpAny _ _ (assignInOrder [assign (.Name x px) env, assign (.Name y py) env] [u, v]) _ _ _
    refine assignInOrder_cons (wpAny_assign_Name (wpAny_storeName_local (hx x (by simp)) (hn₁.keeps up₂) (fun h₃ hn₃ hs₃ => ?_) hkn))
    refine assignInOrder_cons (wpAny_assign_Name (wpAny_storeName_local (hx y (by simp)) hn₃ (fun h₄ hn₄ hs₄ => assignInOrder_nil ?_) hkn))
    have up₄ : ∀ b o, b ≠ env.locals → h₁.get? b = some o → h₄.get? b = some o := fun b o hb e => hs₄.extBut b o hb (hs₃.extBut b o hb (up₂ b o e))
    refine hQ _ h₄ _ hn₄ ⟨u, v, ?_, by simp, hv⟩ (W.frame _ _ _ hst₁ fun b hb o e => up₄ b o (fun q => hL (q ▸ hb)) e) fun b o hb hbw e => up₄ b o hb (hk₁ b o hbw (hk' b o hbw e))
    show (if x = y then _ else _) = _
    rw [if_neg hxy]; simp
  done := W.done
  self := W.self

theorem loop_tests {elt target iter : Expr} {ifs : List Expr} {scope : Scope} {pos : Pos} {it acc : Value} {env : Env} {R : Result → Shared → Prop} (I : Nat → Shared → Prop)
    (turn : ∀ n s, I n s → wpAny (model P w) A (pyNext it) (TurnPost w A target it env (R (.ok .next)) (fun s₂ =>
          wpAny (model P w) A (forIn ifs true fun c r => if r = true then do let ok ← isTrue c env (eval c env); pure (ForInStep.yield ok) else pure (ForInStep.yield r)) (fun ok s₃ =>
            if ok = true then wpAny (model P w) A (eval elt env) (fun x s₄ =>
              wpAny (model P w) A (call (.builtin "list.append") [acc, x]) (fun _ s₅ => ∃ m, m < n ∧ I m s₅) (notedBy (model P w) A env fun e s' => R (.error e) s') s₄) (notedBy (model P w) A env fun e s' => R (.error e) s') s₃
            else ∃ m, m < n ∧ I m s₃) (notedBy (model P w) A env fun e s' => R (.error e) s') s₂) (notedBy (model P w) A env fun e s' => R (.error e) s')) (notedBy (model P w) A env fun e s' => R (.error e) s') s)
    (n : Nat) (h : I n s) :
    codeAny (model P w) A (.compLoop (.ListComp elt [⟨target, iter, ifs, 0⟩] scope pos) 0 it acc env) R s := by
  refine codeAny_loop rfl I (fun n s hI => ?_) n h
  show wpAny _ A ((compTurn (.ListComp elt [⟨target, iter, ifs, 0⟩] scope pos) 0 it acc env).onRaise (fun x => do noteFrame x env; theTreesLotGoes x)) _ _ s
  refine wpAny_noted ?_
  rw [compTurn_list]
  refine wpAny_bind (wpAny_standAt (wpAny_bind (wpAny_mono (turn n s hI) (fun r s₁ h₁ => ?_) fun _ _ h' => h')))
  cases r with
  | none => exact wpAny_pure h₁
  | some v =>
    refine wpAny_bind (wpAny_mono h₁ (fun _ s₀ h₀ => ?_) fun _ _ h' => h')
    refine wpAny_bind (wpAny_mono h₀ (fun _ s₂ h₂ => wpAny_bind (wpAny_mono h₂ (fun ok s₃ h₃ => ?_) fun _ _ h' => h')) fun _ _ h' => h')
    cases ok with
    | false => exact wpAny_pure ⟨rfl, h₃⟩
    | true =>
      exact wpAny_bind (wpAny_bind (wpAny_mono h₃ (fun x s₄ h₄ => wpAny_bind (wpAny_mono h₄ (fun _ s₅ h₅ => wpAny_pure (wpAny_pure ⟨rfl, h₅⟩)) fun _ _ h' => h')) fun _ _ h' => h'))

/-- what a comprehension's tests and element do, at one item -/
structure BodyOk {α : Type} (w : World) (A : Around) (env : Env) (scope : Scope) (cl : List (Str × Addr)) (ifs : List Expr) (elt : Expr) (as : List α) (B : α → (Str → Option Value) → Prop) (p : α → Bool) (F : α → Addr → Heap → Value → Prop) (s : Shared) : Prop where
  tests : ∀ C a s₃ m₃ E', a ∈ as → s₃.heap.Ns C m₃ → B a m₃ → Sup s.heap s₃.heap →
    wpAny (model P w) A (forIn ifs true fun c r => if r = true then do let ok ← isTrue c (compEnvC scope cl C env) (eval c (compEnvC scope cl C env)); pure (ForInStep.yield ok) else pure (ForInStep.yield r))
      (fun ok s₄ => ok = p a ∧ Keeps s₃ s₄) E' s₃
  elt : ∀ C a s₃ m₃ E', a ∈ as → p a = true → s₃.heap.Ns C m₃ → B a m₃ → Sup s.heap s₃.heap →
    wpAny (model P w) A (eval elt (compEnvC scope cl C env)) (fun y s₄ => F a C s₄.heap y ∧ Keeps s₃ s₄) E' s₃

theorem comp_block {elt iter tgt : Expr} {ifs : List Expr} {scope : Scope} {cl : List (Str × Addr)} {pos : Pos} {env : Env} {s₂ : Shared} {I : Addr} {fp wr : List Addr} {names : List Str} {as : List α} {B : α → (Str → Option Value) → Prop} {St : Nat → Heap → Prop}
    (T : Turns w A I tgt fp wr names as B St) (hsz : as.length ≤ sizeLine) (p : α → Bool) (F : α → Addr → Heap → Value → Prop) {RR : Value → Addr → Result → Shared → Prop}
    (hFs : ∀ a C h h' y, (∀ b o, C < b → h.get? b = some o → h'.get? b = some o) → F a C h y → F a C h' y)
    (hcell : ∀ y ∈ scope.names, y.2 ≠ .cell) (hkind : scope.kind = .function) (hx : ∀ x ∈ names, scope.names.lookup x = some .local) (hst : St 0 s₂.heap) (hfp : ∀ b ∈ fp, b < s₂.heap.objs.size)
    (hs : Sup s.heap s₂.heap) (hwr : ∀ b ∈ wr, s.heap.get? b = none) (hq : BodyOk w A env scope cl ifs elt as B p F s)
    (hRR : ∀ D C h' tk m' ys, s₂.heap.objs.size ≤ D → s₂.heap.get? C = none → D ≠ C → s₂.heap.objs.size ≤ C → h'.Ns C m' → h'.PlainList D (List.toArray ys) → Paired (fun a y => F a C h' y) (as.filter p) ys →
      (∀ b o, b ∉ wr → s₂.heap.get? b = some o → h'.get? b = some o) → RR (.ref D) C (.ok .next) { s₂ with heap := h', toks := tk }) :
    wpAny (model P w) A (newList []) (fun acc s₃ => wpAny (model P w) A (newFunctionEnv scope env.globals cl [] env.qual none .none (some env)) (fun cenv s₄ =>
      codeAny (model P w) A (.compStart (.ListComp elt [⟨tgt, iter, ifs, 0⟩] scope pos) 0 (.ref I) acc { cenv with scope := relabel scope env }) (RR acc cenv.locals) s₄) E s₃) E s₂ := by
  refine wpAny_newObj_type (wpAny_newFunctionEnv hcell (by intro y hy; simp at hy) (fun h₁ hns₁ hsb₁ => ?_) hkind)
  dsimp only at hns₁ hsb₁ ⊢
  generalize hH2 : s₂.heap.push { cls := .type "list", dict := none, data := .seq ([] : List Value).toArray } = H2 at hns₁ hsb₁ ⊢
  have hC : H2.objs.size = s₂.heap.objs.size + 1 := by rw [← hH2, Heap.size_push]
  have hDC : s₂.heap.objs.size ≠ H2.objs.size := by rw [hC]; exact Nat.ne_of_lt (Nat.lt_succ_self _)
  have hDltC : s₂.heap.objs.size < H2.objs.size := by rw [hC]; exact Nat.lt_succ_self _
  have below : ∀ b, b < s₂.heap.objs.size → b ≠ H2.objs.size ∧ b ≠ s₂.heap.objs.size := fun b hb => ⟨by rw [hC]; exact Nat.ne_of_lt (Nat.lt_succ_of_lt hb), Nat.ne_of_lt hb⟩
  have hDf : s₂.heap.objs.size ∉ fp := fun hm => Nat.lt_irrefl _ (hfp _ hm)
  have hCf : H2.objs.size ∉ fp := fun hm => by have := hfp _ hm; rw [hC] at this; exact Nat.lt_irrefl _ (Nat.lt_of_succ_lt this)
  have hDw : s₂.heap.objs.size ∉ wr := fun q => hDf (T.sub _ q)
  have hCw : H2.objs.size ∉ wr := fun q => hCf (T.sub _ q)
  have old : ∀ b o, s₂.heap.get? b = some o → h₁.get? b = some o := fun b o e => hsb₁.extBut b o (below b (Heap.lt_size e)).1 (Heap.get?_push_of_some _ (hH2 ▸ Heap.get?_push_of_some _ e))
  have hacc : h₁.PlainList s₂.heap.objs.size ([] : List Value).toArray := ⟨_, hsb₁.extBut _ _ hDC (Heap.get?_push_of_some _ (hH2 ▸ Heap.get?_push_size _ rfl))⟩
  have hst₁ : St 0 h₁ := T.frame _ _ _ hst fun b _ o e => old b o e
  have fresh : ∀ a, s₂.heap.objs.size ≤ a → s₂.heap.get? a = none := fun a ha => by
    cases e : s₂.heap.get? a with
    | none => rfl
    | some o' => exact absurd (Heap.lt_size e) (Nat.not_lt.mpr ha)
  have high : ∀ b, H2.objs.size < b → b ∉ wr ∧ b ≠ H2.objs.size ∧ b ≠ s₂.heap.objs.size := fun b hb =>
    ⟨fun q => Nat.lt_irrefl _ (Nat.lt_trans (Nat.lt_trans hDltC hb) (hfp _ (T.sub _ q))), Nat.ne_of_gt hb, Nat.ne_of_gt (Nat.lt_trans hDltC hb)⟩
  have loop : ∀ s₃ : Shared, s₃ = { s₂ with heap := h₁, toks := s₂.toks + ([] : List (Str × Value)).length } →
      codeAny (model P w) A (.compLoop (.ListComp elt [⟨tgt, iter, ifs, 0⟩] scope pos) 0 (.ref I) (.ref s₂.heap.objs.size) (compEnvC scope cl H2.objs.size env))
        (RR (.ref s₂.heap.objs.size) H2.objs.size) s₃ := by
    rintro s₃ rfl
    refine loop_tests
      (fun k s' => ∃ h' tk i ys m', s' = { s₂ with heap := h', toks := tk } ∧ i ≤ as.length ∧ k = as.length + 1 - i ∧ St i h' ∧ h'.PlainList s₂.heap.objs.size (List.toArray ys) ∧ h'.Ns H2.objs.size m' ∧ Paired (fun a y => F a H2.objs.size h' y) ((as.take i).filter p) ys ∧ ys.length ≤ i ∧
        (∀ b o, b ∉ wr → s₂.heap.get? b = some o → h'.get? b = some o)) ?_ (as.length + 1) ⟨h₁, _, 0, [], _, rfl, Nat.zero_le _, rfl, hst₁, hacc, hns₁, by simpa using Paired.nil, Nat.le_refl _, fun b o _ e => old b o e⟩
    rintro k s' ⟨h', tk, i, ys, m', rfl, hi, rfl, hst', hacc', hn', hF', hyl, hk'⟩
    by_cases hlt : i < as.length
    · have ha : as[i]? = some as[i] := List.getElem?_eq_getElem hlt
      generalize as[i] = a at ha
      have ham : a ∈ as := List.mem_of_getElem? ha
      have htake : as.take (i + 1) = as.take i ++ [a] := by rw [List.take_add_one, ha]; rfl
      refine T.item i a { s₂ with heap := h', toks := tk } (compEnvC scope cl H2.objs.size env) m' _ _ _ ha hst' hkind (fun x hx' => lookup_relabel_local (hx x hx')) hCf hn' fun m₁ h₂ tk₂ hn₂ hB hst₂ hk₂ => ?_
      have hk₂' : ∀ b o, b ∉ wr → s₂.heap.get? b = some o → h₂.get? b = some o := fun b o hb e => hk₂ b o (below b (Heap.lt_size e)).1 hb (hk' b o hb e)
      have sup₂ : Sup s.heap h₂ := fun b o e => hk₂' b o (fun q => by rw [hwr b q] at e; cases e) (hs b o e)
      refine wpAny_mono (hq.tests H2.objs.size a { s₂ with heap := h₂, toks := tk₂ } m₁ _ ham hn₂ hB sup₂) (fun ok s₃ h₃ => ?_) fun _ _ e => e
      obtain ⟨rfl, h₃, tk₃, rfl, hk₃⟩ := h₃
      have hst₃ : St (i + 1) h₃ := T.frame _ _ _ hst₂ fun b _ o e => hk₃ b o e
      have hn₃ := hn₂.keeps hk₃
      have hacc₃ : h₃.PlainList s₂.heap.objs.size (List.toArray ys) := hacc'.at fun o e => hk₃ _ o (hk₂ _ o hDC hDw e)
      have hF₃ : Paired (fun a y => F a H2.objs.size h₃ y) ((as.take i).filter p) ys := hF'.mono fun a y f => hFs a _ _ _ y (fun b o hb e => hk₃ b o (hk₂ b o (high b hb).2.1 (high b hb).1 e)) f
      cases hpa : p a with
      | false =>
        simp only [Bool.false_eq_true, if_false]
        refine ⟨as.length + 1 - (i + 1), by omega, h₃, tk₃, i + 1, ys, m₁, rfl, hlt, rfl, hst₃, hacc₃, hn₃, ?_, Nat.le_succ_of_le hyl, fun b o hb e => hk₃ b o (hk₂' b o hb e)⟩
        rw [htake, List.filter_append]; simpa [hpa] using hF₃
      | true =>
        simp only [if_true]
        refine wpAny_mono (hq.elt H2.objs.size a { s₂ with heap := h₃, toks := tk₃ } m₁ _ ham hpa hn₃ hB (fun b o e => hk₃ b o (sup₂ b o e))) (fun y s₄ h₄ => ?_) fun _ _ e => e
        obtain ⟨hFy, h₄, tk₄, rfl, hk₄⟩ := h₄
        refine wpAny_list_append_plain (hsz := by rw [List.size_toArray]; exact Nat.le_trans hyl (Nat.le_trans hi hsz)) (hacc₃.at fun o e => hk₄ _ o e) fun h₅ hl₅ hs₅ => ?_
        have up : ∀ b o, H2.objs.size < b → h₄.get? b = some o → h₅.get? b = some o := fun b o hb e => hs₅.extBut b o (high b hb).2.2 e
        refine ⟨as.length + 1 - (i + 1), by omega, h₅, tk₄, i + 1, ys ++ [y], m₁, rfl, hlt, rfl, T.frame _ _ _ hst₃ fun b hb o e => hs₅.extBut b o (fun q => hDf (q ▸ hb)) (hk₄ b o e), by simpa using hl₅, (hn₃.keeps hk₄).sameBut hs₅ (Ne.symm hDC), ?_,
          by rw [List.length_append, List.length_singleton]; exact Nat.succ_le_succ hyl, fun b o hb e => hs₅.extBut b o (below b (Heap.lt_size e)).2 (hk₄ b o (hk₃ b o (hk₂' b o hb e)))⟩
        rw [htake, List.filter_append]
        have := Paired.snoc (hF₃.mono (F' := fun a y => F a H2.objs.size h₅ y) fun a y f => hFs a _ _ _ y (fun b o hb e => up b o hb (hk₄ b o e)) f) (hFs a _ _ _ y up hFy)
        simpa [hpa] using this
    · have hin : i = as.length := Nat.le_antisymm hi (Nat.not_lt.mp hlt)
      subst hin
      refine T.done { s₂ with heap := h', toks := tk } _ _ hst' fun h₂ tk₂ hk₂ => ?_
      refine hRR _ _ h₂ tk₂ m' ys (Nat.le_refl _) (fresh _ (Nat.le_of_lt hDltC)) hDC (Nat.le_of_lt hDltC) (hn'.at' fun o e => hk₂ _ o hCw e) (hacc'.at fun o e => hk₂ _ o hDw e) ?_ fun b o hb e => hk₂ b o hb (hk' b o hb e)
      rw [List.take_length] at hF'
      exact hF'.mono fun a y f => hFs a _ _ _ y (fun b o hb e => hk₂ b o (high b hb).1 e) f
  exact codeAny_compStart_list (loop _ rfl) (T.self 0 _ _ _ hst₁ (loop _ rfl))

/-- what a comprehension's iterable gives -/
def SrcOk (w : World) (A : Around) (env : Env) (iter tgt : Expr) (names : List Str) (as : List α) (B : α → (Str → Option Value) → Prop) (s : Shared) : Prop :=
  ∀ (E : Value → Shared → Prop) (Q : Value → Shared → Prop), (∀ I fp wr St h₂ tk₂, Turns w A I tgt fp wr names as B St → St 0 h₂ → (∀ b ∈ fp, b < h₂.objs.size) → (∀ b ∈ wr, s.heap.get? b = none) → Sup s.heap h₂ → s.heap.objs.size ≤ h₂.objs.size → Q (.ref I) { s with heap := h₂, toks := tk₂ }) →
    wpAny (model P w) A (eval iter env) (fun xv s₁ => wpAny (model P w) A (pyIter xv) Q E s₁) E s

theorem ev_comp {env : Env} {elt iter tgt : Expr} {ifs : List Expr} {scope : Scope} {cl : List (Str × Addr)} {pos : Pos} {names : List Str} {as : List α} {B : α → (Str → Option Value) → Prop} {Q : Value → Shared → Prop}
    (p : α → Bool) (F : α → Addr → Heap → Value → Prop) (hsrc : SrcOk w A env iter tgt names as B s) (hq : BodyOk w A env scope cl ifs elt as B p F s)
    (hclos : closureFor scope env = pure cl) (hcell : ∀ y ∈ scope.names, y.2 ≠ .cell) (hkind : scope.kind = .function) (hnames : ∀ y ∈ scope.names, y.2 = .local → scope.names.lookup y.1 = some .local) (hx : ∀ x ∈ names, scope.names.lookup x = some .local)
    (hsz : as.length ≤ sizeLine)
    (hFs : ∀ a C h h' y, (∀ b o, C < b → h.get? b = some o → h'.get? b = some o) → F a C h y → F a C h' y)
    (hs : ∀ x, foldedSetIterable iter env x = pure x)
    (h : ∀ D C h' tk ys, s.heap.objs.size ≤ D → s.heap.objs.size ≤ C → h'.PlainList D (List.toArray ys) → Paired (fun a y => F a C h' y) (as.filter p) ys → Sup s.heap h' → Q (.ref D) { s with heap := h', toks := tk }) :
    wpAny (model P w) A (eval (.ListComp elt [⟨tgt, iter, ifs, 0⟩] scope pos) env) Q E s := by
  rw [eval_ListComp]
  refine wpAny_comprehension_free (use := none) rfl hs hclos hkind hnames (hsrc _ _ fun I fp wr St h₂ tk₂ T hst hfp hwr hsup hle => ?_)
  refine comp_block (s₂ := { s with heap := h₂, toks := tk₂ }) (RR := fun acc C => compPost (model P w) A E none Q acc C) T hsz p F hFs hcell hkind hx hst hfp hsup hwr hq ?_
  intro D C h' tk m' ys hD hC hDC hCs hn hl hF hk
  refine ⟨m', hn, fun h'' hs'' => h D C h'' tk ys ?_ ?_ (hl.extBut hs''.extBut hDC) (hF.mono fun a y f => hFs a _ _ _ y (fun b o hb e => hs''.extBut b o (Nat.ne_of_gt hb) e) f) fun b o e => hs''.extBut b o ?_ (hk b o (fun q => by rw [hwr b q] at e; cases e) (hsup b o e))⟩
  · exact Nat.le_trans hle hD
  · exact Nat.le_trans hle hCs
  · rintro rfl
    have := hsup _ _ e
    rw [show h₂.get? b = none from hC] at this; cases this
end
end Mine
end

/-! D2 -/
section
open PySem PySem.W PyProof.Rows PySem.Calls
set_option Elab.async false
set_option maxRecDepth 100000
namespace Mine

section
variable {w : World} {A : Around} {E : Value → Shared → Prop} {s : Shared} {α : Type}

theorem swaps {env : Env} {elt : Expr} {gs : List Comprehension} {scope : Scope} {pos py : Pos} {y : Str} {n : Nat} (hk : env.scope.kind = .function) (hy : env.kindOf y = some .local) (hl : py.line = pos.line) (hsc : (scope.names.any fun x => x.1 == y && (x.2 == .local || x.2 == .cell)) = false) :
    swapsWith (.ListComp elt gs scope pos) (some (.Name y py)) n env = pure true := by
  unfold swapsWith
  show pure (env.blockKind == .function && env.kindOf y == some .local && py.line == pos.line && !(scope.names.any fun x => x.1 == y && (x.2 == .local || x.2 == .cell))) = _
  rw [hsc, hy, hl]
  simp [Env.blockKind, hk, ScopeKind.isAnnotationScope]

theorem as_comp {env : Env} {elt iter tgt : Expr} {ifs : List Expr} {scope : Scope} {cl : List (Str × Addr)} {pos py spos : Pos} {y : Str} {names : List Str} {as : List α} {B : α → (Str → Option Value) → Prop} {Q : Flow → Shared → Prop} {h₀ : Heap} {m : Str → Option Value}
    (p : α → Bool) (F : α → Addr → Heap → Value → Prop) (hsrc : SrcOk w A env iter tgt names as B s) (hq : BodyOk w A env scope cl ifs elt as B p F s)
    (hclos : closureFor scope env = pure cl) (hcell : ∀ y ∈ scope.names, y.2 ≠ .cell) (hkind : scope.kind = .function) (hnames : ∀ y ∈ scope.names, y.2 = .local → scope.names.lookup y.1 = some .local) (hx : ∀ x ∈ names, scope.names.lookup x = some .local)
    (hsz : as.length ≤ sizeLine)
    (hFs : ∀ a C h h' y, (∀ b o, C < b → h.get? b = some o → h'.get? b = some o) → F a C h y → F a C h' y)
    (hs : ∀ x, foldedSetIterable iter env x = pure x)
    (hE : env.scope.kind = .function) (hy : env.kindOf y = some .local) (hl : py.line = pos.line) (hsc : (scope.names.any fun x => x.1 == y && (x.2 == .local || x.2 == .cell)) = false) (hF : Fr h₀ env.locals s.heap m)
    (h : ∀ D C h' tk ys, s.heap.objs.size ≤ D → s.heap.objs.size ≤ C → h'.PlainList D (List.toArray ys) → Paired (fun a y => F a C h' y) (as.filter p) ys → Fr h₀ env.locals h' (fun z => if z = y then some (.ref D) else m z) →
      (∀ b o, b ≠ env.locals → s.heap.get? b = some o → h'.get? b = some o) → Q .next { s with heap := h', toks := tk }) :
    wpAny (model P w) A (exec (.Assign [.Name y py] (.ListComp elt [⟨tgt, iter, ifs, 0⟩] scope pos) spos) env) Q E s := by
  rw [exec_Assign_Name_used _ _ _ _ (swaps hE hy hl hsc)]
  refine wpAny_bind (wpAny_standAt (wpAny_bind ?_))
  show wpAny _ A (do let _ ← comprehension (.ListComp elt [⟨tgt, iter, ifs, 0⟩] scope pos) scope env _ (newList []) false (eval iter env) (some (assign (.Name y py) env))) _ _ s
  refine wpAny_bind (wpAny_mono (wpAny_comprehension_free (use := some (assign (.Name y py) env)) (Q := fun _ s' => Q .next s') rfl hs hclos hkind hnames
    (hsrc _ _ fun I fp wr St h₂ tk₂ T hst hfp hwr hsup hle => ?_)) (fun _ s' hq => wpAny_pure (wpAny_pure hq)) fun _ _ e => e)
  refine comp_block (s₂ := { s with heap := h₂, toks := tk₂ }) (RR := fun acc C => compPost (model P w) A E (some (assign (.Name y py) env)) (fun _ s' => Q .next s') acc C) T hsz p F hFs hcell hkind hx hst hfp hsup hwr hq ?_
  intro D C h' tk m' ys hD hC hDC hCs hn hpl hPF hk
  have hLlt : env.locals < s.heap.objs.size := hF.ns.lt
  have hLD : env.locals ≠ D := Nat.ne_of_lt (Nat.lt_of_lt_of_le hLlt (Nat.le_trans hle hD))
  have hLC : env.locals ≠ C := Nat.ne_of_lt (Nat.lt_of_lt_of_le hLlt (Nat.le_trans hle hCs))
  have up : ∀ b o, s.heap.get? b = some o → h'.get? b = some o := fun b o e => hk b o (fun q => by rw [hwr b q] at e; cases e) (hsup b o e)
  show wpAny _ A (assign (.Name y py) env (.ref D)) _ _ _
  refine wpAny_assign_Name (wpAny_storeName_local hy (hF.ns.at' fun o e => up _ o e) (fun h₂ hn₂ hs₂ => ?_) (by rw [hE]; rfl))
  refine ⟨m', hn.sameBut hs₂ (Ne.symm hLC), fun h₃ hs₃ => ?_⟩
  have hCn : ∀ b o, s.heap.get? b = some o → b ≠ C := fun b o e => Nat.ne_of_lt (Nat.lt_of_lt_of_le (Heap.lt_size e) (Nat.le_trans hle hCs))
  have hk₃ : ∀ b o, b ≠ env.locals → s.heap.get? b = some o → h₃.get? b = some o := fun b o hb e => hs₃.extBut b o (hCn b o e) (hs₂.extBut b o hb (up b o e))
  refine h D C h₃ _ ys (Nat.le_trans hle hD) (Nat.le_trans hle hCs) ((hpl.extBut hs₂.extBut (Ne.symm hLD)).extBut hs₃.extBut hDC) (hPF.mono fun a y f => hFs a _ _ _ y (fun b o hb e => hs₃.extBut b o (Nat.ne_of_gt hb) (hs₂.extBut b o ?_ e)) f) ⟨hn₂.sameBut hs₃ hLC, fun b o e => ?_, hF.above⟩ hk₃
  · exact Nat.ne_of_gt (Nat.lt_trans (Nat.lt_of_lt_of_le hLlt (Nat.le_trans hle hCs)) hb)
  · exact hk₃ b o (Nat.ne_of_lt (Nat.lt_of_lt_of_le (Heap.lt_size e) hF.above)) (hF.keep b o e)
end

/-! zip over two iterators of any kind, of one length -/
structure ZipOff (z TI TO i1 i2 : Addr) (f1 f2 : List Addr) : Prop where
  TIz : TI ≠ z
  TOz : TO ≠ z
  i1z : i1 ≠ z
  i2z : i2 ≠ z
  TITO : TI ≠ TO
  TIi1 : TI ≠ i1
  TIi2 : TI ≠ i2
  TOi1 : TO ≠ i1
  TOi2 : TO ≠ i2
  i12 : i1 ≠ i2
  f1z : z ∉ f1
  f1O : TO ∉ f1
  f12 : i2 ∉ f1
  f2z : z ∉ f2
  f2O : TO ∉ f2
  f21 : i1 ∉ f2
  in1 : i1 ∈ f1
  in2 : i2 ∈ f2

section
variable {w : World} {A : Around} {E : Value → Shared → Prop} {s : Shared} {z TI TO i1 i2 : Addr} {f1 f2 : List Addr} {n : Nat} {P1 P2 : Nat → Value → Prop} {S1 S2 : Nat → Heap → Prop}

theorem zipD_item {k : Nat} {a b : Value} {Q : Value → Shared → Prop} (O : ZipOff z TI TO i1 i2 f1 f2) (D1 : Draws P w A i1 f1 n P1 S1) (D2 : Draws P w A i2 f2 n P2 S2) (hk : k < n)
    (hz : IsZip s.heap z TI TO .none) (hTI : IsPair s.heap TI (.ref i1) (.ref i2)) (hTO : IsPair s.heap TO a b) (h1 : S1 k s.heap) (h2 : S2 k s.heap)
    (hQ : ∀ x y h' tk, P1 k x → P2 k y → IsZip h' z TI TO (rawInt s.heap.objs.size) → IsPair h' TO x y → S1 (k + 1) h' → S2 (k + 1) h' → IsPair h' s.heap.objs.size x y →
      (∀ c o, c ≠ z → c ≠ TO → c ≠ i1 → c ≠ i2 → s.heap.get? c = some o → h'.get? c = some o) → Q (.ref s.heap.objs.size) { s with heap := h', toks := tk }) :
    wpAny (model P w) A (Builtin.«zip.__next__» ⟨[.ref z], []⟩) (fun fin s' => ∃ v, fin = .done (.ret v) ∧ Q v s') E s := by
  show wpAny _ _ (field (.ref z) 2 >>= _) _ _ _
  refine wpAny_bind (wpAny_field hz rfl (x := .bool false) rfl ?_)
  show wpAny _ _ (field (.ref z) 3 >>= _) _ _ _
  refine wpAny_bind (wpAny_field hz rfl (x := .ref TI) rfl ?_)
  refine wpAny_bind (wpAny_seqItems hTI rfl ?_)
  show wpAny _ _ (Builtin.SmallTypes.ownedTupleIsFree (.ref z) >>= _) _ _ _
  refine wpAny_bind ?_
  unfold Builtin.SmallTypes.ownedTupleIsFree
  refine wpAny_bind (wpAny_field hz rfl (x := .none) rfl (wpAny_pure ?_))
  simp only [if_true]
  refine wpAny_bind (wpAny_rule ?_)
  refine wpAny_bind (wpAny_field hz rfl (x := .ref TO) rfl ?_)
  refine wpAny_bind (wpAny_setField_rec hz (by simp) fun h₁ hz₁ hs₁ => ?_)
  replace hz₁ : IsZip h₁ z TI TO .ellipsis := hz₁
  have a1 : S1 k h₁ := D1.frame _ _ _ h1 fun b hb o e => hs₁.extBut b o (fun q => O.f1z (q ▸ hb)) e
  have a2 : S2 k h₁ := D2.frame _ _ _ h2 fun b hb o e => hs₁.extBut b o (fun q => O.f2z (q ▸ hb)) e
  refine wpAny_bind ?_
  simp only [List.zipIdx_cons, List.zipIdx_nil, List.forIn_cons, List.forIn_nil]
  refine wpAny_bind (wpAny_bind (wpAny_onRaise ?_))
  show wpAny _ _ (Builtin.SmallTypes.nextOf (.ref i1) >>= _) _ _ _
  refine wpAny_bind (D1.item k { s with heap := h₁ } _ _ hk a1 fun x h₂ tk₂ hx b1 hs₂ => wpAny_pure ?_)
  have b2 : S2 k h₂ := D2.frame _ _ _ a2 fun b hb o e => hs₂.extBut b o (fun q => O.f21 (q ▸ hb)) e
  have hTO₂ : IsPair h₂ TO a b := hs₂.extBut _ _ O.TOi1 (hs₁.extBut _ _ O.TOz hTO)
  refine wpAny_bind (wpAny_seqItems hTO₂ rfl ?_)
  refine wpAny_bind (wpAny_updateSeq_pair hTO₂ fun h₃ hTO₃ hs₃ => ?_)
  replace hTO₃ : IsPair h₃ TO x b := hTO₃
  have c1 : S1 (k + 1) h₃ := D1.frame _ _ _ b1 fun b hb o e => hs₃.extBut b o (fun q => O.f1O (q ▸ hb)) e
  have c2 : S2 k h₃ := D2.frame _ _ _ b2 fun b hb o e => hs₃.extBut b o (fun q => O.f2O (q ▸ hb)) e
  refine wpAny_bind (wpAny_letGo (wpAny_pure ?_))
  refine wpAny_bind (wpAny_bind (wpAny_onRaise ?_))
  show wpAny _ _ (Builtin.SmallTypes.nextOf (.ref i2) >>= _) _ _ _
  refine wpAny_bind (D2.item k _ _ _ hk c2 fun y h₄ tk₄ hy d2 hs₄ => wpAny_pure ?_)
  have d1 : S1 (k + 1) h₄ := D1.frame _ _ _ c1 fun b hb o e => hs₄.extBut b o (fun q => O.f12 (q ▸ hb)) e
  have hTO₄ : IsPair h₄ TO x b := hs₄.extBut _ _ O.TOi2 hTO₃
  refine wpAny_bind (wpAny_seqItems hTO₄ rfl ?_)
  refine wpAny_bind (wpAny_updateSeq_pair hTO₄ fun h₅ hTO₅ hs₅ => ?_)
  replace hTO₅ : IsPair h₅ TO x y := hTO₅
  have e1 : S1 (k + 1) h₅ := D1.frame _ _ _ d1 fun b hb o e => hs₅.extBut b o (fun q => O.f1O (q ▸ hb)) e
  have e2 : S2 (k + 1) h₅ := D2.frame _ _ _ d2 fun b hb o e => hs₅.extBut b o (fun q => O.f2O (q ▸ hb)) e
  refine wpAny_bind (wpAny_letGo (wpAny_pure (wpAny_pure ?_)))
  refine wpAny_bind (wpAny_seqItems hTO₅ rfl ?_)
  refine wpAny_bind (wpAny_newTuple ?_)
  have hsz : h₅.objs.size = s.heap.objs.size := by
    rw [hs₅.1, hs₄.1]
    show h₃.objs.size = _
    rw [hs₃.1, hs₂.1]
    show h₁.objs.size = _
    rw [hs₁.1]
  have hz₅ : IsZip h₅ z TI TO .ellipsis := hs₅.extBut _ _ O.TOz.symm (hs₄.extBut _ _ O.i2z.symm (hs₃.extBut _ _ O.TOz.symm (hs₂.extBut _ _ O.i1z.symm hz₁)))
  have hk₅ : ∀ c o, c ≠ z → c ≠ TO → c ≠ i1 → c ≠ i2 → s.heap.get? c = some o → h₅.get? c = some o := fun c o c1 c2 c3 c4 e =>
    hs₅.extBut _ _ c2 (hs₄.extBut _ _ c4 (hs₃.extBut _ _ c2 (hs₂.extBut _ _ c3 (hs₁.extBut _ _ c1 e))))
  have hzlt : z < h₅.objs.size := Heap.lt_size hz₅
  show wpAny _ _ (Builtin.SmallTypes.ownedTupleHandOut (.ref z) (.ref h₅.objs.size) >>= _) _ _ _
  refine wpAny_bind ?_
  unfold Builtin.SmallTypes.ownedTupleHandOut
  have hz₆ : IsZip (h₅.push { cls := .type "tuple", data := .seq #[x, y] }) z TI TO .ellipsis := Heap.get?_push_of_some _ hz₅
  refine wpAny_bind (wpAny_setField_rec hz₆ (by simp) fun h₇ hz₇ hs₇ => ?_)
  replace hz₇ : IsZip h₇ z TI TO (rawInt h₅.objs.size) := hz₇
  refine wpAny_setField_rec hz₇ (by simp) fun h₈ hz₈ hs₈ => ?_
  replace hz₈ : IsZip h₈ z TI TO (rawInt h₅.objs.size) := hz₈
  have up : ∀ c o, c ≠ z → h₅.get? c = some o → h₈.get? c = some o := fun c o c1 e => hs₈.extBut _ _ c1 (hs₇.extBut _ _ c1 (Heap.get?_push_of_some _ e))
  have hT₈ : IsPair h₈ h₅.objs.size x y := hs₈.extBut _ _ (Nat.ne_of_gt hzlt) (hs₇.extBut _ _ (Nat.ne_of_gt hzlt) (Heap.get?_push_size _ rfl))
  rw [hsz] at hz₈ hT₈
  refine wpAny_pure ⟨_, rfl, ?_⟩
  show Q (.ref h₅.objs.size) _
  rw [hsz]
  exact hQ x y h₈ _ hx hy hz₈ (up _ _ O.TOz hTO₅) (D1.frame _ _ _ e1 fun b hb o e => up b o (fun q => O.f1z (q ▸ hb)) e) (D2.frame _ _ _ e2 fun b hb o e => up b o (fun q => O.f2z (q ▸ hb)) e) hT₈ fun c o c1 c2 c3 c4 e => up c o c1 (hk₅ c o c1 c2 c3 c4 e)

theorem zipD_end {a b : Value} {Q : Fin → Shared → Prop} (O : ZipOff z TI TO i1 i2 f1 f2) (D1 : Draws P w A i1 f1 n P1 S1)
    (hz : IsZip s.heap z TI TO .none) (hTI : IsPair s.heap TI (.ref i1) (.ref i2)) (hTO : IsPair s.heap TO a b) (h1 : S1 n s.heap)
    (hE : ∀ h' e, (∀ c o, c ≠ z → c ≠ TO → c ≠ i1 → c ≠ i2 → s.heap.get? c = some o → h'.get? c = some o) → (∃ o, h'.get? e = some o ∧ o.cls = .type "StopIteration") → E (.ref e) { s with heap := h' }) :
    wpAny (model P w) A (Builtin.«zip.__next__» ⟨[.ref z], []⟩) Q E s := by
  show wpAny _ _ (field (.ref z) 2 >>= _) _ _ _
  refine wpAny_bind (wpAny_field hz rfl (x := .bool false) rfl ?_)
  show wpAny _ _ (field (.ref z) 3 >>= _) _ _ _
  refine wpAny_bind (wpAny_field hz rfl (x := .ref TI) rfl ?_)
  refine wpAny_bind (wpAny_seqItems hTI rfl ?_)
  show wpAny _ _ (Builtin.SmallTypes.ownedTupleIsFree (.ref z) >>= _) _ _ _
  refine wpAny_bind ?_
  unfold Builtin.SmallTypes.ownedTupleIsFree
  refine wpAny_bind (wpAny_field hz rfl (x := .none) rfl (wpAny_pure ?_))
  simp only [if_true]
  refine wpAny_bind (wpAny_rule ?_)
  refine wpAny_bind (wpAny_field hz rfl (x := .ref TO) rfl ?_)
  refine wpAny_bind (wpAny_setField_rec hz (by simp) fun h₁ hz₁ hs₁ => ?_)
  replace hz₁ : IsZip h₁ z TI TO .ellipsis := hz₁
  have a1 : S1 n h₁ := D1.frame _ _ _ h1 fun b hb o e => hs₁.extBut b o (fun q => O.f1z (q ▸ hb)) e
  refine wpAny_bind ?_
  simp only [List.zipIdx_cons, List.zipIdx_nil, List.forIn_cons, List.forIn_nil]
  refine wpAny_bind (wpAny_bind (wpAny_onRaise ?_))
  show wpAny _ _ (Builtin.SmallTypes.nextOf (.ref i1) >>= _) _ _ _
  refine wpAny_bind (D1.done { s with heap := h₁ } _ _ a1 fun h₂ e hs₂ he => ?_)
  obtain ⟨oe, hoe, hce⟩ := he
  have hz₂ : IsZip h₂ z TI TO .ellipsis := hs₂ _ _ O.i1z.symm hz₁
  have hez : e ≠ z := fun x => by subst x; rw [hz₂] at hoe; cases hoe; simp at hce
  refine wpAny_setField_rec hz₂ (by simp) fun h₃ _ hs₃ => hE h₃ e (fun c o c1 _ c3 _ x => hs₃.extBut _ _ c1 (hs₂ _ _ c3 (hs₁.extBut _ _ c1 x))) ⟨oe, hs₃.extBut _ _ hez hoe, hce⟩

theorem zipD_walk (O : ZipOff z TI TO i1 i2 f1 f2) (D1 : Draws P w A.in1 i1 f1 n P1 S1) (D2 : Draws P w A.in1 i2 f2 n P2 S2) :
    WalksT P w A z (z :: TI :: TO :: (f1 ++ f2)) [z, TO, i1, i2] n (fun i vals => ∃ x y, P1 i x ∧ P2 i y ∧ vals = #[x, y])
      (fun i h => IsZip h z TI TO .none ∧ IsPair h TI (.ref i1) (.ref i2) ∧ (∃ a b, IsPair h TO a b) ∧ S1 i h ∧ S2 i h)
      (fun i T h => IsZip h z TI TO (rawInt T) ∧ IsPair h TI (.ref i1) (.ref i2) ∧ (∃ a b, IsPair h TO a b) ∧ S1 (i + 1) h ∧ S2 (i + 1) h ∧ T ≠ z ∧ T ≠ TO ∧ T ≠ i1 ∧ T ≠ i2) where
  sub := fun c hc => by
    simp only [List.mem_cons, List.not_mem_nil, or_false] at hc
    rcases hc with rfl | rfl | rfl | rfl
    · simp
    · simp
    · simp [O.in1]
    · simp [O.in2]
  frame := fun i h h' hst hk => by
    obtain ⟨hz, hTI, ⟨a, b, hTO⟩, h1, h2⟩ := hst
    exact ⟨hk z (by simp) _ hz, hk TI (by simp) _ hTI, ⟨a, b, hk TO (by simp) _ hTO⟩, D1.frame _ _ _ h1 fun b hb o e => hk b (by simp [hb]) o e, D2.frame _ _ _ h2 fun b hb o e => hk b (by simp [hb]) o e⟩
  item := fun i s Q E hi hst hQ => by
    obtain ⟨hz, hTI, ⟨a, b, hTO⟩, h1, h2⟩ := hst
    have hT : s.TypeIs (.ref z) "zip" := ⟨_, hz, rfl⟩
    have lt : ∀ {c o}, s.heap.get? c = some o → s.heap.objs.size ≠ c := fun e => Nat.ne_of_gt (Heap.lt_size e)
    unfold pyNext
    refine wpAny_bind (wpAny_attempt (wpAny_callSpecial?_slot (name := Str.ofString "__next__") hT F.slot_zip_next
      (wpAny_call_entry F.slot_zip_next hT F.entry_zip_next
        (zipD_item O D1 D2 hi hz hTI hTO h1 h2 fun x y h' tk hx hy a1 a2 a3 a4 a5 hk => wpAny_pure ?_) (F.args_zip_next_1 _))))
    exact hQ s.heap.objs.size #[x, y] h' tk ⟨x, y, hx, hy, rfl⟩ (Nat.le_refl _) ⟨_, a5, rfl, _, rfl⟩
      ⟨a1, hk _ _ O.TIz O.TITO O.TIi1 O.TIi2 hTI, ⟨_, _, a2⟩, a3, a4, lt hz, lt hTO, (by obtain ⟨_, e⟩ := D1.live _ _ h1; exact lt e), (by obtain ⟨_, e⟩ := D2.live _ _ h2; exact lt e)⟩
      fun c o hc e => hk c o (fun x => hc (by simp [x])) (fun x => hc (by simp [x])) (fun x => hc (by simp [x])) (fun x => hc (by simp [x])) e
  go := fun elts k pos i T s Q E hm hQ => by
    obtain ⟨hz, hTI, ⟨a, b, hTO⟩, h1, h2, _⟩ := hm
    refine wpAny_letOwnedTupleGo_zip hz fun h' hz' hs' => hQ h' ⟨hz', hs'.extBut _ _ O.TIz hTI, ⟨a, b, hs'.extBut _ _ O.TOz hTO⟩, D1.frame _ _ _ h1 fun b hb o e => hs'.extBut b o (fun q => O.f1z (q ▸ hb)) e,
      D2.frame _ _ _ h2 fun b hb o e => hs'.extBut b o (fun q => O.f2z (q ▸ hb)) e⟩ fun c o hc e => hs'.extBut _ _ (fun x => hc (by simp [x])) e
  apart := fun i T h hm hT => by
    obtain ⟨_, _, _, _, _, t1, t2, t3, t4⟩ := hm
    simp only [List.mem_cons, List.not_mem_nil, or_false] at hT
    rcases hT with rfl | rfl | rfl | rfl
    · exact t1 rfl
    · exact t2 rfl
    · exact t3 rfl
    · exact t4 rfl
  done := fun s Q E hst hQ => by
    obtain ⟨hz, hTI, ⟨a, b, hTO⟩, h1, h2⟩ := hst
    have hT : s.TypeIs (.ref z) "zip" := ⟨_, hz, rfl⟩
    unfold pyNext
    refine wpAny_bind (wpAny_attempt (wpAny_callSpecial?_slot (name := Str.ofString "__next__") hT F.slot_zip_next
      (wpAny_call_entry F.slot_zip_next hT F.entry_zip_next (zipD_end O D1 hz hTI hTO h1 fun h' e hk he => ?_) (F.args_zip_next_1 _))))
    obtain ⟨o, ho, hc⟩ := he
    refine wpAny_bind (wpAny_isInstance (T := "StopIteration") (b := true) ⟨o, ho, hc⟩ isSubtype_stop ?_)
    exact wpAny_pure (hQ _ s.toks fun c o hc e => hk c o (fun x => hc (by simp [x])) (fun x => hc (by simp [x])) (fun x => hc (by simp [x])) (fun x => hc (by simp [x])) e)
  self := fun i s Q E hst hQ => wpAny_pyIter_zip hst.1 hQ
end
end Mine
end

/-! D3 -/
section
open PySem PySem.W PyProof.Rows PySem.Calls
set_option Elab.async false
set_option maxRecDepth 100000
namespace Mine

abbrev strIt (K : String) (x : Str) (t : Tok) : Obj := { cls := .type K, data := .fields #[.str x t, .int 0 0] }
def IterStr (K : String) (x : Str) (t : Tok) : Prop := ∀ (prog : Program) (w : World) (A : Around) (E : Value → Shared → Prop) (s : Shared) (Q : Value → Shared → Prop),
  Q (.ref s.heap.objs.size) { s with heap := s.heap.push (strIt K x t) } → wpAny (model prog w) A (pyIter (.str x t)) Q E s

section
variable {prog : Program} {w : World} {A : Around} {E : Value → Shared → Prop} {s : Shared}
theorem iterAll_sl {K : String} {x : Str} {t : Tok} {l2 : Addr} {ys : Array Value} {Q : List Value → Shared → Prop} (hK : IterStr K x t) (hl : s.heap.IsList l2 ys)
    (h : Q [.ref s.heap.objs.size, .ref (s.heap.push (strIt K x t)).objs.size] { s with heap := (s.heap.push (strIt K x t)).push { cls := .type "list_iterator", data := .fields #[.ref l2, .int 0 0] } }) :
    wpAny (model prog w) A (Builtin.SmallTypes.iterAll [.str x t, .ref l2]) Q E s := by
  unfold Builtin.SmallTypes.iterAll
  simp only [List.forIn_cons, List.forIn_nil]
  refine wpAny_bind (wpAny_bind (wpAny_bind (wpAny_holding (hK _ _ _ _ _ _ ?_))))
  refine wpAny_pure ?_
  refine wpAny_bind (wpAny_bind (wpAny_holding (wpAny_pyIter_list (hl.push _) ?_)))
  exact wpAny_pure (wpAny_pure (wpAny_pure h))

theorem zip_new_sl {K : String} {x : Str} {t : Tok} {l2 : Addr} {ys : Array Value} {Q : Fin → Shared → Prop} (hK : IterStr K x t) (hl : s.heap.IsList l2 ys)
    (h : ∀ h', IsZip h' (s.heap.objs.size + 4) (s.heap.objs.size + 2) (s.heap.objs.size + 3) .none → IsPair h' (s.heap.objs.size + 2) (.ref s.heap.objs.size) (.ref (s.heap.objs.size + 1)) →
      IsPair h' (s.heap.objs.size + 3) .none .none → h'.IsStrIter s.heap.objs.size K x t 0 → h'.IsListIter (s.heap.objs.size + 1) l2 0 → h'.objs.size = s.heap.objs.size + 5 →
      (∀ c o, s.heap.get? c = some o → h'.get? c = some o) → Q (.done (.ret (.ref (s.heap.objs.size + 4)))) { s with heap := h' }) :
    wpAny (model prog w) A (Builtin.«zip.__new__» ⟨[.type "zip", .str x t, .ref l2], []⟩) Q E s := by
  unfold Builtin.«zip.__new__» Builtin.SmallTypes.newClass
  dsimp only
  refine wpAny_bind (wpAny_bind (wpAny_of_eq (show isType (.type "zip") = pure true from rfl) ?_))
  show wpAny _ _ (isSubtype (.type "zip") (.type "zip") >>= _) _ _ _
  refine wpAny_bind (wpAny_of_eq sub_zip (wpAny_pure ?_))
  show wpAny _ _ (Builtin.SmallTypes.iterAll [.str x t, .ref l2] >>= _) _ _ _
  refine wpAny_bind (iterAll_sl hK hl ?_)
  have z1 : (s.heap.push (strIt K x t)).objs.size = s.heap.objs.size + 1 := Heap.size_push ..
  have g1 : (s.heap.push (strIt K x t)).get? s.heap.objs.size = some _ := Heap.get?_push_size _ rfl
  generalize hH1 : s.heap.push (strIt K x t) = H1 at z1 g1
  have k1 : ∀ c o, s.heap.get? c = some o → H1.get? c = some o := fun c o e => hH1 ▸ Heap.get?_push_of_some _ e
  have z2 : (H1.push { cls := .type "list_iterator", data := .fields #[.ref l2, .int 0 0] }).objs.size = s.heap.objs.size + 2 := by rw [Heap.size_push, z1]
  have g2 : (H1.push { cls := .type "list_iterator", data := .fields #[.ref l2, .int 0 0] }).get? H1.objs.size = some _ := Heap.get?_push_size _ rfl
  have k2 : ∀ c o, H1.get? c = some o → (H1.push { cls := .type "list_iterator", data := .fields #[.ref l2, .int 0 0] }).get? c = some o := fun c o e => Heap.get?_push_of_some _ e
  rw [z1] at g2 ⊢
  generalize H1.push { cls := .type "list_iterator", data := .fields #[.ref l2, .int 0 0] } = H2 at z2 g2 k2
  refine wpAny_bind (wpAny_newTuple ?_)
  have z3 : (H2.push { cls := .type "tuple", data := .seq (List.toArray [.ref s.heap.objs.size, .ref (s.heap.objs.size + 1)]) }).objs.size = s.heap.objs.size + 3 := by rw [Heap.size_push, z2]
  have g3 : (H2.push { cls := .type "tuple", data := .seq (List.toArray [.ref s.heap.objs.size, .ref (s.heap.objs.size + 1)]) }).get? H2.objs.size = some _ := Heap.get?_push_size _ rfl
  have k3 : ∀ c o, H2.get? c = some o → (H2.push { cls := .type "tuple", data := .seq (List.toArray [.ref s.heap.objs.size, .ref (s.heap.objs.size + 1)]) }).get? c = some o := fun c o e => Heap.get?_push_of_some _ e
  rw [z2] at g3
  show wpAny _ _ _ _ _ { s with heap := H2.push { cls := .type "tuple", data := .seq (List.toArray [.ref s.heap.objs.size, .ref (s.heap.objs.size + 1)]) } }
  show wpAny _ _ (newTuple _ >>= fun v => Builtin.SmallTypes.newRecord _ (_ ++ [.bool false, .ref H2.objs.size, v]) >>= _) _ _ _
  rw [z2]
  generalize H2.push { cls := .type "tuple", data := .seq (List.toArray [.ref s.heap.objs.size, .ref (s.heap.objs.size + 1)]) } = H3 at z3 g3 k3
  refine wpAny_bind (wpAny_newTuple ?_)
  show wpAny _ _ (Builtin.SmallTypes.newRecord _ (_ ++ [.bool false, .ref (s.heap.objs.size + 2), .ref H3.objs.size]) >>= _) _ _ { s with heap := H3.push { cls := .type "tuple", data := .seq (List.toArray [.none, .none]) } }
  have z4 : (H3.push { cls := .type "tuple", data := .seq (List.toArray [.none, .none]) }).objs.size = s.heap.objs.size + 4 := by rw [Heap.size_push, z3]
  have g4 : (H3.push { cls := .type "tuple", data := .seq (List.toArray [.none, .none]) }).get? H3.objs.size = some _ := Heap.get?_push_size _ rfl
  have k4 : ∀ c o, H3.get? c = some o → (H3.push { cls := .type "tuple", data := .seq (List.toArray [.none, .none]) }).get? c = some o := fun c o e => Heap.get?_push_of_some _ e
  rw [z3] at g4 ⊢
  generalize H3.push { cls := .type "tuple", data := .seq (List.toArray [.none, .none]) } = H4 at z4 g4 k4
  refine wpAny_bind ?_
  show wpAny _ _ (newObj (.type "zip") (.fields #[.none, .bool false, .bool false, .ref (s.heap.objs.size + 2), .ref (s.heap.objs.size + 3)])) _ _ _
  refine wpAny_newObj_type (wpAny_pure ?_)
  show Q (.done (.ret (.ref H4.objs.size))) { s with heap := H4.push { cls := .type "zip", data := .fields #[.none, .bool false, .bool false, .ref (s.heap.objs.size + 2), .ref (s.heap.objs.size + 3)] } }
  have z5 : (H4.push { cls := .type "zip", data := .fields #[.none, .bool false, .bool false, .ref (s.heap.objs.size + 2), .ref (s.heap.objs.size + 3)] }).objs.size = s.heap.objs.size + 5 := by rw [Heap.size_push, z4]
  have g5 : (H4.push { cls := .type "zip", data := .fields #[.none, .bool false, .bool false, .ref (s.heap.objs.size + 2), .ref (s.heap.objs.size + 3)] }).get? H4.objs.size = some _ := Heap.get?_push_size _ rfl
  have k5 : ∀ c o, H4.get? c = some o → (H4.push { cls := .type "zip", data := .fields #[.none, .bool false, .bool false, .ref (s.heap.objs.size + 2), .ref (s.heap.objs.size + 3)] }).get? c = some o := fun c o e => Heap.get?_push_of_some _ e
  rw [z4] at g5 ⊢
  exact h _ g5 (k5 _ _ (k4 _ _ g3)) (k5 _ _ g4) ⟨_, k5 _ _ (k4 _ _ (k3 _ _ (k2 _ _ g1))), rfl, rfl⟩ ⟨_, k5 _ _ (k4 _ _ (k3 _ _ g2)), rfl, rfl⟩ z5 fun c o e => k5 _ _ (k4 _ _ (k3 _ _ (k2 _ _ (k1 _ _ e))))
end

theorem meets_zip_sl (K : String) (x : Str) (t : Tok) (l2 : Addr) (ys : Array Value) (hK : IterStr K x t) :
    Meets (Builtin.«zip.__new__» ⟨[.type "zip", .str x t, .ref l2], []⟩) (fun _ R s => s.heap.IsList l2 ys ∧ ∀ h', IsZip h' (s.heap.objs.size + 4) (s.heap.objs.size + 2) (s.heap.objs.size + 3) .none → IsPair h' (s.heap.objs.size + 2) (.ref s.heap.objs.size) (.ref (s.heap.objs.size + 1)) →
      IsPair h' (s.heap.objs.size + 3) .none .none → h'.IsStrIter s.heap.objs.size K x t 0 → h'.IsListIter (s.heap.objs.size + 1) l2 0 → h'.objs.size = s.heap.objs.size + 5 →
      (∀ c o, s.heap.get? c = some o → h'.get? c = some o) → R (.ok (.ret (.ref (s.heap.objs.size + 4)))) { s with heap := h' }) :=
  .of_wp fun prog w A R s h => zip_new_sl hK h.1 fun h' a1 a2 a3 a4 a5 a6 a7 => ⟨_, rfl, h.2 h' a1 a2 a3 a4 a5 a6 a7⟩

section
variable {w : World} {A : Around} {E : Value → Shared → Prop} {s : Shared}
theorem call_zip_sl {K : String} {x : Str} {t : Tok} {l2 : Addr} {ys : Array Value} {Q : Value → Shared → Prop} (hK : IterStr K x t) (hl2 : s.heap.IsList l2 ys)
    (h : ∀ h', IsZip h' (s.heap.objs.size + 4) (s.heap.objs.size + 2) (s.heap.objs.size + 3) .none → IsPair h' (s.heap.objs.size + 2) (.ref s.heap.objs.size) (.ref (s.heap.objs.size + 1)) →
      IsPair h' (s.heap.objs.size + 3) .none .none → h'.IsStrIter s.heap.objs.size K x t 0 → h'.IsListIter (s.heap.objs.size + 1) l2 0 → h'.objs.size = s.heap.objs.size + 5 →
      (∀ c o, s.heap.get? c = some o → h'.get? c = some o) → Q (.ref (s.heap.objs.size + 4)) { s with heap := h' }) :
    wpAny (model P w) A (call (.type "zip") [.str x t, .ref l2]) Q E s := by
  refine callType_new F.called_zip (by decide) (F.typeCall_zip_2 _ _) (F.newCall_zip_2 _ _) (fun obj => F.args_object_init_3 obj _ _) F.entry_zip_new
    (meets_zip_sl K x t l2 ys hK) ⟨hl2, fun h' a1 a2 a3 a4 a5 a6 a7 => ?_⟩
  exact ⟨⟨_, a1, rfl⟩, h h' a1 a2 a3 a4 a5 a6 a7⟩
end
end Mine
end

/-! D4 -/
section
open PySem PySem.W PyProof.Rows PySem.Calls
set_option Elab.async false
set_option maxRecDepth 100000
namespace Mine

def EvTo (w : World) (A : Around) (env : Env) (e : Expr) (s : Shared) (R : Value → Heap → Prop) : Prop :=
  ∀ (E : Value → Shared → Prop) (Q : Value → Shared → Prop), (∀ v h' tk, R v h' → Sup s.heap h' → s.heap.objs.size ≤ h'.objs.size → Q v { s with heap := h', toks := tk }) → wpAny (model P w) A (eval e env) Q E s

theorem paired_at {α β : Type} {V : α → β → Prop} : ∀ {as : List α} {bs : List β}, Paired V as bs → ∀ (i : Nat) (a : α) (b : β), as[i]? = some a → bs[i]? = some b → V a b
  | _, _, .nil, i, a, b, h, _ => by simp at h
  | _, _, .cons hv r, 0, a, b, h, k => by
    obtain rfl := Option.some.inj h
    obtain rfl := Option.some.inj k
    exact hv
  | _, _, .cons hv r, i + 1, a, b, h, k => paired_at r i a b (by simpa using h) (by simpa using k)

section
variable {w : World} {A : Around} {E : Value → Shared → Prop} {s : Shared} {α : Type} {env : Env} {mg mb : Str → Option Value} {m : Str → Option Value}

theorem src_list {as : List α} {iter : Expr} {x : Str} {px : Pos} (V : α → Value → Prop) (hh : A.handled = none) (hev : EvTo w A env iter s (fun v h => ∃ l items, v = .ref l ∧ h.IsList l (List.toArray items) ∧ Paired V as items)) :
    SrcOk w A env iter (.Name x px) [x] as (fun a m => ∃ v, m x = some v ∧ V a v) s := fun E Q hQ => by
  refine hev _ _ fun v h' tk hR hs hle => ?_
  obtain ⟨l, items, rfl, hl, hp⟩ := hR
  have hllt : l < h'.objs.size := by obtain ⟨o, ho, _⟩ := hl; exact Heap.lt_size ho
  refine wpAny_pyIter_list (s := { s with heap := h', toks := tk }) hl ?_
  have W := Walks.list (prog := P) (w := w) (A := A) hh h'.objs.size l (Nat.ne_of_lt hllt) items.toArray
  rw [show items.toArray.size = as.length from by rw [List.size_toArray]; exact hp.length.symm] at W
  refine hQ h'.objs.size _ _ _ _ _ (Turns.name V W fun i a v ha hv => paired_at hp i a v ha (by simpa using hv)) ⟨⟨_, Heap.get?_push_size _ rfl, rfl, rfl⟩, hl.push _⟩ (fun b hb => ?_) (fun b hb => ?_) (fun b o e => Heap.get?_push_of_some _ (hs b o e)) ?_
  · simp only [List.mem_cons, List.not_mem_nil, or_false] at hb
    rcases hb with rfl | rfl
    · show h'.objs.size < (h'.push _).objs.size
      rw [Heap.size_push]; exact Nat.lt_succ_self _
    · show b < (h'.push _).objs.size
      rw [Heap.size_push]; exact Nat.lt_succ_of_lt hllt
  · simp only [List.mem_cons, List.not_mem_nil, or_false] at hb
    subst hb
    exact Heap.get?_none_of_le hle
  · show _ ≤ (h'.push _).objs.size
    rw [Heap.size_push]; exact Nat.le_succ_of_le hle

theorem src_str {X : Str} {iter : Expr} {x : Str} {px : Pos} (hh : A.handled = none) (hev : EvTo w A env iter s (fun v _ => ∃ t, v = .str X t)) :
    SrcOk w A env iter (.Name x px) [x] X.cps.toList (fun c m => ∃ v, m x = some v ∧ ∃ u, v = .str (sg c) u) s := fun E Q hQ => by
  refine hev _ _ fun v h' tk hR hs hle => ?_
  obtain ⟨t, rfl⟩ := hR
  refine wpAny_pyIter_str (s := { s with heap := h', toks := tk }) fun o St W hst => ?_
  have W := W A hh
  rw [show X.cps.size = X.cps.toList.length from by simp] at W
  refine hQ h'.objs.size _ _ _ _ _ (Turns.name (fun c v => ∃ u, v = .str (sg c) u) W fun i a v ha hv => ?_) hst (fun b hb => ?_) (fun b hb => ?_) (fun b o e => Heap.get?_push_of_some _ (hs b o e)) ?_
  · obtain ⟨c, u, hc, rfl⟩ := hv
    have : X.cps[i]? = some a := by simpa using ha
    rw [this] at hc
    obtain rfl := Option.some.inj hc
    exact ⟨u, rfl⟩
  · simp only [List.mem_cons, List.not_mem_nil, or_false] at hb
    subst hb
    show h'.objs.size < (h'.push _).objs.size
    rw [Heap.size_push]; exact Nat.lt_succ_self _
  · simp only [List.mem_cons, List.not_mem_nil, or_false] at hb
    subst hb
    exact Heap.get?_none_of_le hle
  · show _ ≤ (h'.push _).objs.size
    rw [Heap.size_push]; exact Nat.le_succ_of_le hle

theorem ev_local {x : Str} {px : Pos} {v : Value} {R : Value → Heap → Prop} (hE : FEnv env) (k1 : env.kindOf x = some .local) (hd : (x == ("__debug__" : Str)) = false) (hn : s.heap.Ns env.locals m) (m1 : m x = some v) (hR : R v s.heap) : EvTo w A env (.Name x px) s R :=
  fun _ _ hQ => nm_local hE k1 hd hn m1 (hQ v s.heap s.toks hR (fun _ _ e => e) (Nat.le_refl _))

theorem zip_off {N l1 l2 : Nat} (h1 : l1 < N) (h2 : l2 < N) : ZipOff (N + 4) (N + 2) (N + 3) N (N + 1) [N, l1] [N + 1, l2] where
  TIz := fun h => by have h' : (N + 2 : Nat) = N + 4 := h; omega
  TOz := fun h => by have h' : (N + 3 : Nat) = N + 4 := h; omega
  i1z := fun h => by have h' : (N : Nat) = N + 4 := h; omega
  i2z := fun h => by have h' : (N + 1 : Nat) = N + 4 := h; omega
  TITO := fun h => by have h' : (N + 2 : Nat) = N + 3 := h; omega
  TIi1 := fun h => by have h' : (N + 2 : Nat) = N := h; omega
  TIi2 := fun h => by have h' : (N + 2 : Nat) = N + 1 := h; omega
  TOi1 := fun h => by have h' : (N + 3 : Nat) = N := h; omega
  TOi2 := fun h => by have h' : (N + 3 : Nat) = N + 1 := h; omega
  i12 := fun h => by have h' : (N : Nat) = N + 1 := h; omega
  f1z := fun h => by
    simp only [List.mem_cons, List.not_mem_nil, or_false] at h
    rcases h with h | h
    · have h' : (N + 4 : Nat) = N := h
      omega
    · have h' : (N + 4 : Nat) = l1 := h
      omega
  f1O := fun h => by
    simp only [List.mem_cons, List.not_mem_nil, or_false] at h
    rcases h with h | h
    · have h' : (N + 3 : Nat) = N := h
      omega
    · have h' : (N + 3 : Nat) = l1 := h
      omega
  f12 := fun h => by
    simp only [List.mem_cons, List.not_mem_nil, or_false] at h
    rcases h with h | h
    · have h' : (N + 1 : Nat) = N := h
      omega
    · have h' : (N + 1 : Nat) = l1 := h
      omega
  f2z := fun h => by
    simp only [List.mem_cons, List.not_mem_nil, or_false] at h
    rcases h with h | h
    · have h' : (N + 4 : Nat) = N + 1 := h
      omega
    · have h' : (N + 4 : Nat) = l2 := h
      omega
  f2O := fun h => by
    simp only [List.mem_cons, List.not_mem_nil, or_false] at h
    rcases h with h | h
    · have h' : (N + 3 : Nat) = N + 1 := h
      omega
    · have h' : (N + 3 : Nat) = l2 := h
      omega
  f21 := fun h => by
    simp only [List.mem_cons, List.not_mem_nil, or_false] at h
    rcases h with h | h
    · have h' : (N : Nat) = N + 1 := h
      omega
    · have h' : (N : Nat) = l2 := h
      omega
  in1 := List.mem_cons_self ..
  in2 := List.mem_cons_self ..
theorem zip_off1 {N l2 : Nat} (h2 : l2 < N) : ZipOff (N + 4) (N + 2) (N + 3) N (N + 1) [N] [N + 1, l2] where
  TIz := fun h => by have h' : (N + 2 : Nat) = N + 4 := h; omega
  TOz := fun h => by have h' : (N + 3 : Nat) = N + 4 := h; omega
  i1z := fun h => by have h' : (N : Nat) = N + 4 := h; omega
  i2z := fun h => by have h' : (N + 1 : Nat) = N + 4 := h; omega
  TITO := fun h => by have h' : (N + 2 : Nat) = N + 3 := h; omega
  TIi1 := fun h => by have h' : (N + 2 : Nat) = N := h; omega
  TIi2 := fun h => by have h' : (N + 2 : Nat) = N + 1 := h; omega
  TOi1 := fun h => by have h' : (N + 3 : Nat) = N := h; omega
  TOi2 := fun h => by have h' : (N + 3 : Nat) = N + 1 := h; omega
  i12 := fun h => by have h' : (N : Nat) = N + 1 := h; omega
  f1z := fun h => by
    simp only [List.mem_cons, List.not_mem_nil, or_false] at h
    have h' : (N + 4 : Nat) = N := h
    omega
  f1O := fun h => by
    simp only [List.mem_cons, List.not_mem_nil, or_false] at h
    have h' : (N + 3 : Nat) = N := h
    omega
  f12 := fun h => by
    simp only [List.mem_cons, List.not_mem_nil, or_false] at h
    have h' : (N + 1 : Nat) = N := h
    omega
  f2z := fun h => by
    simp only [List.mem_cons, List.not_mem_nil, or_false] at h
    rcases h with h | h
    · have h' : (N + 4 : Nat) = N + 1 := h
      omega
    · have h' : (N + 4 : Nat) = l2 := h
      omega
  f2O := fun h => by
    simp only [List.mem_cons, List.not_mem_nil, or_false] at h
    rcases h with h | h
    · have h' : (N + 3 : Nat) = N + 1 := h
      omega
    · have h' : (N + 3 : Nat) = l2 := h
      omega
  f21 := fun h => by
    simp only [List.mem_cons, List.not_mem_nil, or_false] at h
    rcases h with h | h
    · have h' : (N : Nat) = N + 1 := h
      omega
    · have h' : (N : Nat) = l2 := h
      omega
  in1 := List.mem_cons_self ..
  in2 := List.mem_cons_self ..

theorem mem_lt {N l1 l2 c : Nat} (h1 : l1 < N) (h2 : l2 < N) (hc : c ∈ (N + 4) :: (N + 2) :: (N + 3) :: ([N, l1] ++ [N + 1, l2])) : c < N + 5 := by
  simp only [List.mem_cons, List.mem_append, List.not_mem_nil, or_false] at hc
  omega
theorem mem_lt1 {N l2 c : Nat} (h2 : l2 < N) (hc : c ∈ (N + 4) :: (N + 2) :: (N + 3) :: ([N] ++ [N + 1, l2])) : c < N + 5 := by
  simp only [List.mem_cons, List.mem_append, List.not_mem_nil, or_false] at hc
  omega
theorem wr_ge {N c : Nat} (hc : c ∈ [N + 4, N + 3, N, N + 1]) : N ≤ c := by
  simp only [List.mem_cons, List.not_mem_nil, or_false] at hc
  omega

theorem src_zip_ll {as : List α} {x y a b : Str} {p1 p2 p3 p4 pa pb tp : Pos} {kk : Nat} {l1 l2 : Addr} {items1 items2 : List Value} (V : α → Value → Value → Prop) (hh : A.handled = none) (hE : FEnv env) (F : FactsM w s.heap mg mb) (kz : env.kindOf "zip" = some .globalImplicit)
    (k1 : env.kindOf x = some .local) (hd1 : (x == ("__debug__" : Str)) = false) (k2 : env.kindOf y = some .local) (hd2 : (y == ("__debug__" : Str)) = false) (hn : s.heap.Ns env.locals m) (m1 : m x = some (.ref l1)) (m2 : m y = some (.ref l2))
    (hl1 : s.heap.IsList l1 (List.toArray items1)) (hl2 : s.heap.IsList l2 (List.toArray items2)) (e1 : items1.length = as.length) (e2 : items2.length = as.length) (hab : a ≠ b)
    (hV : ∀ (i : Nat) q u v, as[i]? = some q → items1[i]? = some u → items2[i]? = some v → V q u v) :
    SrcOk w A env (.Call (.Name "zip" p1) [.Name x p2, .Name y p3] [] p4) (.Tuple [.Name a pa, .Name b pb] kk tp) [a, b] as (fun q m => ∃ u v, m a = some u ∧ m b = some v ∧ V q u v) s := fun E Q hQ => by
  refine Call_ (nm_builtin hE kz (by decide) F (un_zip F) (by decide) b_zip ?_)
  refine PyProof.Rows.callWith_type1 (args_cons (nm_local hE k1 hd1 hn m1 (args_cons (nm_local hE k2 hd2 hn m2 (args_nil ?_)))))
  have lt1 : l1 < s.heap.objs.size := by obtain ⟨o, ho, _⟩ := hl1; exact Heap.lt_size ho
  have lt2 : l2 < s.heap.objs.size := by obtain ⟨o, ho, _⟩ := hl2; exact Heap.lt_size ho
  refine call_zip_2 hl1 hl2 fun h' a1 a2 a3 a4 a5 a6 a7 => ?_
  refine wpAny_pyIter_zip a1 ?_
  have D1 := Draws.list (prog := P) (w := w) (A := A.in1) hh s.heap.objs.size l1 (Nat.ne_of_lt lt1) items1.toArray
  have D2 := Draws.list (prog := P) (w := w) (A := A.in1) hh (s.heap.objs.size + 1) l2 (Nat.ne_of_lt (Nat.lt_succ_of_lt lt2)) items2.toArray
  rw [show items1.toArray.size = as.length from by rw [List.size_toArray, e1]] at D1
  rw [show items2.toArray.size = as.length from by rw [List.size_toArray, e2]] at D2
  refine hQ (s.heap.objs.size + 4) _ _ _ h' s.toks (Turns.pair hh hab V (zipD_walk (zip_off lt1 lt2) D1 D2) fun i q vs hq hv => ?_) ⟨a1, a2, ⟨_, _, a3⟩, ⟨a4, hl1.at fun o e => a7 _ o e⟩, ⟨a5, hl2.at fun o e => a7 _ o e⟩⟩ (fun c hc => ?_) (fun c hc => ?_) a7 (by rw [a6]; exact Nat.le_add_right _ _)
  · obtain ⟨u, v, hu, hv, rfl⟩ := hv
    exact ⟨u, v, rfl, hV i q u v hq (by simpa using hu) (by simpa using hv)⟩
  · rw [a6]; exact mem_lt lt1 lt2 hc
  · exact Heap.get?_none_of_le (wr_ge hc)

theorem src_zip_sl {as : List α} {x y a b : Str} {p1 p2 p3 p4 pa pb tp : Pos} {kk : Nat} {X : Str} {t : Tok} {l2 : Addr} {items2 : List Value} (V : α → Value → Value → Prop) (hh : A.handled = none) (hE : FEnv env) (F : FactsM w s.heap mg mb) (kz : env.kindOf "zip" = some .globalImplicit)
    (k1 : env.kindOf x = some .local) (hd1 : (x == ("__debug__" : Str)) = false) (k2 : env.kindOf y = some .local) (hd2 : (y == ("__debug__" : Str)) = false) (hn : s.heap.Ns env.locals m) (m1 : m x = some (.str X t)) (m2 : m y = some (.ref l2))
    (hl2 : s.heap.IsList l2 (List.toArray items2)) (e1 : X.cps.size = as.length) (e2 : items2.length = as.length) (hab : a ≠ b)
    (hV : ∀ (i : Nat) q c u v, as[i]? = some q → X.cps[i]? = some c → items2[i]? = some v → V q (.str (sg c) u) v) :
    SrcOk w A env (.Call (.Name "zip" p1) [.Name x p2, .Name y p3] [] p4) (.Tuple [.Name a pa, .Name b pb] kk tp) [a, b] as (fun q m => ∃ u v, m a = some u ∧ m b = some v ∧ V q u v) s := fun E Q hQ => by
  refine Call_ (nm_builtin hE kz (by decide) F (un_zip F) (by decide) b_zip ?_)
  refine PyProof.Rows.callWith_type1 (args_cons (nm_local hE k1 hd1 hn m1 (args_cons (nm_local hE k2 hd2 hn m2 (args_nil ?_)))))
  have lt2 : l2 < s.heap.objs.size := by obtain ⟨o, ho, _⟩ := hl2; exact Heap.lt_size ho
  have main : ∀ (K : String) (hK : IterStr K X t) (D1 : Draws P w A.in1 s.heap.objs.size [s.heap.objs.size] X.cps.size (fun i v => ∃ c u, X.cps[i]? = some c ∧ v = .str ⟨#[c]⟩ u) (fun i h => h.IsStrIter s.heap.objs.size K X t i)),
      wpAny (model P w) A (call (.type "zip") [.str X t, .ref l2]) (fun xv s₁ => wpAny (model P w) A (pyIter xv) Q E s₁) E s := fun K hK D1 => by
    refine call_zip_sl hK hl2 fun h' a1 a2 a3 a4 a5 a6 a7 => ?_
    refine wpAny_pyIter_zip a1 ?_
    have D2 := Draws.list (prog := P) (w := w) (A := A.in1) hh (s.heap.objs.size + 1) l2 (Nat.ne_of_lt (Nat.lt_succ_of_lt lt2)) items2.toArray
    rw [e1] at D1
    rw [show items2.toArray.size = as.length from by rw [List.size_toArray, e2]] at D2
    refine hQ (s.heap.objs.size + 4) _ _ _ h' s.toks (Turns.pair hh hab V (zipD_walk (zip_off1 lt2) D1 D2) fun i q vs hq hv => ?_) ⟨a1, a2, ⟨_, _, a3⟩, a4, ⟨a5, hl2.at fun o e => a7 _ o e⟩⟩ (fun c hc => ?_) (fun c hc => ?_) a7 (by rw [a6]; exact Nat.le_add_right _ _)
    · obtain ⟨u, v, ⟨c, tu, hc, rfl⟩, hv, rfl⟩ := hv
      exact ⟨_, v, rfl, hV i q c tu v hq hc (by simpa using hv)⟩
    · rw [a6]; exact mem_lt1 lt2 hc
    · exact Heap.get?_none_of_le (wr_ge hc)
  cases ha : X.cps.all (· < 128)
  · exact main "str_iterator" (fun _ _ _ _ _ _ q => wpAny_pyIter_wide ha q) (Draws.strWide (A := A.in1) hh _ X t)
  · exact main "str_ascii_iterator" (fun _ _ _ _ _ _ q => wpAny_pyIter_ascii ha q) (Draws.strAscii (A := A.in1) hh _ X t)
end
end Mine
end

/-! C9 -/
section
open PySem PySem.W PyProof.Rows PySem.Calls
set_option Elab.async false
set_option maxRecDepth 100000
namespace Mine

def b1B (c : Nat) : Bool := (setOf 1).any (· == (c : Int))
def barB (c : Nat) : List Bool := [c4B c, (setOf 7).any (· == (c : Int)), (setOf 9).any (· == (c : Int)), (setOf 11).any (· == (c : Int)), (setOf 13).any (· == (c : Int))]

section
variable {w : World} {A : Around} {E : Value → Shared → Prop} {s : Shared} {mg mb : Str → Option Value} {Q : Value → Shared → Prop} {env : Env} {m : Str → Option Value}

/-- a call of a def of the text with a local name -/
theorem ev_call1 {f x : Str} {i : Nat} {p1 p2 p3 : Pos} {v : Value} (hE : FEnv env) (F : FactsM w s.heap mg mb) (hf : FnG mg s.heap i f) (kf : env.kindOf f = some .globalImplicit) (hdf : (f == ("__debug__" : Str)) = false)
    (kx : env.kindOf x = some .local) (hdx : (x == ("__debug__" : Str)) = false) (hn : s.heap.Ns env.locals m) (hm : m x = some v)
    (h : ∃ a, mg f = some (.ref a) ∧ wpAny (model P w) A (call (.ref a) [v]) Q E s) : wpAny (model P w) A (eval (.Call (.Name f p1) [.Name x p2] [] p3) env) Q E s := by
  obtain ⟨a, ha, hc⟩ := h
  obtain ⟨a', ha', pm, c', doc, ho, _⟩ := hf
  rw [ha] at ha'
  obtain rfl : a = a' := by simpa using ha'
  refine Call_ (nm_global hE kf hdf F ha ?_)
  exact callWith_def (hdat := rfl) (args_cons (nm_local hE kx hdx hn hm (args_nil ⟨ho, hc⟩)))

def BarBody (b : List Stmt) : Prop := ∃ p1 p2 p3 p4 p5 p6 p7 p8 p9 p10 p11 p12 p13 p14 p15 p16 p17, b = [.Return (some (.List [.Call (.Name "in_table_c4" p1) [.Name "sign" p2] [] p3, .Call (.Name "in_table_c6" p4) [.Name "sign" p5] [] p6, .Call (.Name "in_table_c7" p7) [.Name "sign" p8] [] p9, .Call (.Name "in_table_c8" p10) [.Name "sign" p11] [] p12, .Call (.Name "in_table_c9" p13) [.Name "sign" p14] [] p15] p16)) p17]
theorem sb19 : BarBody (fdBody (stm 19)) := by with_unfolding_all exact ⟨_, _, _, _, _, _, _, _, _, _, _, _, _, _, _, _, _, rfl⟩

theorem law_barred {c : Nat} {t : Tok} (F : FactsM w s.heap mg mb) (hr : Room A 2)
    (h : ∀ D h' tk, s.heap.objs.size ≤ D → h'.PlainList D (List.toArray ((barB c).map Value.bool)) → Sup s.heap h' → Q (.ref D) { s with heap := h', toks := tk }) :
    ∃ a, mg "_law_barred" = some (.ref a) ∧ wpAny (model P w) A (call (.ref a) [.str (sg c) t]) Q E s := by
  obtain ⟨a, ha, ho⟩ := F.f19
  obtain ⟨p1, p2, p3, p4, p5, p6, p7, p8, p9, p10, p11, p12, p13, p14, p15, p16, p17, hb⟩ := sb19
  refine ⟨a, ha, call_fn (binds := [("sign", .str (sg c) t)]) ho F.lim (by have := hr.depth; omega) (fun _ _ _ => by kernel_rfl) (by kernel_rfl) (by kernel_rfl) (by kernel_rfl) fun env h₀ hE hes hF => ?_⟩
  rw [hb]
  have hkind : ∀ x, env.kindOf x = kn 19 x := fun x => by unfold Env.kindOf kn; rw [hes]
  have k_s : env.kindOf "sign" = some .local := by rw [hkind]; kernel_rfl
  have k_4 : env.kindOf "in_table_c4" = some .globalImplicit := by rw [hkind]; kernel_rfl
  have k_6 : env.kindOf "in_table_c6" = some .globalImplicit := by rw [hkind]; kernel_rfl
  have k_7 : env.kindOf "in_table_c7" = some .globalImplicit := by rw [hkind]; kernel_rfl
  have k_8 : env.kindOf "in_table_c8" = some .globalImplicit := by rw [hkind]; kernel_rfl
  have k_9 : env.kindOf "in_table_c9" = some .globalImplicit := by rw [hkind]; kernel_rfl
  have hr1 : Room (A.deeper env) 1 := hr.deeper env
  refine wpAny_execs_cons (wpAny_Return_some (List_ (args_cons ?_)))
  have F0 := F.keeps hF.keep
  refine ev_call1 (s := { s with heap := h₀, toks := _ }) hE F0 F0.f6 k_4 (by decide) k_s (by decide) hF.ns rfl (in_c4 F0 hr1 fun h₁ tk₁ u₁ => args_cons ?_)
  have F1 := F0.keeps u₁
  refine ev_call1 (s := { s with heap := h₁, toks := tk₁ }) hE F1 F1.f8 k_6 (by decide) k_s (by decide) (hF.ns.keeps u₁) rfl (in_c6 F1 hr1 fun h₂ tk₂ u₂ => args_cons ?_)
  have F2 := F1.keeps u₂
  refine ev_call1 (s := { s with heap := h₂, toks := tk₂ }) hE F2 F2.f10 k_7 (by decide) k_s (by decide) ((hF.ns.keeps u₁).keeps u₂) rfl (in_c7 F2 hr1 fun h₃ tk₃ u₃ => args_cons ?_)
  have F3 := F2.keeps u₃
  refine ev_call1 (s := { s with heap := h₃, toks := tk₃ }) hE F3 F3.f12 k_8 (by decide) k_s (by decide) (((hF.ns.keeps u₁).keeps u₂).keeps u₃) rfl (in_c8 F3 hr1 fun h₄ tk₄ u₄ => args_cons ?_)
  have F4 := F3.keeps u₄
  refine ev_call1 (s := { s with heap := h₄, toks := tk₄ }) hE F4 F4.f14 k_9 (by decide) k_s (by decide) ((((hF.ns.keeps u₁).keeps u₂).keeps u₃).keeps u₄) rfl (in_c9 F4 hr1 fun h₅ tk₅ u₅ => args_nil ?_)
  refine wpAny_newList ?_ (by show (5 : Nat) ≤ sizeLine; rw [sizeLine_eq]; omega)
  have up : Sup s.heap h₅ := fun b o e => u₅ b o (u₄ b o (u₃ b o (u₂ b o (u₁ b o (hF.keep b o e)))))
  refine h h₅.objs.size _ _ ?_ ⟨0, Heap.get?_push_size _ rfl⟩ fun b o e => Heap.get?_push_of_some _ (up b o e)
  refine Nat.le_trans hF.above (Nat.le_of_lt ?_)
  exact (((((hF.ns.keeps u₁).keeps u₂).keeps u₃).keeps u₄).keeps u₅).lt
end
end Mine
end

/-! E1 -/
section
open PySem PySem.W PyProof.Rows PySem.Calls
set_option Elab.async false
set_option maxRecDepth 100000
namespace Mine

def ScopeIs (scope : Scope) (ns : List (Str × NameKind)) : Prop := scope.kind = .function ∧ scope.names = ns
def okNames (ns : List (Str × NameKind)) (names : List Str) : Bool := (ns.all fun y => y.2 != .cell) && (ns.all fun y => y.2 != .local || ns.lookup y.1 == some .local) && (names.all fun x => ns.lookup x == some .local)

theorem relabel_plain {env : Env} : ∀ {names : List (Str × NameKind)} {x : Str} {k₀ : NameKind}, names.lookup x = some k₀ → (k₀ == NameKind.free) = false →
    (names.map fun (n, k) => if (k == NameKind.free && env.scope.kind == .function && env.kindOf n == some .cell) then (n, NameKind.cell) else (n, k)).lookup x = some k₀
  | [], _, _, h, _ => by simp at h
  | (n, k) :: r, x, k₀, h, hk => by
    have ih := @relabel_plain env r x k₀
    show List.lookup x ((if (k == NameKind.free && env.scope.kind == .function && env.kindOf n == some .cell) = true then (n, NameKind.cell) else (n, k)) :: _) = _
    cases hx : x == n with
    | true =>
      simp only [List.lookup_cons, hx] at h
      cases h
      simp [List.lookup_cons, hx, hk]
    | false =>
      simp only [List.lookup_cons, hx] at h
      by_cases hc : (k == NameKind.free && env.scope.kind == .function && env.kindOf n == some .cell) = true
      · rw [if_pos hc]; simp only [List.lookup_cons, hx]; exact ih h hk
      · rw [if_neg hc]; simp only [List.lookup_cons, hx]; exact ih h hk
theorem relabel_free {env : Env} (hE : env.scope.kind = .function) : ∀ {names : List (Str × NameKind)} {x : Str}, names.lookup x = some .free → env.kindOf x = some .cell →
    (names.map fun (n, k) => if (k == NameKind.free && env.scope.kind == .function && env.kindOf n == some .cell) then (n, NameKind.cell) else (n, k)).lookup x = some .cell
  | [], _, h, _ => by simp at h
  | (n, k) :: r, x, h, hc' => by
    have ih := @relabel_free env hE r x
    show List.lookup x ((if (k == NameKind.free && env.scope.kind == .function && env.kindOf n == some .cell) = true then (n, NameKind.cell) else (n, k)) :: _) = _
    cases hx : x == n with
    | true =>
      simp only [List.lookup_cons, hx] at h
      cases h
      have e : x = n := beq_iff_eq.mp hx
      subst e
      simp [List.lookup_cons, hE, hc']
    | false =>
      simp only [List.lookup_cons, hx] at h
      by_cases hc : (k == NameKind.free && env.scope.kind == .function && env.kindOf n == some .cell) = true
      · rw [if_pos hc]; simp only [List.lookup_cons, hx]; exact ih h hc'
      · rw [if_neg hc]; simp only [List.lookup_cons, hx]; exact ih h hc'

section
variable {w : World} {A : Around} {E : Value → Shared → Prop} {s : Shared} {α : Type} {env : Env} {scope : Scope} {ns : List (Str × NameKind)} {cl : List (Str × Addr)} {C : Addr}

theorem FEnv.comp (hE : FEnv env) (hs : ScopeIs scope ns) : FEnv (compEnvC scope cl C env) := ⟨hs.1, hE.globals, hE.builtins⟩
theorem kc {x : Str} {k : NameKind} (hs : ScopeIs scope ns) (h : ns.lookup x = some k) (hk : (k == NameKind.free) = false) : (compEnvC scope cl C env).kindOf x = some k :=
  relabel_plain (hs.2 ▸ h) hk
theorem kc_free {x : Str} (hE : env.scope.kind = .function) (hs : ScopeIs scope ns) (h : ns.lookup x = some .free) (hc : env.kindOf x = some .cell) : (compEnvC scope cl C env).kindOf x = some .cell :=
  relabel_free hE (hs.2 ▸ h) hc

theorem clos_go (f : Str × NameKind → List (Str × Addr) → Sem (ForInStep (List (Str × Addr)))) (hf : ∀ n k acc, (k == NameKind.free) = false → f (n, k) acc = pure (.yield acc)) :
    ∀ (names : List (Str × NameKind)) (acc : List (Str × Addr)), (names.all fun y => !(y.2 == .free)) = true → forIn names acc f = pure acc
  | [], acc, _ => by rw [List.forIn_nil]
  | (n, k) :: r, acc, h => by
    simp only [List.all_cons, Bool.and_eq_true] at h
    rw [List.forIn_cons, hf n k acc (by simpa using h.1)]
    show forIn r acc f = _
    exact clos_go f hf r acc h.2
theorem clos_none (hs : ScopeIs scope ns) (h : (ns.all fun y => !(y.2 == .free)) = true) : closureFor scope env = pure [] := by
  unfold closureFor
  dsimp only
  rw [hs.2, clos_go _ (fun n k acc hk => by simp [hk]) ns [] h]
  rfl
theorem clos_go1 (f : Str × NameKind → List (Str × Addr) → Sem (ForInStep (List (Str × Addr)))) (x : Str) (c : Addr) (hf : ∀ n k acc, (k == NameKind.free) = false → f (n, k) acc = pure (.yield acc)) (h1 : ∀ acc, f (x, .free) acc = pure (.yield ((x, c) :: acc))) :
    ∀ (names : List (Str × NameKind)) (acc : List (Str × Addr)), (names.all fun y => !(y.2 == .free)) = true → forIn (names ++ [(x, NameKind.free)]) acc f = pure ((x, c) :: acc)
  | [], acc, _ => by
    show forIn [(x, NameKind.free)] acc f = _
    rw [List.forIn_cons, h1]
    show forIn [] _ f = _
    rw [List.forIn_nil]
  | (n, k) :: r, acc, h => by
    simp only [List.all_cons, Bool.and_eq_true] at h
    rw [List.cons_append, List.forIn_cons, hf n k acc (by simpa using h.1)]
    show forIn (r ++ _) acc f = _
    exact clos_go1 f x c hf h1 r acc h.2
theorem clos_one {x : Str} {c : Addr} {init : List (Str × NameKind)} (hs : ScopeIs scope (init ++ [(x, NameKind.free)])) (h : (init.all fun y => !(y.2 == .free)) = true) (hc : env.cells.lookup x = some c) : closureFor scope env = pure [(x, c)] := by
  unfold closureFor
  dsimp only
  rw [hs.2, clos_go1 _ x c (fun n k acc hk => by simp [hk]) (fun acc => by simp [cellOf, hc]) init [] h]
  rfl

theorem ok_cell {names : List Str} (hs : ScopeIs scope ns) (h : okNames ns names = true) : ∀ y ∈ scope.names, y.2 ≠ .cell := fun y hy => by
  rw [hs.2] at hy
  simp only [okNames, Bool.and_eq_true] at h
  simpa using List.all_eq_true.mp h.1.1 y hy
theorem ok_names {names : List Str} (hs : ScopeIs scope ns) (h : okNames ns names = true) : ∀ y ∈ scope.names, y.2 = .local → scope.names.lookup y.1 = some .local := fun y hy hl => by
  rw [hs.2] at hy ⊢
  simp only [okNames, Bool.and_eq_true] at h
  have := List.all_eq_true.mp h.1.2 y hy
  rw [hl] at this
  simpa using this
theorem ok_x {names : List Str} (hs : ScopeIs scope ns) (h : okNames ns names = true) : ∀ x ∈ names, scope.names.lookup x = some .local := fun x hx => by
  rw [hs.2]
  simp only [okNames, Bool.and_eq_true] at h
  simpa using List.all_eq_true.mp h.2 x hx

/-- lists of one content -/
def EqTrue (x y : Value) : Prop := ∀ (A : Around) (s : Shared), SeqAt.EqAt A s x y true
theorem all_true (n : Nat) : (List.range n).all (fun _ => true) = true := by simp
theorem cmp_ne {l b : Addr} {xs ys : List Value} {Q : Value → Shared → Prop} (hl : s.heap.IsList l (List.toArray xs)) (hb : s.heap.IsList b (List.toArray ys)) (he : Paired EqTrue xs ys) (hu : A.units < cLine) (h : Q (.bool false) s) :
    wpAny (model P w) A (compareOp .NotEq (.ref l) (.ref b)) Q E s := by
  refine SeqAt.RcNeAt.lists (e := fun _ => true) hl hb (by simpa using he.length) hu (fun j h1 h2 => ?_) P w E Q ?_
  · exact paired_at he j _ _ (by simp at h1; simp [h1]) (by simp at h2; simp [h2]) _ _
  · rw [all_true]; exact h
theorem cmp_eq {l b : Addr} {xs ys : List Value} {Q : Value → Shared → Prop} (hl : s.heap.IsList l (List.toArray xs)) (hb : s.heap.IsList b (List.toArray ys)) (he : Paired EqTrue xs ys) (hu : A.units < cLine) (h : Q (.bool true) s) :
    wpAny (model P w) A (compareOp .Eq (.ref l) (.ref b)) Q E s := by
  refine SeqAt.eq_listAt (e := fun _ => true) hl hb (by simpa using he.length) hu (fun j h1 h2 => ?_) ?_
  · exact paired_at he j _ _ (by simp at h1; simp [h1]) (by simp at h2; simp [h2]) _ _
  · rw [all_true]; exact h
theorem eqTrue_str {a : Str} {t u : Tok} : EqTrue (.str a t) (.str a u) := fun A s => by
  have := SeqAt.EqAt.str_str (A := A) (s := s) a t a u
  rwa [beq_self_eq_true] at this
theorem eqTrue_bool {a : Bool} : EqTrue (.bool a) (.bool a) := fun A s => by
  have := SeqAt.EqAt.bool_bool (A := A) (s := s) a a
  rwa [beq_self_eq_true] at this
theorem strs_eq : ∀ {xs ys : List Value} {as : List Str}, StrsAre xs as → StrsAre ys as → Paired EqTrue xs ys
  | _, _, _, .nil, .nil => .nil
  | _, _, _, .cons y t r, .cons _ u q => .cons eqTrue_str (strs_eq r q)
theorem strs_of {f : α → Str} : ∀ {as : List α} {ys : List Value}, Paired (fun a y => ∃ t, y = .str (f a) t) as ys → StrsAre ys (as.map f)
  | _, _, .nil => .nil
  | _, _, .cons ⟨t, e⟩ r => by subst e; exact .cons _ t (strs_of r)
theorem bools_of {f : α → Bool} : ∀ {as : List α} {ys : List Value}, Paired (fun a y => y = .bool (f a)) as ys → ys = (as.map f).map Value.bool
  | _, _, .nil => rfl
  | _, _, .cons e r => by subst e; rw [bools_of r]; rfl
theorem bools_eq : ∀ (bs : List Bool), Paired EqTrue (bs.map Value.bool) (bs.map Value.bool)
  | [] => .nil
  | _ :: r => .cons eqTrue_bool (bools_eq r)
end
end Mine
end

/-! E2 -/
section
open PySem PySem.W PyProof.Rows PySem.Calls
set_option Elab.async false
set_option maxRecDepth 100000
namespace Mine

def C0 (pos : Pos) (e : Expr) : Prop := ∃ scope z1 z2 y3 z4 z5 z6 z7 z8 y9 z10 y11 z12 y13 z14 z15 z16 y17 z18 z19 z20 z21, e = .ListComp (.Call (.Name "_law_spot" z1) [.BinOp (.Name "number" z2) .Mod (.Constant (.int 1000000) y3 z4) z5, .Name "runs" z6] [] z7) [⟨.Name "number" z8, .BinOp (.List [.Constant (.int 129) y9 z10, .Constant (.int 3561) y11 z12, .Constant (.int 136) y13 z14] z15) .Add (.Subscript (.Name "script" z16) (.Slice none (some (.Constant (.int 32) y17 z18)) none z19) z20) z21, [], 0⟩] scope pos ∧ ScopeIs scope [(".0", NameKind.local), ("number", NameKind.local), ("_law_spot", NameKind.globalImplicit), ("runs", NameKind.free)]
def C1 (pos : Pos) (e : Expr) : Prop := ∃ scope z1 z2 z3 z4 z5 z6, e = .ListComp (.Call (.Name "_law_kind" z1) [.Name "spot" z2, .Name "runs" z3] [] z4) [⟨.Name "spot" z5, .Name "spots" z6, [], 0⟩] scope pos ∧ ScopeIs scope [(".0", NameKind.local), ("spot", NameKind.local), ("_law_kind", NameKind.globalImplicit), ("runs", NameKind.free)]
def C2 (pos : Pos) (e : Expr) : Prop := ∃ scope z1 z2 z3 z4 z5, e = .ListComp (.Call (.Name "chr" z1) [.Name "spot" z2] [] z3) [⟨.Name "spot" z4, .Name "spots" z5, [], 0⟩] scope pos ∧ ScopeIs scope [(".0", NameKind.local), ("spot", NameKind.local), ("chr", NameKind.globalImplicit)]
def C3 (pos : Pos) (e : Expr) : Prop := ∃ scope z1 z2 z3 z4 z5, e = .ListComp (.Call (.Name "map_table_b3" z1) [.Name "sign" z2] [] z3) [⟨.Name "sign" z4, .Name "text" z5, [], 0⟩] scope pos ∧ ScopeIs scope [(".0", NameKind.local), ("sign", NameKind.local), ("map_table_b3", NameKind.globalImplicit)]
def C4 (pos : Pos) (e : Expr) : Prop := ∃ scope z1 z2 z3 z4 z5, e = .ListComp (.Call (.Name "in_table_b1" z1) [.Name "sign" z2] [] z3) [⟨.Name "sign" z4, .Name "text" z5, [], 0⟩] scope pos ∧ ScopeIs scope [(".0", NameKind.local), ("sign", NameKind.local), ("in_table_b1", NameKind.globalImplicit)]
def C5 (pos : Pos) (e : Expr) : Prop := ∃ scope z1 y2 z3 z4 z5 z6, e = .ListComp (.Compare (.Name "kind" z1) [.Eq] [.Constant (.int 0) y2 z3] z4) [⟨.Name "kind" z5, .Name "kinds" z6, [], 0⟩] scope pos ∧ ScopeIs scope [(".0", NameKind.local), ("kind", NameKind.local)]
def C6 (pos : Pos) (e : Expr) : Prop := ∃ scope z1 z2 z3 y4 z5 z6 z7 z8 z9 z10 y11 z12 z13, e = .ListComp (.Name "small" z1) [⟨.Tuple [.Name "small" z2, .Name "kind" z3] y4 z5, .Call (.Name "zip" z6) [.Name "mapped" z7, .Name "kinds" z8] [] z9, [.Compare (.Name "kind" z10) [.Lt] [.Constant (.int 6) y11 z12] z13], 0⟩] scope pos ∧ ScopeIs scope [(".0", NameKind.local), ("small", NameKind.local), ("kind", NameKind.local)]
def C7 (pos : Pos) (e : Expr) : Prop := ∃ scope z1 z2 z3 y4 z5 z6 z7 z8 z9 z10 y11 z12 z13, e = .ListComp (.Name "sign" z1) [⟨.Tuple [.Name "sign" z2, .Name "kind" z3] y4 z5, .Call (.Name "zip" z6) [.Name "text" z7, .Name "kinds" z8] [] z9, [.Compare (.Name "kind" z10) [.Lt] [.Constant (.int 6) y11 z12] z13], 0⟩] scope pos ∧ ScopeIs scope [(".0", NameKind.local), ("sign", NameKind.local), ("kind", NameKind.local)]
def C8 (pos : Pos) (e : Expr) : Prop := ∃ scope z1 z2 z3 z4 z5 z6 z7 z8 z9, e = .ListComp (.Call (.Name "map_table_b3" z1) [.Name "sign" z2] [] z3) [⟨.Name "sign" z4, .Name "text" z5, [.UnaryOp .Not (.Call (.Name "in_table_b1" z6) [.Name "sign" z7] [] z8) z9], 0⟩] scope pos ∧ ScopeIs scope [(".0", NameKind.local), ("sign", NameKind.local), ("in_table_b1", NameKind.globalImplicit), ("map_table_b3", NameKind.globalImplicit)]
def C9 (pos : Pos) (e : Expr) : Prop := ∃ scope z1 z2 y3 z4 z5 z6 z7 z8 z9 z10 z11, e = .ListComp (.Name "sign" z1) [⟨.Name "sign" z2, .Call (.Attribute (.Constant (.str "") y3 z4) "join" z5) [.Name "mapped" z6] [] z7, [.UnaryOp .Not (.Call (.Name "in_table_b1" z8) [.Name "sign" z9] [] z10) z11], 0⟩] scope pos ∧ ScopeIs scope [(".0", NameKind.local), ("sign", NameKind.local), ("in_table_b1", NameKind.globalImplicit)] ∧ (z5.endLine == z7.line) = true
def C10 (pos : Pos) (e : Expr) : Prop := ∃ scope z1 z2 z3 z4 z5, e = .ListComp (.Call (.Name "_law_barred" z1) [.Name "sign" z2] [] z3) [⟨.Name "sign" z4, .Name "kept" z5, [], 0⟩] scope pos ∧ ScopeIs scope [(".0", NameKind.local), ("sign", NameKind.local), ("_law_barred", NameKind.globalImplicit)]
def C11 (pos : Pos) (e : Expr) : Prop := ∃ scope z1 z2 z3 y4 z5 z6 z7 z8 z9 z10 z11 z12, e = .ListComp (.Name "sign" z1) [⟨.Tuple [.Name "sign" z2, .Name "row" z3] y4 z5, .Call (.Name "zip" z6) [.Name "kept" z7, .Name "barred" z8] [] z9, [.Subscript (.Name "row" z10) (.Name "table" z11) z12], 0⟩] scope pos ∧ ScopeIs scope [(".0", NameKind.local), ("sign", NameKind.local), ("row", NameKind.local), ("table", NameKind.free)]
def C12 (pos : Pos) (e : Expr) : Prop := ∃ scope z1 z2 z3 y4 z5 z6 z7 z8 z9 z10 z11 y12 z13 z14 z15, e = .ListComp (.Name "sign" z1) [⟨.Tuple [.Name "sign" z2, .Name "kind" z3] y4 z5, .Call (.Name "zip" z6) [.Name "text" z7, .Name "kinds" z8] [] z9, [.Compare (.Name "kind" z10) [.Eq] [.BinOp (.Name "table" z11) .Add (.Constant (.int 1) y12 z13) z14] z15], 0⟩] scope pos ∧ ScopeIs scope [(".0", NameKind.local), ("sign", NameKind.local), ("kind", NameKind.local), ("table", NameKind.free)]
def C13 (pos : Pos) (e : Expr) : Prop := ∃ scope z1 z2 z3 z4 z5 z6, e = .ListComp (.Name "sign" z1) [⟨.Name "sign" z2, .Name "kept" z3, [.Call (.Name "in_table_c11" z4) [.Name "sign" z5] [] z6], 0⟩] scope pos ∧ ScopeIs scope [(".0", NameKind.local), ("sign", NameKind.local), ("in_table_c11", NameKind.globalImplicit)]
def C14 (pos : Pos) (e : Expr) : Prop := ∃ scope y1 z2 z3 z4 z5 y6 z7 z8 z9 y10 z11 z12 z13, e = .ListComp (.Constant (.str " ") y1 z2) [⟨.Name "spot" z3, .Name "spots" z4, [.BoolOp .Or [.Compare (.Name "spot" z5) [.Eq] [.Constant (.int 32) y6 z7] z8, .Compare (.Name "spot" z9) [.Eq] [.Constant (.int 890) y10 z11] z12] z13], 0⟩] scope pos ∧ ScopeIs scope [(".0", NameKind.local), ("spot", NameKind.local)]
def Asg (y : Str) (C : Pos → Expr → Prop) (b : Stmt) : Prop := ∃ p1 e pos p2, b = .Assign [.Name y p1] e p2 ∧ C pos e ∧ p1.line = pos.line
def IfNe (C D : Pos → Expr → Prop) (b : Stmt) : Prop := ∃ e1 e2 q1 q2 bd p1 p2, b = .If (.Compare e1 [.NotEq] [e2] p1) bd [] p2 ∧ C q1 e1 ∧ D q2 e2
def L0 (b : Stmt) : Prop := ∃ p1 p2 p3 p4, b = .Assign [.Name "runs" p1] (.Call (.Name "_law_runs" p2) [] [] p3) p4
def L7 (b : Stmt) : Prop := ∃ p1 k p2 p3 e q p4 p5, b = .Assign [.Name "kept" p1] (.Call (.Attribute (.Constant (.str "") k p2) "join" p3) [e] [] p4) p5 ∧ C8 q e ∧ (p3.endLine == p4.line) = true
def L8 (b : Stmt) : Prop := ∃ k p2 p3 e q p4 p5 p6 bd p7, b = .If (.Compare (.Call (.Attribute (.Constant (.str "") k p2) "join" p3) [e] [] p4) [.NotEq] [.Name "kept" p5] p6) bd [] p7 ∧ C9 q e ∧ (p3.endLine == p4.line) = true
def L10 (b : Stmt) : Prop := ∃ p1 p2 k p3 p4 sA p5 e q p6 bd p7 p8, b = .For (.Name "table" p1) (.Call (.Name "range" p2) [.Constant (.int 5) k p3] [] p4) [sA, .If (.Compare (.Name "found" p5) [.NotEq] [e] p6) bd [] p7] [] p8 ∧ Asg "found" C11 sA ∧ C12 q e
def L12 (b : Stmt) : Prop := ∃ p1 e q p2 p3, b = .Return (some (.Compare (.Name "blanks" p1) [.Eq] [e] p2)) p3 ∧ C14 q e
@[irreducible] def lst (i : Nat) : Stmt := (fdBody (stm 20))[i]?.getD (.Pass ⟨0, 0, 0, 0⟩)
theorem law_is : fdBody (stm 20) = [lst 0, lst 1, lst 2, lst 3, lst 4, lst 5, lst 6, lst 7, lst 8, lst 9, lst 10, lst 11, lst 12] := by kernel_rfl
theorem ls0 : L0 (lst 0) := by with_unfolding_all exact ⟨_, _, _, _, rfl⟩
theorem ls1 : Asg "spots" C0 (lst 1) := by with_unfolding_all exact ⟨_, _, _, _, rfl, ⟨_, _, _, _, _, _, _, _, _, _, _, _, _, _, _, _, _, _, _, _, _, _, rfl, rfl, rfl⟩, rfl⟩
theorem ls2 : Asg "kinds" C1 (lst 2) := by with_unfolding_all exact ⟨_, _, _, _, rfl, ⟨_, _, _, _, _, _, _, rfl, rfl, rfl⟩, rfl⟩
theorem ls3 : Asg "text" C2 (lst 3) := by with_unfolding_all exact ⟨_, _, _, _, rfl, ⟨_, _, _, _, _, _, rfl, rfl, rfl⟩, rfl⟩
theorem ls4 : Asg "mapped" C3 (lst 4) := by with_unfolding_all exact ⟨_, _, _, _, rfl, ⟨_, _, _, _, _, _, rfl, rfl, rfl⟩, rfl⟩
theorem ls9 : Asg "barred" C10 (lst 9) := by with_unfolding_all exact ⟨_, _, _, _, rfl, ⟨_, _, _, _, _, _, rfl, rfl, rfl⟩, rfl⟩
theorem ls11 : Asg "blanks" C13 (lst 11) := by with_unfolding_all exact ⟨_, _, _, _, rfl, ⟨_, _, _, _, _, _, _, rfl, rfl, rfl⟩, rfl⟩
theorem ls5 : IfNe C4 C5 (lst 5) := by with_unfolding_all exact ⟨_, _, _, _, _, _, _, rfl, ⟨_, _, _, _, _, _, rfl, rfl, rfl⟩, ⟨_, _, _, _, _, _, _, rfl, rfl, rfl⟩⟩
theorem ls6 : IfNe C6 C7 (lst 6) := by with_unfolding_all exact ⟨_, _, _, _, _, _, _, rfl, ⟨_, _, _, _, _, _, _, _, _, _, _, _, _, _, rfl, rfl, rfl⟩, ⟨_, _, _, _, _, _, _, _, _, _, _, _, _, _, rfl, rfl, rfl⟩⟩
theorem ls7 : L7 (lst 7) := by with_unfolding_all exact ⟨_, _, _, _, _, _, _, _, rfl, ⟨_, _, _, _, _, _, _, _, _, _, rfl, rfl, rfl⟩, rfl⟩
theorem ls8 : L8 (lst 8) := by with_unfolding_all exact ⟨_, _, _, _, _, _, _, _, _, _, rfl, ⟨_, _, _, _, _, _, _, _, _, _, _, _, rfl, ⟨rfl, rfl⟩, rfl⟩, rfl⟩
theorem ls10 : L10 (lst 10) := by with_unfolding_all exact ⟨_, _, _, _, _, _, _, _, _, _, _, _, _, rfl, ⟨_, _, _, _, rfl, ⟨_, _, _, _, _, _, _, _, _, _, _, _, _, rfl, rfl, rfl⟩, rfl⟩, ⟨_, _, _, _, _, _, _, _, _, _, _, _, _, _, _, _, rfl, rfl, rfl⟩⟩
theorem ls12 : L12 (lst 12) := by with_unfolding_all exact ⟨_, _, _, _, _, rfl, ⟨_, _, _, _, _, _, _, _, _, _, _, _, _, _, rfl, rfl, rfl⟩⟩
end Mine
end

/-! E3 -/
section
open PySem PySem.W PyProof.Rows PySem.Calls
set_option Elab.async false
set_option maxRecDepth 100000
namespace Mine

structure LEnv (env : Env) (cR cT : Addr) : Prop where
  fe : FEnv env
  sc : env.scope = fdScope (stm 20)
  cr : env.cells.lookup ("runs" : Str) = some cR
  ct : env.cells.lookup ("table" : Str) = some cT
theorem LEnv.k {env : Env} {cR cT : Addr} (x : LEnv env cR cT) {y : Str} {k : NameKind} (h : kn 20 y = some k) : env.kindOf y = some k := by
  unfold Env.kindOf; rw [x.sc]; exact h

structure LCtx (w : World) (A : Around) (env : Env) (cR cT : Addr) (h₀ : Heap) (mg mb : Str → Option Value) : Prop where
  le : LEnv env cR cT
  F : FactsM w h₀ mg mb
  room : Room A 2

def IntIs (f : Nat → Int) (c : Nat) (v : Value) : Prop := ∃ t, v = .int (f c) t
def StrIs {α : Type} (f : α → Str) (c : α) (v : Value) : Prop := ∃ t, v = .str (f c) t
def kd (c : Nat) : Int := kindIn runsAll (c : Int)

section
variable {w : World} {A : Around} {E : Value → Shared → Prop} {s : Shared} {mg mb : Str → Option Value} {Q : Value → Shared → Prop} {Qf : Flow → Shared → Prop} {env : Env} {m : Str → Option Value} {h₀ : Heap} {cR cT : Addr} {α : Type}

theorem nm_cell {x : Str} {pos : Pos} {c : Addr} {v : Value} (hE : FEnv env) (hx : env.kindOf x = some .cell) (hd : (x == ("__debug__" : Str)) = false) (hc : env.cells.lookup x = some c) (hv : s.heap.IsCell c (some v)) (h : Q v s) :
    wpAny (model P w) A (eval (.Name x pos) env) Q E s := wpAny_Name (wpAny_loadName_cell hE.kind hx hc hv h) hd

theorem keeps_refl {s : Shared} : Keeps s s := ⟨s.heap, s.toks, rfl, fun _ _ e => e⟩
theorem keeps_toks {s : Shared} {tk : Nat} : Keeps s { s with toks := tk } := ⟨s.heap, tk, rfl, fun _ _ e => e⟩
theorem keeps_of {s : Shared} {h' : Heap} {tk : Nat} (h : Sup s.heap h') : Keeps s { s with heap := h', toks := tk } := ⟨h', tk, rfl, h⟩

theorem filter_all {as : List α} : as.filter (fun _ => true) = as := List.filter_eq_self.mpr fun _ _ => rfl

/-- a comprehension without tests, its value -/
theorem ev_comp0 {elt iter tgt : Expr} {scope : Scope} {ns : List (Str × NameKind)} {cl : List (Str × Addr)} {pos : Pos} {names : List Str} {as : List α} {B : α → (Str → Option Value) → Prop} (F : α → Value → Prop) (hsrc : SrcOk w A env iter tgt names as B s)
    (hs : ScopeIs scope ns) (hclos : closureFor scope env = pure cl) (hok : okNames ns names = true) (hsz : as.length ≤ sizeLine) (hset : ∀ x, foldedSetIterable iter env x = pure x)
    (he : ∀ C a s₃ m₃ E', a ∈ as → s₃.heap.Ns C m₃ → B a m₃ → Sup s.heap s₃.heap → wpAny (model P w) A (eval elt (compEnvC scope cl C env)) (fun y s₄ => F a y ∧ Keeps s₃ s₄) E' s₃)
    (h : ∀ D h' tk ys, s.heap.objs.size ≤ D → h'.PlainList D (List.toArray ys) → Paired F as ys → Sup s.heap h' → Q (.ref D) { s with heap := h', toks := tk }) :
    wpAny (model P w) A (eval (.ListComp elt [⟨tgt, iter, [], 0⟩] scope pos) env) Q E s :=
  ev_comp (fun _ => true) (fun a _ _ y => F a y) hsrc ⟨fun _ _ _ _ _ _ _ _ _ => wpAny_tests_nil ⟨rfl, keeps_refl⟩, fun C a s₃ m₃ E' ha _ hn hB hk => he C a s₃ m₃ E' ha hn hB hk⟩ hclos (ok_cell hs hok) hs.1 (ok_names hs hok) (ok_x hs hok) hsz (fun _ _ _ _ _ _ f => f) hset
    fun D _ h' tk ys hD _ hp hF hk => h D h' tk ys hD hp (by rw [filter_all] at hF; exact hF) hk

/-- a comprehension with one test, its value -/
theorem ev_comp1 {elt iter tgt c : Expr} {scope : Scope} {ns : List (Str × NameKind)} {cl : List (Str × Addr)} {pos : Pos} {names : List Str} {as : List α} {B : α → (Str → Option Value) → Prop} (p : α → Bool) (F : α → Value → Prop) (hsrc : SrcOk w A env iter tgt names as B s)
    (hs : ScopeIs scope ns) (hclos : closureFor scope env = pure cl) (hok : okNames ns names = true) (hsz : as.length ≤ sizeLine) (hset : ∀ x, foldedSetIterable iter env x = pure x)
    (ht : ∀ C a s₃ m₃ E', a ∈ as → s₃.heap.Ns C m₃ → B a m₃ → Sup s.heap s₃.heap → wpAny (model P w) A (isTrue c (compEnvC scope cl C env) (eval c (compEnvC scope cl C env))) (fun ok s₄ => ok = p a ∧ Keeps s₃ s₄) E' s₃)
    (he : ∀ C a s₃ m₃ E', a ∈ as → s₃.heap.Ns C m₃ → B a m₃ → Sup s.heap s₃.heap → wpAny (model P w) A (eval elt (compEnvC scope cl C env)) (fun y s₄ => F a y ∧ Keeps s₃ s₄) E' s₃)
    (h : ∀ D h' tk ys, s.heap.objs.size ≤ D → h'.PlainList D (List.toArray ys) → Paired F (as.filter p) ys → Sup s.heap h' → Q (.ref D) { s with heap := h', toks := tk }) :
    wpAny (model P w) A (eval (.ListComp elt [⟨tgt, iter, [c], 0⟩] scope pos) env) Q E s :=
  ev_comp p (fun a _ _ y => F a y) hsrc ⟨fun C a s₃ m₃ E' ha hn hB hk => wpAny_tests_one (ht C a s₃ m₃ E' ha hn hB hk), fun C a s₃ m₃ E' ha _ hn hB hk => he C a s₃ m₃ E' ha hn hB hk⟩ hclos (ok_cell hs hok) hs.1 (ok_names hs hok) (ok_x hs hok) hsz (fun _ _ _ _ _ _ f => f) hset
    fun D _ h' tk ys hD _ hp hF hk => h D h' tk ys hD hp hF hk

/-- the same two, stored into a local -/
theorem as_comp0 {elt iter tgt : Expr} {scope : Scope} {ns : List (Str × NameKind)} {cl : List (Str × Addr)} {pos py spos : Pos} {y : Str} {names : List Str} {as : List α} {B : α → (Str → Option Value) → Prop} (F : α → Value → Prop) (hsrc : SrcOk w A env iter tgt names as B s)
    (hs : ScopeIs scope ns) (hclos : closureFor scope env = pure cl) (hok : okNames ns names = true) (hsz : as.length ≤ sizeLine) (hset : ∀ x, foldedSetIterable iter env x = pure x)
    (hE : env.scope.kind = .function) (hy : env.kindOf y = some .local) (hl : py.line = pos.line) (hsc : (ns.any fun x => x.1 == y && (x.2 == .local || x.2 == .cell)) = false) (hF : Fr h₀ env.locals s.heap m)
    (he : ∀ C a s₃ m₃ E', a ∈ as → s₃.heap.Ns C m₃ → B a m₃ → Sup s.heap s₃.heap → wpAny (model P w) A (eval elt (compEnvC scope cl C env)) (fun y s₄ => F a y ∧ Keeps s₃ s₄) E' s₃)
    (h : ∀ D h' tk ys, s.heap.objs.size ≤ D → h'.PlainList D (List.toArray ys) → Paired F as ys → Fr h₀ env.locals h' (fun z => if z = y then some (.ref D) else m z) → (∀ b o, b ≠ env.locals → s.heap.get? b = some o → h'.get? b = some o) → Qf .next { s with heap := h', toks := tk }) :
    wpAny (model P w) A (exec (.Assign [.Name y py] (.ListComp elt [⟨tgt, iter, [], 0⟩] scope pos) spos) env) Qf E s :=
  as_comp (fun _ => true) (fun a _ _ y => F a y) hsrc ⟨fun _ _ _ _ _ _ _ _ _ => wpAny_tests_nil ⟨rfl, keeps_refl⟩, fun C a s₃ m₃ E' ha _ hn hB hk => he C a s₃ m₃ E' ha hn hB hk⟩ hclos (ok_cell hs hok) hs.1 (ok_names hs hok) (ok_x hs hok) hsz (fun _ _ _ _ _ _ f => f) hset hE hy hl (by rw [hs.2]; exact hsc) hF
    fun D _ h' tk ys hD _ hp hF hf hk => h D h' tk ys hD hp (by rw [filter_all] at hF; exact hF) hf hk
theorem as_comp1 {elt iter tgt c : Expr} {scope : Scope} {ns : List (Str × NameKind)} {cl : List (Str × Addr)} {pos py spos : Pos} {y : Str} {names : List Str} {as : List α} {B : α → (Str → Option Value) → Prop} (p : α → Bool) (F : α → Value → Prop) (hsrc : SrcOk w A env iter tgt names as B s)
    (hs : ScopeIs scope ns) (hclos : closureFor scope env = pure cl) (hok : okNames ns names = true) (hsz : as.length ≤ sizeLine) (hset : ∀ x, foldedSetIterable iter env x = pure x)
    (hE : env.scope.kind = .function) (hy : env.kindOf y = some .local) (hl : py.line = pos.line) (hsc : (ns.any fun x => x.1 == y && (x.2 == .local || x.2 == .cell)) = false) (hF : Fr h₀ env.locals s.heap m)
    (ht : ∀ C a s₃ m₃ E', a ∈ as → s₃.heap.Ns C m₃ → B a m₃ → Sup s.heap s₃.heap → wpAny (model P w) A (isTrue c (compEnvC scope cl C env) (eval c (compEnvC scope cl C env))) (fun ok s₄ => ok = p a ∧ Keeps s₃ s₄) E' s₃)
    (he : ∀ C a s₃ m₃ E', a ∈ as → s₃.heap.Ns C m₃ → B a m₃ → Sup s.heap s₃.heap → wpAny (model P w) A (eval elt (compEnvC scope cl C env)) (fun y s₄ => F a y ∧ Keeps s₃ s₄) E' s₃)
    (h : ∀ D h' tk ys, s.heap.objs.size ≤ D → h'.PlainList D (List.toArray ys) → Paired F (as.filter p) ys → Fr h₀ env.locals h' (fun z => if z = y then some (.ref D) else m z) → (∀ b o, b ≠ env.locals → s.heap.get? b = some o → h'.get? b = some o) → Qf .next { s with heap := h', toks := tk }) :
    wpAny (model P w) A (exec (.Assign [.Name y py] (.ListComp elt [⟨tgt, iter, [c], 0⟩] scope pos) spos) env) Qf E s :=
  as_comp p (fun a _ _ y => F a y) hsrc ⟨fun C a s₃ m₃ E' ha hn hB hk => wpAny_tests_one (ht C a s₃ m₃ E' ha hn hB hk), fun C a s₃ m₃ E' ha _ hn hB hk => he C a s₃ m₃ E' ha hn hB hk⟩ hclos (ok_cell hs hok) hs.1 (ok_names hs hok) (ok_x hs hok) hsz (fun _ _ _ _ _ _ f => f) hset hE hy hl (by rw [hs.2]; exact hsc) hF
    fun D _ h' tk ys hD _ hp hF hf hk => h D h' tk ys hD hp hF hf hk

/-- the list a local names, as a source -/
theorem src_local {x tx : Str} {p px : Pos} {l : Addr} {vs : List Value} {as : List α} (V : α → Value → Prop) (X : LCtx w A env cR cT h₀ mg mb) (kx : kn 20 x = some .local) (hd : (x == ("__debug__" : Str)) = false) (hn : s.heap.Ns env.locals m) (hm : m x = some (.ref l)) (hl : s.heap.PlainList l (List.toArray vs)) (hv : Paired V as vs) :
    SrcOk w A env (.Name x p) (.Name tx px) [tx] as (fun a m => ∃ v, m tx = some v ∧ V a v) s :=
  src_list V X.room.handled (ev_local X.le.fe (X.le.k kx) hd hn hm ⟨l, vs, rfl, hl.isList, hv⟩)

theorem len_fits {as : List α} (h : as.length ≤ 100000) : as.length ≤ sizeLine := by rw [sizeLine_eq]; omega

/-- kinds -/
theorem do_kinds {R l : Addr} {cs : List Nat} {vs : List Value} (X : LCtx w A env cR cT h₀ mg mb) (hF : Fr h₀ env.locals s.heap m) (hm : m "spots" = some (.ref l)) (hl : s.heap.PlainList l (List.toArray vs)) (hv : Paired (IntIs fun c => (c : Int)) cs vs) (hlen : cs.length ≤ 100)
    (hc : s.heap.IsCell cR (some (.ref R))) (hR : RunsAt s.heap R runsAll)
    (h : ∀ D h' tk ys, s.heap.objs.size ≤ D → h'.PlainList D (List.toArray ys) → Paired (IntIs kd) cs ys → Fr h₀ env.locals h' (fun z => if z = "kinds" then some (.ref D) else m z) → (∀ b o, b ≠ env.locals → s.heap.get? b = some o → h'.get? b = some o) → Qf .next { s with heap := h', toks := tk }) :
    wpAny (model P w) A (exec (lst 2) env) Qf E s := by
  obtain ⟨p1, e, pos, p2, he, hC, hline⟩ := ls2
  obtain ⟨scope, z1, z2, z3, z4, z5, z6, rfl, hsc⟩ := hC
  rw [he]
  refine as_comp0 (cl := [("runs", cR)]) (IntIs kd) (src_local _ X (by kernel_rfl) (by decide) hF.ns hm hl hv) hsc (clos_one (init := [(".0", .local), ("spot", .local), ("_law_kind", .globalImplicit)]) hsc (by decide) X.le.cr) (by decide) (len_fits (by omega)) (fun _ => rfl) X.le.fe.kind (X.le.k (by kernel_rfl)) hline (by decide) hF ?_ h
  rintro C a s₃ m₃ E' _ hn ⟨v, hv, t, rfl⟩ hk
  have F3 := X.F.keeps fun b o e => hk b o (hF.keep b o e)
  obtain ⟨fa, hfa, hcall⟩ := law_kind (Q := fun y s₄ => IntIs kd a y ∧ Keeps s₃ s₄) (E := E') (A := A) (t := t) (c := (a : Int)) F3 (X.room.less (by omega)) (hR.keeps hk) (by rw [runs_len']; omega) fun t' h' tk hs => ⟨⟨t', rfl⟩, keeps_of hs⟩
  obtain ⟨a', ha', pm, c', doc, ho, _⟩ := F3.f18
  rw [hfa] at ha'
  obtain rfl : fa = a' := by simpa using ha'
  have hE' : FEnv (compEnvC scope [("runs", cR)] C env) := X.le.fe.comp hsc
  refine Call_ (nm_global hE' (kc hsc (by rfl) (by decide)) (by decide) F3 hfa ?_)
  exact callWith_def (hdat := rfl) (args_cons (nm_local hE' (kc hsc (by rfl) (by decide)) (by decide) hn hv (args_cons (nm_cell hE' (kc_free X.le.fe.kind hsc (by rfl) (X.le.k (by kernel_rfl))) (by decide) (by rfl) (hc.keeps hk) (args_nil ⟨ho, hcall⟩)))))
end
end Mine
end

/-! E4 -/
section
open PySem PySem.W PyProof.Rows PySem.Calls
set_option Elab.async false
set_option maxRecDepth 100000
namespace Mine

def numIs (n : Int) (v : Value) : Prop := ∃ t, v = .int n t
theorem nums_paired : ∀ {vs : List Value} {ns : List Int}, IntsAre vs ns → Paired numIs ns vs
  | _, _, .nil => .nil
  | _, _, .cons n t r => .cons ⟨t, rfl⟩ (nums_paired r)

/-- what a spot is: a code point -/
def SpotIs (_ : Int) (v : Value) : Prop := ∃ c t, c ≤ 1114111 ∧ v = .int ((c : Nat) : Int) t
theorem spots_paired : ∀ {ns : List Int} {vs : List Value}, Paired SpotIs ns vs → ∃ cs : List Nat, cs.length = ns.length ∧ (∀ c ∈ cs, c ≤ 1114111) ∧ Paired (IntIs fun c => (c : Int)) cs vs
  | _, _, .nil => ⟨[], rfl, fun _ h => (nomatch h), .nil⟩
  | _, _, .cons ⟨c, t, hc, e⟩ r => by
    obtain ⟨cs, h1, h2, h3⟩ := spots_paired r
    refine ⟨c :: cs, by rw [List.length_cons, List.length_cons, h1], fun d hd => ?_, .cons ⟨t, e⟩ h3⟩
    rcases List.mem_cons.mp hd with rfl | hd
    · exact hc
    · exact h2 d hd

section
variable {w : World} {A : Around} {E : Value → Shared → Prop} {s : Shared} {mg mb : Str → Option Value} {Q : Value → Shared → Prop} {Qf : Flow → Shared → Prop} {env : Env} {m : Str → Option Value} {h₀ : Heap} {cR cT : Addr} {α : Type}

theorem do_spots {R l : Addr} {ns : List Int} {vs : List Value} (X : LCtx w A env cR cT h₀ mg mb) (hF : Fr h₀ env.locals s.heap m) (hm : m "script" = some (.ref l)) (hl : s.heap.IsList l (List.toArray vs)) (hv : IntsAre vs ns) (hlen : ns.length ≤ 63)
    (hc : s.heap.IsCell cR (some (.ref R))) (hR : RunsAt s.heap R runsAll)
    (h : ∀ D h' tk ys cs, s.heap.objs.size ≤ D → h'.PlainList D (List.toArray ys) → cs.length ≤ 100 → (∀ c ∈ cs, c ≤ 1114111) → Paired (IntIs fun c => (c : Int)) cs ys → Fr h₀ env.locals h' (fun z => if z = "spots" then some (.ref D) else m z) → (∀ b o, b ≠ env.locals → s.heap.get? b = some o → h'.get? b = some o) → Qf .next { s with heap := h', toks := tk }) :
    wpAny (model P w) A (exec (lst 1) env) Qf E s := by
  obtain ⟨p1, e, pos, p2, he, hC, hline⟩ := ls1
  obtain ⟨scope, z1, z2, y3, z4, z5, z6, z7, z8, y9, z10, y11, z12, y13, z14, z15, z16, y17, z18, z19, z20, z21, rfl, hsc⟩ := hC
  rw [he]
  have hcount : ([129, 3561, 136] ++ ns.take 32).length ≤ 100 := by
    rw [List.length_append, List.length_take]
    show 3 + _ ≤ _
    omega
  refine as_comp0 (cl := [("runs", cR)]) (as := [129, 3561, 136] ++ ns.take 32) (names := ["number"]) (B := fun a m => ∃ v, m "number" = some v ∧ numIs a v) SpotIs (src_list numIs X.room.handled ?_) hsc (clos_one (init := [(".0", .local), ("number", .local), ("_law_spot", .globalImplicit)]) hsc (by decide) X.le.cr) (by decide) (len_fits (by omega)) (fun _ => rfl) X.le.fe.kind (X.le.k (by kernel_rfl)) hline (by decide) hF ?_ ?_
  · intro E' Q' hQ
    refine wpAny_BinOp (List_ (args_cons (wpAny_Constant_int (args_cons (wpAny_Constant_int (args_cons (wpAny_Constant_int (args_nil ?_))))))))
    refine wpAny_newList ?_ (by show (3 : Nat) ≤ sizeLine; rw [sizeLine_eq]; omega)
    refine wpAny_Subscript_Slice slot_list_getitem.lookup (nm_local X.le.fe (X.le.k (by kernel_rfl)) (by decide) (hF.push _).ns hm (wpAny_Slice ?_))
    rw [evalPart_none, evalPart_some]
    refine wpAny_pure (wpAny_Constant_int (wpAny_pure ⟨Heap.IsList.typeIs ((hl.push _).push _), ?_⟩))
    refine wpAny_getItem_list_slice ((hl.push _).push _) (Heap.IsSliceOf.new ..) .none (.int _ _) .none (by simp) ?_ (by rw [List.size_toArray, hv.length]; exact len_fits (by omega))
    have hI := slice_ints_uptoW hv (y := 32) (by decide)
    have el : slicePick vs.toArray none (some 32) none = (slicePick vs.toArray none (some 32) none).toList.toArray := by simp
    rw [el]
    refine add_exact (vs := [.int 129 _, .int 3561 _, .int 136 _]) ⟨_, Heap.get?_push_of_some _ (Heap.get?_push_of_some _ (Heap.get?_push_size _ rfl)), rfl, _, rfl⟩ ⟨_, Heap.get?_push_size _ rfl, rfl, _, rfl⟩ ?_ ?_
    · rw [hI.length, List.length_take]; show 3 + _ ≤ _; rw [sizeLine_eq]; omega
    refine hQ _ _ _ ⟨_, _, rfl, ⟨_, Heap.get?_push_size _ rfl, rfl, _, rfl⟩, nums_paired (.append (.cons _ _ (.cons _ _ (.cons _ _ .nil))) hI)⟩ (fun b o e => Heap.get?_push_of_some _ (Heap.get?_push_of_some _ (Heap.get?_push_of_some _ (Heap.get?_push_of_some _ e)))) ?_
    rw [Heap.size_push, Heap.size_push, Heap.size_push, Heap.size_push]
    exact Nat.le_add_right _ 4
  · rintro C a s₃ m₃ E' _ hn ⟨v, hv, t, rfl⟩ hk
    have F3 := X.F.keeps fun b o e => hk b o (hF.keep b o e)
    have hE' : FEnv (compEnvC scope [("runs", cR)] C env) := X.le.fe.comp hsc
    obtain ⟨a', ha', pm, c', doc, ho, hcr⟩ := F3.f17
    refine Call_ (nm_global hE' (kc hsc (by rfl) (by decide)) (by decide) F3 ha' ?_)
    refine callWith_def (hdat := rfl) (args_cons (wpAny_BinOp (nm_local hE' (kc hsc (by rfl) (by decide)) (by decide) hn hv (wpAny_Constant_int (mod_int' (by decide) (args_cons (nm_cell hE' (kc_free X.le.fe.kind hsc (by rfl) (X.le.k (by kernel_rfl))) (by decide) (by rfl) (hc.keeps hk) (args_nil ⟨ho, ?_⟩))))))))
    obtain ⟨fa, hfa, hcall⟩ := law_spot (Q := fun y s₄ => SpotIs a y ∧ Keeps s₃ s₄) (E := E') (A := A) (s := { s₃ with toks := s₃.toks + 1 + 1 }) (t := s₃.toks + 1) (n := a.fmod 1000000) F3 (X.room.less (by omega)) (hR.keeps hk) fun v t' h' tk h0 h1 hs => ⟨⟨v.toNat, t', by omega, by rw [Int.toNat_of_nonneg h0]⟩, keeps_of hs⟩
    rw [hfa] at ha'
    obtain rfl : fa = a' := by simpa using ha'
    exact hcall
  · intro D h' tk ys hD hp hPF hf hk
    obtain ⟨cs, h1, h2, h3⟩ := spots_paired hPF
    exact h D h' tk ys cs hD hp (by rw [h1]; exact hcount) h2 h3 hf hk

theorem do_text {l : Addr} {cs : List Nat} {vs : List Value} (X : LCtx w A env cR cT h₀ mg mb) (hF : Fr h₀ env.locals s.heap m) (hm : m "spots" = some (.ref l)) (hl : s.heap.PlainList l (List.toArray vs)) (hv : Paired (IntIs fun c => (c : Int)) cs vs) (hlen : cs.length ≤ 100) (hcs : ∀ c ∈ cs, c ≤ 1114111)
    (h : ∀ D h' tk ys, s.heap.objs.size ≤ D → h'.PlainList D (List.toArray ys) → Paired (StrIs sg) cs ys → Fr h₀ env.locals h' (fun z => if z = "text" then some (.ref D) else m z) → (∀ b o, b ≠ env.locals → s.heap.get? b = some o → h'.get? b = some o) → Qf .next { s with heap := h', toks := tk }) :
    wpAny (model P w) A (exec (lst 3) env) Qf E s := by
  obtain ⟨p1, e, pos, p2, he, hC, hline⟩ := ls3
  obtain ⟨scope, z1, z2, z3, z4, z5, rfl, hsc⟩ := hC
  rw [he]
  refine as_comp0 (cl := []) (StrIs sg) (src_local _ X (by kernel_rfl) (by decide) hF.ns hm hl hv) hsc (clos_none hsc (by decide)) (by decide) (len_fits (by omega)) (fun _ => rfl) X.le.fe.kind (X.le.k (by kernel_rfl)) hline (by decide) hF ?_ h
  rintro C a s₃ m₃ E' ha hn ⟨v, hv, t, rfl⟩ hk
  have F3 := X.F.keeps fun b o e => hk b o (hF.keep b o e)
  have hE' : FEnv (compEnvC scope [] C env) := X.le.fe.comp hsc
  refine Call_ (nm_builtin hE' (kc hsc (by rfl) (by decide)) (by decide) F3 (un_chr F3) (by decide) b_chr ?_)
  refine PyProof.Rows.callWith_builtin1 (args_cons (nm_local hE' (kc hsc (by rfl) (by decide)) (by decide) hn hv (args_nil ?_)))
  exact chr_of_range (i := (a : Int)) (by omega) (by have := hcs a ha; omega) ⟨⟨s₃.toks, rfl⟩, keeps_toks⟩

theorem do_mapped {l : Addr} {cs : List Nat} {vs : List Value} (X : LCtx w A env cR cT h₀ mg mb) (hF : Fr h₀ env.locals s.heap m) (hm : m "text" = some (.ref l)) (hl : s.heap.PlainList l (List.toArray vs)) (hv : Paired (StrIs sg) cs vs) (hlen : cs.length ≤ 100)
    (h : ∀ D h' tk ys, s.heap.objs.size ≤ D → h'.PlainList D (List.toArray ys) → Paired (StrIs mapS) cs ys → Fr h₀ env.locals h' (fun z => if z = "mapped" then some (.ref D) else m z) → (∀ b o, b ≠ env.locals → s.heap.get? b = some o → h'.get? b = some o) → Qf .next { s with heap := h', toks := tk }) :
    wpAny (model P w) A (exec (lst 4) env) Qf E s := by
  obtain ⟨p1, e, pos, p2, he, hC, hline⟩ := ls4
  obtain ⟨scope, z1, z2, z3, z4, z5, rfl, hsc⟩ := hC
  rw [he]
  refine as_comp0 (cl := []) (StrIs mapS) (src_local _ X (by kernel_rfl) (by decide) hF.ns hm hl hv) hsc (clos_none hsc (by decide)) (by decide) (len_fits (by omega)) (fun _ => rfl) X.le.fe.kind (X.le.k (by kernel_rfl)) hline (by decide) hF ?_ h
  rintro C a s₃ m₃ E' ha hn ⟨v, hv, t, rfl⟩ hk
  have F3 := X.F.keeps fun b o e => hk b o (hF.keep b o e)
  have hE' : FEnv (compEnvC scope [] C env) := X.le.fe.comp hsc
  exact ev_call1 hE' F3 F3.f4 (kc hsc (by rfl) (by decide)) (by decide) (kc hsc (by rfl) (by decide)) (by decide) hn hv (map_b3 F3 (X.room.less (by omega)) fun t' h' tk hs => ⟨⟨t', rfl⟩, keeps_of hs⟩)
end
end Mine
end

/-! E5 -/
section
open PySem PySem.W PyProof.Rows PySem.Calls
set_option Elab.async false
set_option maxRecDepth 100000
namespace Mine

def mp (c : Nat) : List Nat := (mapS c).cps.toList
def keptL (cs : List Nat) : List Nat := (cs.filter fun c => !b1B c).flatMap mp
def joinE (ys : List Str) : Str := Txt.join "" ys
theorem joinE_cps (ys : List Str) : (joinE ys).cps.toList = ys.flatMap fun y => y.cps.toList := by
  have e : joinE ys = Str.join ⟨#[]⟩ ys := eq_of_beq (join_closes (sep := "") (sep' := ⟨#[]⟩) (ys := ys) (by kernel_rfl))
  rw [e]
  induction ys with
  | nil => rfl
  | cons a r ih =>
    rw [join_nil_cons]
    have ih' := ih (eq_of_beq (join_closes (sep := "") (sep' := ⟨#[]⟩) (ys := r) (by kernel_rfl)))
    show (a.cps ++ (Str.join ⟨#[]⟩ r).cps).toList = _
    rw [Array.toList_append, ih', List.flatMap_cons]
theorem sum_le {α : Type} {f : α → Nat} {k : Nat} : ∀ {xs : List α}, (∀ x ∈ xs, f x ≤ k) → (xs.map f).sum ≤ xs.length * k
  | [], _ => by simp
  | a :: r, h => by
    have h1 := h a List.mem_cons_self
    have h2 := sum_le (xs := r) fun x hx => h x (List.mem_cons_of_mem _ hx)
    rw [List.map_cons, List.sum_cons, List.length_cons, Nat.succ_mul]
    omega
theorem str_len (x : Str) : x.length = x.cps.toList.length := by simp [Str.length]

section
variable {w : World} {A : Around} {E : Value → Shared → Prop} {s : Shared} {mg mb : Str → Option Value} {Q : Value → Shared → Prop} {Qf : Flow → Shared → Prop} {env : Env} {m : Str → Option Value} {h₀ : Heap} {cR cT : Addr} {α : Type}

/-- the empty text's join of a list of strs -/
theorem ev_join {e : Expr} {k : Nat} {p2 p3 p4 : Pos} {ys : List Str} (hl : (p3.endLine == p4.line) = true) (hsum : (ys.map (·.length)).sum ≤ 1000000)
    (hst : starEach [e] env = [(false, eval e env)])
    (h : ∀ s₁ : Shared, s₁ = { s with toks := s.toks + 1 } → ∀ t : Tok, wpAny (model P w) A (eval e env) (fun v s₂ => ∃ D vs, v = .ref D ∧ s₂.heap.IsList D (List.toArray vs) ∧ StrsAre vs ys ∧ ∀ t' tk, Q (.str (joinE ys) t') { s₂ with toks := tk }) E s₁) :
    wpAny (model P w) A (eval (.Call (.Attribute (.Constant (.str "") k p2) "join" p3) [e] [] p4) env) Q E s := by
  refine Call_method1 rfl hst hl (wpAny_Constant_str ?_)
  refine ⟨"str", "str.join", PySem.F.plainAttrs_str, PySem.F.slot_str_join, PySem.F.type_str_join, typeIs_str _ _ _, (fun _ e => nomatch e), ?_⟩
  refine Calls.callWith_builtin (by rfl) (Calls.evalArgs_plain (Calls.spliced_cons (wpAny_mono (h _ rfl s.toks) (fun v s₂ hv => Calls.spliced_nil ?_) fun _ _ x => x)))
  obtain ⟨D, vs, rfl, hD, hs, hQ⟩ := hv
  exact join_list hD (by simpa using hs) (by rw [show ("" : Str).length = 0 by kernel_rfl]; omega) hQ

theorem b1_test {scope : Scope} {ns : List (Str × NameKind)} {cl : List (Str × Addr)} {C : Addr} {s₃ : Shared} {m₃ : Str → Option Value} {c : Nat} {t : Tok} {p1 p2 p3 p4 : Pos} {E' : Value → Shared → Prop} {K : Bool → Shared → Prop} (X : LCtx w A env cR cT h₀ mg mb) (hsc : ScopeIs scope ns) (k1 : ns.lookup ("in_table_b1" : Str) = some NameKind.globalImplicit) (k2 : ns.lookup ("sign" : Str) = some NameKind.local)
    (hk : Sup h₀ s₃.heap) (hn : s₃.heap.Ns C m₃) (hm : m₃ "sign" = some (.str (sg c) t)) (h : ∀ h' tk, Sup s₃.heap h' → K (!b1B c) { s₃ with heap := h', toks := tk }) :
    wpAny (model P w) A (isTrue (.UnaryOp .Not (.Call (.Name "in_table_b1" p1) [.Name "sign" p2] [] p3) p4) (compEnvC scope cl C env) (eval (.UnaryOp .Not (.Call (.Name "in_table_b1" p1) [.Name "sign" p2] [] p3) p4) (compEnvC scope cl C env))) K E' s₃ := by
  have F3 := X.F.keeps hk
  have hE' : FEnv (compEnvC scope cl C env) := X.le.fe.comp hsc
  refine isTrue_not (wpAny_isTrue_value ?_)
  exact ev_call1 hE' F3 F3.f2 (kc hsc k1 (by decide)) (by decide) (kc hsc k2 (by decide)) (by decide) hn hm (in_b1 F3 (X.room.less (by omega)) fun h' tk hs => wpAny_truthy_bool (h h' tk hs))

/-- B.1 holds of just its kind -/
theorem do_if5 {l l2 : Addr} {cs : List Nat} {vs ks : List Value} (X : LCtx w A env cR cT h₀ mg mb) (hF : Fr h₀ env.locals s.heap m) (hm : m "text" = some (.ref l)) (hl : s.heap.PlainList l (List.toArray vs)) (hv : Paired (StrIs sg) cs vs) (hm2 : m "kinds" = some (.ref l2)) (hl2 : s.heap.PlainList l2 (List.toArray ks)) (hk2 : Paired (IntIs kd) cs ks)
    (hlen : cs.length ≤ 100) (law : ∀ c ∈ cs, b1B c = (kd c == 0)) (h : ∀ h' tk, Sup s.heap h' → Qf .next { s with heap := h', toks := tk }) :
    wpAny (model P w) A (exec (lst 5) env) Qf E s := by
  obtain ⟨e1, e2, q1, q2, bd, p1, p2, he, hC, hD⟩ := ls5
  obtain ⟨scope, z1, z2, z3, z4, z5, rfl, hsc⟩ := hC
  obtain ⟨scope2, w1, x2, w3, w4, w5, w6, rfl, hsc2⟩ := hD
  rw [he]
  refine wpAny_If (wpAny_isTrue_Compare1 ?_)
  refine ev_comp0 (cl := []) (fun c y => y = Value.bool (b1B c)) (src_local _ X (by kernel_rfl) (by decide) hF.ns hm hl hv) hsc (clos_none hsc (by decide)) (by decide) (len_fits (by omega)) (fun _ => rfl) ?_ ?_
  · rintro C a s₃ m₃ E' ha hn ⟨v, hv, t, rfl⟩ hk
    have F3 := X.F.keeps fun b o e => hk b o (hF.keep b o e)
    exact ev_call1 (X.le.fe.comp hsc) F3 F3.f2 (kc hsc (by rfl) (by decide)) (by decide) (kc hsc (by rfl) (by decide)) (by decide) hn hv (in_b1 F3 (X.room.less (by omega)) fun h' tk hs => ⟨rfl, keeps_of hs⟩)
  intro D h' tk ys hD hp hPF hk
  have hF' := hF.keeps hk
  refine ev_comp0 (s := { s with heap := h', toks := tk }) (cl := []) (fun c y => y = Value.bool (kd c == 0)) (src_local (s := { s with heap := h', toks := tk }) _ X (by kernel_rfl) (by decide) hF'.ns hm2 (hl2.at fun o e => hk _ o e) hk2) hsc2 (clos_none hsc2 (by decide)) (by decide) (len_fits (by omega)) (fun _ => rfl) ?_ ?_
  · rintro C a s₃ m₃ E' ha hn ⟨v, hv, t, rfl⟩ hk
    exact wpAny_Compare1 (nm_local (X.le.fe.comp hsc2) (kc hsc2 (by rfl) (by decide)) (by decide) hn hv (wpAny_Constant_int (PyProof.Rows.eq_int ⟨rfl, keeps_toks⟩)))
  intro D2 h'' tk2 ys2 hD2 hp2 hPF2 hkk
  have e1 := bools_of hPF
  have e2 := bools_of hPF2
  have e3 : cs.map b1B = cs.map fun c => kd c == 0 := List.map_congr_left law
  rw [← e3] at e2
  refine cmp_ne (hp.isList.at fun o e => hkk _ o e) hp2.isList (by rw [e1, e2]; exact bools_eq _) (by have := X.room.units; omega) (wpAny_truthy_bool ?_)
  exact wpAny_execs_nil (h _ _ fun b o e => hkk b o (hk b o e))

theorem kind_lt {scope : Scope} {ns : List (Str × NameKind)} {cl : List (Str × Addr)} {C : Addr} {s₃ : Shared} {m₃ : Str → Option Value} {n : Int} {t : Tok} {p1 p2 p3 : Pos} {k : Nat} {E' : Value → Shared → Prop} {K : Bool → Shared → Prop} (X : LCtx w A env cR cT h₀ mg mb) (hsc : ScopeIs scope ns) (k2 : ns.lookup ("kind" : Str) = some NameKind.local)
    (hn : s₃.heap.Ns C m₃) (hm : m₃ "kind" = some (.int n t)) (h : ∀ tk, K (decide (n < 6)) { s₃ with toks := tk }) :
    wpAny (model P w) A (isTrue (.Compare (.Name "kind" p1) [.Lt] [.Constant (.int 6) k p2] p3) (compEnvC scope cl C env) (eval (.Compare (.Name "kind" p1) [.Lt] [.Constant (.int 6) k p2] p3) (compEnvC scope cl C env))) K E' s₃ :=
  wpAny_isTrue_Compare1 (nm_local (X.le.fe.comp hsc) (kc hsc k2 (by decide)) (by decide) hn hm (wpAny_Constant_int (lt_int (wpAny_truthy_bool (h _)))))

/-- the signs of a run map to themselves -/
theorem do_if6 {l l2 l3 : Addr} {cs : List Nat} {vs ks ms : List Value} (X : LCtx w A env cR cT h₀ mg mb) (hF : Fr h₀ env.locals s.heap m) (hm : m "text" = some (.ref l)) (hl : s.heap.PlainList l (List.toArray vs)) (hv : Paired (StrIs sg) cs vs) (hm2 : m "kinds" = some (.ref l2)) (hl2 : s.heap.PlainList l2 (List.toArray ks)) (hk2 : Paired (IntIs kd) cs ks)
    (hm3 : m "mapped" = some (.ref l3)) (hl3 : s.heap.PlainList l3 (List.toArray ms)) (hv3 : Paired (StrIs mapS) cs ms)
    (hlen : cs.length ≤ 100) (law : ∀ c ∈ cs, kd c < 6 → mapS c = sg c) (h : ∀ h' tk, Sup s.heap h' → Qf .next { s with heap := h', toks := tk }) :
    wpAny (model P w) A (exec (lst 6) env) Qf E s := by
  obtain ⟨e1, e2, q1, q2, bd, p1, p2, he, hC, hD⟩ := ls6
  obtain ⟨scope, z1, z2, z3, y4, z5, z6, z7, z8, z9, z10, y11, z12, z13, rfl, hsc⟩ := hC
  obtain ⟨scope2, w1, w2, w3, x4, w5, w6, w7, w8, w9, w10, x11, w12, w13, rfl, hsc2⟩ := hD
  rw [he]
  have F := X.F.keeps hF.keep
  refine wpAny_If (wpAny_isTrue_Compare1 ?_)
  refine ev_comp1 (cl := []) (fun c => decide (kd c < 6)) (StrIs mapS)
    (src_zip_ll (as := cs) (fun c u v => StrIs mapS c u ∧ IntIs kd c v) X.room.handled X.le.fe F (X.le.k (by kernel_rfl)) (X.le.k (by kernel_rfl)) (by decide) (X.le.k (by kernel_rfl)) (by decide) hF.ns hm3 hm2 hl3.isList hl2.isList hv3.length.symm hk2.length.symm (by decide) fun i q u v e1 e2 e3 => ⟨paired_at hv3 i q u e1 e2, paired_at hk2 i q v e1 e3⟩)
    hsc (clos_none hsc (by decide)) (by decide) (len_fits (by omega)) (fun _ => rfl) ?_ ?_ ?_
  · rintro C a s₃ m₃ E' ha hn ⟨u, v, hu, hv, ⟨t, rfl⟩, t', rfl⟩ hk
    exact kind_lt X hsc (by rfl) hn hv fun tk => ⟨rfl, keeps_toks⟩
  · rintro C a s₃ m₃ E' ha hn ⟨u, v, hu, hv, ⟨t, rfl⟩, t', rfl⟩ hk
    exact nm_local (X.le.fe.comp hsc) (kc hsc (by rfl) (by decide)) (by decide) hn hu ⟨⟨t, rfl⟩, keeps_refl⟩
  intro D h' tk ys hD hp hPF hk
  have hF' := hF.keeps hk
  refine ev_comp1 (s := { s with heap := h', toks := tk }) (cl := []) (fun c => decide (kd c < 6)) (StrIs sg)
    (src_zip_ll (s := { s with heap := h', toks := tk }) (as := cs) (fun c u v => StrIs sg c u ∧ IntIs kd c v) X.room.handled X.le.fe (F.keeps hk) (X.le.k (by kernel_rfl)) (X.le.k (by kernel_rfl)) (by decide) (X.le.k (by kernel_rfl)) (by decide) hF'.ns hm hm2 (hl.isList.at fun o e => hk _ o e) (hl2.isList.at fun o e => hk _ o e) hv.length.symm hk2.length.symm (by decide) fun i q u v e1 e2 e3 => ⟨paired_at hv i q u e1 e2, paired_at hk2 i q v e1 e3⟩)
    hsc2 (clos_none hsc2 (by decide)) (by decide) (len_fits (by omega)) (fun _ => rfl) ?_ ?_ ?_
  · rintro C a s₃ m₃ E' ha hn ⟨u, v, hu, hv, ⟨t, rfl⟩, t', rfl⟩ hk
    exact kind_lt X hsc2 (by rfl) hn hv fun tk => ⟨rfl, keeps_toks⟩
  · rintro C a s₃ m₃ E' ha hn ⟨u, v, hu, hv, ⟨t, rfl⟩, t', rfl⟩ hk
    exact nm_local (X.le.fe.comp hsc2) (kc hsc2 (by rfl) (by decide)) (by decide) hn hu ⟨⟨t, rfl⟩, keeps_refl⟩
  intro D2 h'' tk2 ys2 hD2 hp2 hPF2 hkk
  have e1 := strs_of hPF
  have e2 := strs_of hPF2
  have e3 : (cs.filter fun c => decide (kd c < 6)).map mapS = (cs.filter fun c => decide (kd c < 6)).map sg := List.map_congr_left fun c hc => law c (List.mem_filter.mp hc).1 (of_decide_eq_true (List.mem_filter.mp hc).2)
  rw [e3] at e1
  refine cmp_ne (hp.isList.at fun o e => hkk _ o e) hp2.isList (strs_eq e1 e2) (by have := X.room.units; omega) (wpAny_truthy_bool ?_)
  exact wpAny_execs_nil (h _ _ fun b o e => hkk b o (hk b o e))
end
end Mine
end

/-! E6 -/
section
open PySem PySem.W PyProof.Rows PySem.Calls
set_option Elab.async false
set_option maxRecDepth 100000
namespace Mine

theorem flat_map_mp (xs : List Nat) : (xs.map mapS).flatMap (fun y => y.cps.toList) = xs.flatMap mp := by
  rw [List.flatMap_map]; rfl
theorem flat_map_sg (xs : List Nat) : (xs.map sg).flatMap (fun y => y.cps.toList) = xs := by
  induction xs with
  | nil => rfl
  | cons a r ih => rw [List.map_cons, List.flatMap_cons, ih]; rfl
def RowIs (base : Nat) (h : Heap) (c : Nat) (y : Value) : Prop := ∃ T : Addr, y = .ref T ∧ base ≤ T ∧ h.PlainList T (List.toArray ((barB c).map Value.bool))

section
variable {w : World} {A : Around} {E : Value → Shared → Prop} {s : Shared} {mg mb : Str → Option Value} {Q : Value → Shared → Prop} {Qf : Flow → Shared → Prop} {env : Env} {m : Str → Option Value} {h₀ : Heap} {cR cT : Addr} {α : Type}

theorem map_sum {cs : List Nat} (hlen : cs.length ≤ 100) (hml : ∀ c ∈ cs, (mp c).length ≤ 10) : ((cs.map mapS).map (·.length)).sum ≤ 1000 := by
  rw [List.map_map]
  have := sum_le (xs := cs) (f := (fun x : Str => x.length) ∘ mapS) (k := 10) fun c hc => by
    show (mapS c).length ≤ 10
    rw [str_len]; exact hml c hc
  omega

theorem do_kept {l : Addr} {cs : List Nat} {vs : List Value} (X : LCtx w A env cR cT h₀ mg mb) (hF : Fr h₀ env.locals s.heap m) (hm : m "text" = some (.ref l)) (hl : s.heap.PlainList l (List.toArray vs)) (hv : Paired (StrIs sg) cs vs) (hlen : cs.length ≤ 100) (hml : ∀ c ∈ cs, (mp c).length ≤ 10)
    (h : ∀ K t h' tk, K.cps.toList = keptL cs → Fr h₀ env.locals h' (fun z => if z = "kept" then some (.str K t) else m z) → (∀ b o, b ≠ env.locals → s.heap.get? b = some o → h'.get? b = some o) → Qf .next { s with heap := h', toks := tk }) :
    wpAny (model P w) A (exec (lst 7) env) Qf E s := by
  obtain ⟨p1, k, p2, p3, e, q, p4, p5, he, hC, hline⟩ := ls7
  obtain ⟨scope, z1, z2, z3, z4, z5, z6, z7, z8, z9, rfl, hsc⟩ := hC
  rw [he]
  have hlen2 : (cs.filter fun c => !b1B c).length ≤ 100 := Nat.le_trans (List.length_filter_le _ _) hlen
  refine wpAny_Assign_Name (ev_join (ys := (cs.filter fun c => !b1B c).map mapS) hline (Nat.le_trans (map_sum hlen2 fun c hc => hml c (List.mem_filter.mp hc).1) (by omega)) rfl ?_)
  rintro s₁ rfl _
  refine ev_comp1 (cl := []) (fun c => !b1B c) (StrIs mapS) (src_local _ X (by kernel_rfl) (by decide) hF.ns hm hl hv) hsc (clos_none hsc (by decide)) (by decide) (len_fits (by omega)) (fun _ => rfl) ?_ ?_ ?_
  · rintro C a s₃ m₃ E' ha hn ⟨v, hv, t, rfl⟩ hk
    exact b1_test X hsc (by rfl) (by rfl) (fun b o e => hk b o (hF.keep b o e)) hn hv fun h' tk hs => ⟨rfl, keeps_of hs⟩
  · rintro C a s₃ m₃ E' ha hn ⟨v, hv, t, rfl⟩ hk
    have F3 := X.F.keeps fun b o e => hk b o (hF.keep b o e)
    exact ev_call1 (X.le.fe.comp hsc) F3 F3.f4 (kc hsc (by rfl) (by decide)) (by decide) (kc hsc (by rfl) (by decide)) (by decide) hn hv (map_b3 F3 (X.room.less (by omega)) fun t' h' tk hs => ⟨⟨t', rfl⟩, keeps_of hs⟩)
  intro D h' tk ys hD hp hPF hk
  refine ⟨D, ys, rfl, hp.isList, strs_of hPF, fun t' tk' => ?_⟩
  refine st_local (s := { s with heap := h', toks := tk' }) X.le.fe (X.le.k (by kernel_rfl)) (hF.keeps hk) fun h₂ tk₂ hF₂ hk₂ => ?_
  exact h _ _ h₂ tk₂ (by rw [joinE_cps, flat_map_mp]; rfl) hF₂ fun b o hb e => hk₂ b o hb (hk b o e)

theorem do_if8 {l : Addr} {cs : List Nat} {ms : List Value} {K : Str} {tK : Tok} (X : LCtx w A env cR cT h₀ mg mb) (hF : Fr h₀ env.locals s.heap m) (hm : m "mapped" = some (.ref l)) (hl : s.heap.PlainList l (List.toArray ms)) (hv : Paired (StrIs mapS) cs ms) (hmk : m "kept" = some (.str K tK)) (hK : K.cps.toList = keptL cs)
    (hlen : cs.length ≤ 100) (hml : ∀ c ∈ cs, (mp c).length ≤ 10) (law : (cs.flatMap mp).filter (fun c => !b1B c) = keptL cs) (h : ∀ h' tk, Sup s.heap h' → Qf .next { s with heap := h', toks := tk }) :
    wpAny (model P w) A (exec (lst 8) env) Qf E s := by
  obtain ⟨k, p2, p3, e, q, p4, p5, p6, bd, p7, he, hC, hline⟩ := ls8
  obtain ⟨scope, z1, z2, y3, z4, z5, z6, z7, z8, z9, z10, z11, rfl, hsc, hline2⟩ := hC
  rw [he]
  have hM : (joinE (cs.map mapS)).cps.toList = cs.flatMap mp := by rw [joinE_cps, flat_map_mp]
  have hMl : (joinE (cs.map mapS)).cps.toList.length ≤ 1000 := by
    rw [hM, List.length_flatMap]
    have := sum_le (xs := cs) (f := fun c => (mp c).length) (k := 10) hml
    omega
  refine wpAny_If (wpAny_isTrue_Compare1 ?_)
  refine ev_join (ys := ((joinE (cs.map mapS)).cps.toList.filter fun c => !b1B c).map sg) hline ?_ rfl ?_
  · rw [List.map_map]
    have := sum_le (xs := (joinE (cs.map mapS)).cps.toList.filter fun c => !b1B c) (f := (fun x : Str => x.length) ∘ sg) (k := 1) fun c _ => Nat.le_refl 1
    have h2 : ((joinE (cs.map mapS)).cps.toList.filter fun c => !b1B c).length ≤ 1000 := Nat.le_trans (List.length_filter_le _ _) hMl
    omega
  rintro s₁ rfl _
  refine ev_comp1 (cl := []) (fun c => !b1B c) (StrIs sg) (src_str (X := joinE (cs.map mapS)) X.room.handled ?_) hsc (clos_none hsc (by decide)) (by decide) (len_fits (by omega)) (fun _ => rfl) ?_ ?_ ?_
  · intro E' Q' hQ
    refine ev_join hline2 (ys := cs.map mapS) (Nat.le_trans (map_sum hlen hml) (by omega)) rfl ?_
    rintro s₁ rfl _
    exact nm_local X.le.fe (X.le.k (by kernel_rfl)) (by decide) hF.ns hm ⟨l, ms, rfl, hl.isList, strs_of hv, fun t' tk => hQ _ _ _ ⟨t', rfl⟩ (fun _ _ e => e) (Nat.le_refl _)⟩
  · rintro C a s₃ m₃ E' ha hn ⟨v, hv, t, rfl⟩ hk
    exact b1_test X hsc (by rfl) (by rfl) (fun b o e => hk b o (hF.keep b o e)) hn hv fun h' tk hs => ⟨rfl, keeps_of hs⟩
  · rintro C a s₃ m₃ E' ha hn ⟨v, hv, t, rfl⟩ hk
    exact nm_local (X.le.fe.comp hsc) (kc hsc (by rfl) (by decide)) (by decide) hn hv ⟨⟨t, rfl⟩, keeps_refl⟩
  intro D h' tk ys hD hp hPF hk
  refine ⟨D, ys, rfl, hp.isList, strs_of hPF, fun t' tk' => ?_⟩
  refine nm_local (s := { s with heap := h', toks := tk' }) X.le.fe (X.le.k (by kernel_rfl)) (by decide) (hF.keeps hk).ns hmk ?_
  refine PySem.P.ne_str ?_
  have e : ((joinE (((joinE (cs.map mapS)).cps.toList.filter fun c => !b1B c).map sg)).cps.toList != K.cps.toList) = false := by
    rw [joinE_cps, flat_map_sg, hM, law, hK]; simp
  rw [e]
  exact wpAny_truthy_bool (wpAny_execs_nil (h _ _ hk))

theorem do_barred {K : Str} {tK : Tok} {kl : List Nat} (X : LCtx w A env cR cT h₀ mg mb) (hF : Fr h₀ env.locals s.heap m) (hmk : m "kept" = some (.str K tK)) (hK : K.cps.toList = kl) (hlen : kl.length ≤ 1000)
    (h : ∀ D h' tk ys, s.heap.objs.size ≤ D → h'.PlainList D (List.toArray ys) → Paired (RowIs s.heap.objs.size h') kl ys → Fr h₀ env.locals h' (fun z => if z = "barred" then some (.ref D) else m z) → (∀ b o, b ≠ env.locals → s.heap.get? b = some o → h'.get? b = some o) → Qf .next { s with heap := h', toks := tk }) :
    wpAny (model P w) A (exec (lst 9) env) Qf E s := by
  subst hK
  obtain ⟨p1, e, pos, p2, he, hC, hline⟩ := ls9
  obtain ⟨scope, z1, z2, z3, z4, z5, rfl, hsc⟩ := hC
  rw [he]
  refine as_comp (cl := []) (names := ["sign"]) (as := K.cps.toList) (fun _ => true) (fun c C h y => ∃ T : Addr, y = .ref T ∧ C < T ∧ h.PlainList T (List.toArray ((barB c).map Value.bool))) (src_str X.room.handled (ev_local X.le.fe (X.le.k (by kernel_rfl)) (by decide) hF.ns hmk ⟨tK, rfl⟩))
    ⟨fun _ _ _ _ _ _ _ _ _ => wpAny_tests_nil ⟨rfl, keeps_refl⟩, ?_⟩ (clos_none hsc (by decide)) (ok_cell (names := ["sign"]) hsc (by decide)) hsc.1 (ok_names (names := ["sign"]) hsc (by decide)) (ok_x hsc (by decide)) (len_fits (by omega)) ?_ (fun _ => rfl) X.le.fe.kind (X.le.k (by kernel_rfl)) hline (by rw [hsc.2]; decide) hF ?_
  · rintro C a s₃ m₃ E' ha _ hn ⟨v, hv, t, rfl⟩ hk
    have F3 := X.F.keeps fun b o e => hk b o (hF.keep b o e)
    exact ev_call1 (X.le.fe.comp hsc) F3 F3.f19 (kc hsc (by rfl) (by decide)) (by decide) (kc hsc (by rfl) (by decide)) (by decide) hn hv (law_barred F3 X.room fun D h' tk hD hp hs => ⟨⟨D, rfl, Nat.lt_of_lt_of_le hn.lt hD, hp⟩, keeps_of hs⟩)
  · rintro a C h h' y hk ⟨T, rfl, hT, hp⟩
    exact ⟨T, rfl, hT, hp.at fun o e => hk _ o hT e⟩
  · intro D C h' tk ys hD hC hp hPF hf hk
    rw [filter_all] at hPF
    exact h D h' tk ys hD hp (hPF.mono fun c y ⟨T, e, hT, hp⟩ => ⟨T, e, Nat.le_of_lt (Nat.lt_of_le_of_lt hC hT), hp⟩) hf hk
end
end Mine
end

/-! E7 -/
section
open PySem PySem.W PyProof.Rows PySem.Calls
set_option Elab.async false
set_option maxRecDepth 100000
namespace Mine

def barAt (i c : Nat) : Bool := (barB c)[i]?.getD false

theorem plain_ne_ns {h : Heap} {l L : Addr} {xs : Array Value} {m : Str → Option Value} (x : h.PlainList l xs) (hn : h.Ns L m) : l ≠ L := by
  rintro rfl
  obtain ⟨n, e⟩ := x
  obtain ⟨o, es, ep, e', d', _⟩ := hn
  rw [e] at e'; cases e'; cases d'
theorem plain_ne_cell {h : Heap} {l c : Addr} {xs : Array Value} {v : Option Value} (x : h.PlainList l xs) (hc : h.IsCell c v) : l ≠ c := by
  rintro rfl
  obtain ⟨n, e⟩ := x
  obtain ⟨o, e', d'⟩ := hc
  rw [e] at e'; cases e'; cases d'

theorem zip_mem {α β : Type} {V : α → β → Prop} : ∀ {as : List α} {bs : List β}, Paired V as bs → ∀ q ∈ as.zip bs, V q.1 q.2
  | _, _, .nil, q, hq => by simp at hq
  | _, _, .cons hv r, q, hq => by
    rw [List.zip_cons_cons] at hq
    rcases List.mem_cons.mp hq with rfl | hq
    · exact hv
    · exact zip_mem r q hq
theorem zip_filter {α β : Type} {p : α → Bool} : ∀ {as : List α} {bs : List β}, as.length = bs.length → ((as.zip bs).filter fun q => p q.1).map (·.1) = as.filter p
  | [], [], _ => rfl
  | a :: as, b :: bs, h => by
    have ih := zip_filter (p := p) (as := as) (bs := bs) (by simpa using h)
    rw [List.zip_cons_cons]
    cases hp : p a with
    | true => rw [List.filter_cons_of_pos (by simpa using hp), List.filter_cons_of_pos hp, List.map_cons, ih]
    | false => rw [List.filter_cons_of_neg (by simp [hp]), List.filter_cons_of_neg (by simp [hp]), ih]
  | [], _ :: _, h => by simp at h
  | _ :: _, [], h => by simp at h

section
variable {w : World} {A : Around} {E : Value → Shared → Prop} {s : Shared} {mg mb : Str → Option Value} {Q : Value → Shared → Prop} {Qf : Flow → Shared → Prop} {env : Env} {m : Str → Option Value} {h₀ : Heap} {cR cT : Addr} {α : Type}

/-- what the loop over the tables reads -/
structure LoopIn (env : Env) (s : Shared) (m : Str → Option Value) (cs kl : List Nat) : Prop where
  text : ∃ l vs, m "text" = some (.ref l) ∧ s.heap.PlainList l (List.toArray vs) ∧ Paired (StrIs sg) cs vs
  kinds : ∃ l vs, m "kinds" = some (.ref l) ∧ s.heap.PlainList l (List.toArray vs) ∧ Paired (IntIs kd) cs vs
  kept : ∃ K t, m "kept" = some (.str K t) ∧ K.cps.toList = kl
  barred : ∃ l vs, m "barred" = some (.ref l) ∧ s.heap.PlainList l (List.toArray vs) ∧ Paired (RowIs 0 s.heap) kl vs

theorem do_turn {i : Nat} {t : Tok} {cs kl : List Nat} {sA : Stmt} {e : Expr} {q p5 p6 p7 : Pos} {bd : List Stmt} (X : LCtx w A env cR cT h₀ mg mb) (hA : Asg "found" C11 sA) (hC : C12 q e) (hF : Fr h₀ env.locals s.heap m) (hI : LoopIn env s m cs kl) (hc : s.heap.IsCell cT (some (.int (i : Int) t))) (hi : i < 5)
    (hlen : cs.length ≤ 100) (hlen2 : kl.length ≤ 1000) (law : kl.filter (barAt i) = cs.filter fun c => kd c == (i : Int) + 1)
    (h : ∀ v h' tk, Fr h₀ env.locals h' (fun z => if z = "found" then v else m z) → (∀ b o, b ≠ env.locals → s.heap.get? b = some o → h'.get? b = some o) → Qf .next { s with heap := h', toks := tk }) :
    wpAny (model P w) A (execs [sA, .If (.Compare (.Name "found" p5) [.NotEq] [e] p6) bd [] p7] env) Qf E s := by
  obtain ⟨p1, e1, pos, p2, rfl, hC1, hline⟩ := hA
  obtain ⟨scope, z1, z2, z3, y4, z5, z6, z7, z8, z9, z10, z11, z12, rfl, hsc⟩ := hC1
  obtain ⟨scope2, w1, w2, w3, x4, w5, w6, w7, w8, w9, w10, w11, x12, w13, w14, w15, rfl, hsc2⟩ := hC
  obtain ⟨l, vs, hm, hl, hv⟩ := hI.text
  obtain ⟨l2, ks, hm2, hl2, hv2⟩ := hI.kinds
  obtain ⟨K, tK, hmk, hK⟩ := hI.kept
  obtain ⟨l3, rs, hm3, hl3, hv3⟩ := hI.barred
  subst hK
  have F := X.F.keeps hF.keep
  have hz : (K.cps.toList.zip rs).length = K.cps.toList.length := by rw [List.length_zip, hv3.length]; exact Nat.min_self _
  refine wpAny_execs_cons ?_
  refine as_comp1 (cl := [("table", cT)]) (as := K.cps.toList.zip rs) (fun q => barAt i q.1) (StrIs fun q => sg q.1)
    (src_zip_sl (fun q u v => (∃ t, u = .str (sg q.1) t) ∧ v = q.2) X.room.handled X.le.fe F (X.le.k (by kernel_rfl)) (X.le.k (by kernel_rfl)) (by decide) (X.le.k (by kernel_rfl)) (by decide) hF.ns hmk hm3 hl3.isList (by rw [hz]; simp) (by rw [hz]; exact hv3.length.symm) (by decide) ?_)
    hsc (clos_one (init := [(".0", .local), ("sign", .local), ("row", .local)]) hsc (by decide) X.le.ct) (by decide) (len_fits (by omega)) (fun _ => rfl) X.le.fe.kind (X.le.k (by kernel_rfl)) hline (by decide) hF ?_ ?_ ?_
  · intro j q c u v e1 e2 e3
    have e2' : K.cps.toList[j]? = some c := by simpa using e2
    rw [List.getElem?_zip_eq_some] at e1
    rw [e1.1] at e2'
    rw [e1.2] at e3
    obtain rfl := Option.some.inj e2'
    obtain rfl := Option.some.inj e3
    exact ⟨⟨u, rfl⟩, rfl⟩
  · rintro C a s₃ m₃ E' ha hn ⟨u, v, hu, hv', ⟨t', rfl⟩, rfl⟩ hk
    obtain ⟨T, hT, _, hp⟩ := zip_mem hv3 a ha
    rw [hT] at hv'
    have hE' : FEnv (compEnvC scope [("table", cT)] C env) := X.le.fe.comp hsc
    refine wpAny_isTrue_value (Subscript_ (nm_local hE' (kc hsc (by rfl) (by decide)) (by decide) hn hv' (nm_cell hE' (kc_free X.le.fe.kind hsc (by rfl) (X.le.k (by kernel_rfl))) (by decide) (by rfl) (hc.keeps hk) ?_)))
    have hpl : s₃.heap.IsList T (List.toArray ((barB a.1).map Value.bool)) := hp.isList.at fun o e => hk _ o e
    have hb : (List.toArray ((barB a.1).map Value.bool))[((i : Nat) : Int).toNat]? = some (.bool (barAt i a.1)) := by
      rw [Int.toNat_natCast]
      have h5 : i < (barB a.1).length := hi
      simp [barAt, h5]
    refine tail_any hpl.typeIs slot_list_getitem.lookup (wpAny_getItem_list hpl (by omega) (by omega) hb ?_) rfl
    exact wpAny_truthy_bool ⟨rfl, keeps_refl⟩
  · rintro C a s₃ m₃ E' ha hn ⟨u, v, hu, hv', ⟨t', rfl⟩, rfl⟩ hk
    exact nm_local (X.le.fe.comp hsc) (kc hsc (by rfl) (by decide)) (by decide) hn hu ⟨⟨t', rfl⟩, keeps_refl⟩
  intro D h' tk ys hD hp hPF hf hk
  have hmf : ∀ x : Str, x ≠ "found" → (fun z : Str => if z = "found" then some (Value.ref D) else m z) x = m x := fun x hx => if_neg hx
  have cne : cT ≠ env.locals := by
    obtain ⟨o, e, d⟩ := hc
    rintro q
    obtain ⟨o', es, ep, e', d', _⟩ := hF.ns
    rw [q, e'] at e; cases e; rw [d'] at d; cases d
  have hc' : h'.IsCell cT (some (.int (i : Int) t)) := by obtain ⟨o, e, d⟩ := hc; exact ⟨o, hk _ o cne e, d⟩
  refine wpAny_execs_cons (wpAny_If (wpAny_isTrue_Compare1 (nm_local (s := { s with heap := h', toks := tk }) X.le.fe (X.le.k (by kernel_rfl)) (by decide) hf.ns rfl ?_)))
  refine ev_comp1 (s := { s with heap := h', toks := tk }) (cl := [("table", cT)]) (fun c => kd c == (i : Int) + 1) (StrIs sg)
    (src_zip_ll (s := { s with heap := h', toks := tk }) (as := cs) (fun c u v => StrIs sg c u ∧ IntIs kd c v) X.room.handled X.le.fe (X.F.keeps hf.keep) (X.le.k (by kernel_rfl)) (X.le.k (by kernel_rfl)) (by decide) (X.le.k (by kernel_rfl)) (by decide) hf.ns ((hmf _ (by decide)).trans hm) ((hmf _ (by decide)).trans hm2) (hl.isList.at fun o e => hk _ o (plain_ne_ns hl hF.ns) e) (hl2.isList.at fun o e => hk _ o (plain_ne_ns hl2 hF.ns) e) hv.length.symm hv2.length.symm (by decide) fun i q u v e1 e2 e3 => ⟨paired_at hv i q u e1 e2, paired_at hv2 i q v e1 e3⟩)
    hsc2 (clos_one (init := [(".0", .local), ("sign", .local), ("kind", .local)]) hsc2 (by decide) X.le.ct) (by decide) (len_fits (by omega)) (fun _ => rfl) ?_ ?_ ?_
  · rintro C a s₃ m₃ E' ha hn ⟨u, v, hu, hv, ⟨t, rfl⟩, t', rfl⟩ hk
    have hE' : FEnv (compEnvC scope2 [("table", cT)] C env) := X.le.fe.comp hsc2
    exact wpAny_isTrue_Compare1 (nm_local hE' (kc hsc2 (by rfl) (by decide)) (by decide) hn hv (wpAny_BinOp (nm_cell hE' (kc_free X.le.fe.kind hsc2 (by rfl) (X.le.k (by kernel_rfl))) (by decide) (by rfl) (hc'.keeps hk) (wpAny_Constant_int (PyProof.Rows.add_int (PyProof.Rows.eq_int (wpAny_truthy_bool ⟨rfl, keeps_toks⟩)))))))
  · rintro C a s₃ m₃ E' ha hn ⟨u, v, hu, hv, ⟨t, rfl⟩, t', rfl⟩ hk
    exact nm_local (X.le.fe.comp hsc2) (kc hsc2 (by rfl) (by decide)) (by decide) hn hu ⟨⟨t, rfl⟩, keeps_refl⟩
  intro D2 h'' tk2 ys2 hD2 hp2 hPF2 hkk
  have e1 := strs_of hPF
  have e2 := strs_of hPF2
  have e3 : ((K.cps.toList.zip rs).filter fun q => barAt i q.1).map (fun q => sg q.1) = (K.cps.toList.filter (barAt i)).map sg := by
    rw [← zip_filter (p := barAt i) hv3.length, List.map_map]; rfl
  rw [e3, law] at e1
  refine cmp_ne (hp.isList.at fun o e => hkk _ o e) hp2.isList (strs_eq e1 e2) (by have := X.room.units; omega) (wpAny_truthy_bool ?_)
  exact wpAny_execs_nil (wpAny_execs_nil (h _ _ _ (hf.keeps hkk) fun b o hb e => hkk b o (hk b o hb e)))
end
end Mine
end

/-! E8 -/
section
open PySem PySem.W PyProof.Rows PySem.Calls
set_option Elab.async false
set_option maxRecDepth 100000
namespace Mine

section
variable {w : World} {A : Around} {E : Value → Shared → Prop} {s : Shared} {mg mb : Str → Option Value} {Q : Value → Shared → Prop} {Qf : Flow → Shared → Prop} {env : Env} {m : Str → Option Value} {h₀ : Heap} {cR cT : Addr} {α : Type}

theorem LoopIn.keeps {cs kl : List Nat} {m' : Str → Option Value} {h' : Heap} {tk : Nat} {v : Option Value} (x : LoopIn env s m cs kl) (hn : s.heap.Ns env.locals m) (hc : s.heap.IsCell cT v) (hm : ∀ y : Str, y ≠ "found" → m' y = m y)
    (hk : ∀ b o, b ≠ env.locals → b ≠ cT → s.heap.get? b = some o → h'.get? b = some o) : LoopIn env { s with heap := h', toks := tk } m' cs kl := by
  obtain ⟨⟨l, vs, e1, hl, hv⟩, ⟨l2, ks, e2, hl2, hv2⟩, ⟨K, t, e3, hK⟩, ⟨l3, rs, e4, hl3, hv3⟩⟩ := x
  refine ⟨⟨l, vs, (hm _ (by decide)).trans e1, hl.at fun o e => hk _ o (plain_ne_ns hl hn) (plain_ne_cell hl hc) e, hv⟩, ⟨l2, ks, (hm _ (by decide)).trans e2, hl2.at fun o e => hk _ o (plain_ne_ns hl2 hn) (plain_ne_cell hl2 hc) e, hv2⟩,
    ⟨K, t, (hm _ (by decide)).trans e3, hK⟩, ⟨l3, rs, (hm _ (by decide)).trans e4, hl3.at fun o e => hk _ o (plain_ne_ns hl3 hn) (plain_ne_cell hl3 hc) e, hv3.mono ?_⟩⟩
  rintro c y ⟨T, rfl, hT, hp⟩
  exact ⟨T, rfl, hT, hp.at fun o e => hk _ o (plain_ne_ns hp hn) (plain_ne_cell hp hc) e⟩

theorem do_loop {cs kl : List Nat} {v₀ : Option Value} (X : LCtx w A env cR cT h₀ mg mb) (hF : Fr h₀ env.locals s.heap m) (hI : LoopIn env s m cs kl) (hc : s.heap.IsCell cT v₀) (hc0 : h₀.get? cT = none)
    (hlen : cs.length ≤ 100) (hlen2 : kl.length ≤ 1000) (law : ∀ i, i < 5 → kl.filter (barAt i) = cs.filter fun c => kd c == (i : Int) + 1)
    (h : ∀ m' h' tk, Fr h₀ env.locals h' m' → (∀ y : Str, y ≠ "found" → m' y = m y) → (∀ b o, b ≠ env.locals → b ≠ cT → s.heap.get? b = some o → h'.get? b = some o) → Qf .next { s with heap := h', toks := tk }) :
    wpAny (model P w) A (exec (lst 10) env) Qf E s := by
  obtain ⟨p1, p2, k, p3, p4, sA, p5, e, q, p6, bd, p7, p8, he, hA, hC⟩ := ls10
  rw [he]
  have F := X.F.keeps hF.keep
  have hLlt : env.locals < s.heap.objs.size := hF.ns.lt
  have hclt : cT < s.heap.objs.size := hc.lt
  have hLI : env.locals ≠ s.heap.objs.size + 1 := Nat.ne_of_lt (Nat.lt_succ_of_lt hLlt)
  have hcI : cT ≠ s.heap.objs.size + 1 := Nat.ne_of_lt (Nat.lt_succ_of_lt hclt)
  have cne : cT ≠ env.locals := by
    obtain ⟨o, e, d⟩ := hc
    rintro q
    obtain ⟨o', es, ep, e', d', _⟩ := hF.ns
    rw [q, e'] at e; cases e; rw [d'] at d; cases d
  refine wpAny_For (Call_ (nm_builtin X.le.fe (X.le.k (by kernel_rfl)) (by decide) F (un_range F) (by decide) b_range ?_))
  refine PyProof.Rows.callWith_type1 (args_cons (wpAny_Constant_int (args_nil ?_)))
  refine call_range_1 ?_
  dsimp only
  refine wpAny_pyIter_range (IsRange.new _ 0 5 1 _ _ _) (by decide) ?_
  have hIs : ∀ x : Obj, (s.heap.push x).objs.size = s.heap.objs.size + 1 := fun x => Heap.size_push ..
  dsimp only
  rw [hIs]
  have hInew : ∀ b ∈ [s.heap.objs.size + 1], h₀.get? b = none := fun b hb => by
    simp only [List.mem_singleton] at hb
    subst hb
    exact Heap.get?_none_of_le (Nat.le_succ_of_le (Nat.le_trans hF.above (Nat.le_of_lt hLlt)))
  have hIold : ∀ b o, s.heap.get? b = some o → b ∉ [s.heap.objs.size + 1] := fun b o e hb => by
    simp only [List.mem_singleton] at hb
    have h1 := Heap.lt_size e
    rw [hb] at h1
    exact Nat.lt_irrefl _ (Nat.lt_of_succ_lt h1)
  refine codeAny_forLoop_any (fun k s' => ∃ i h' tk m', k = 5 - i ∧ i ≤ 5 ∧ s' = { s with heap := h', toks := tk } ∧ IsRangeIter h' (s.heap.objs.size + 1) (0 + (i : Nat) * 1) ((5 : Nat) - (i : Nat)) 1 ∧ Fr h₀ env.locals h' m' ∧ (∀ y : Str, y ≠ "found" → m' y = m y) ∧
      (∃ v, h'.IsCell cT v) ∧ (∀ b o, b ≠ env.locals → b ≠ cT → s.heap.get? b = some o → h'.get? b = some o)) ?_ 5 ⟨0, _, _, m, rfl, by omega, rfl, ?_, (hF.push _).push _, fun _ _ => rfl, ⟨_, hc.keeps fun b o e => Heap.get?_push_of_some _ (Heap.get?_push_of_some _ e)⟩, fun b o _ _ e => Heap.get?_push_of_some _ (Heap.get?_push_of_some _ e)⟩
  · rintro k s' ⟨i, h', tk, m', rfl, hi, rfl, hit, hFi, hmi, ⟨vc, hci⟩, hki⟩
    have W := Walks.range (prog := P) (w := w) (A := A) X.room.handled (s.heap.objs.size + 1) 0 1 5
    by_cases hlt : i < 5
    · refine W.item i { s with heap := h', toks := tk } _ _ hlt hit fun v h₄ tk₄ hP hit₄ hk₄ => ?_
      obtain ⟨t, hv⟩ := hP
      have hv' : v = .int ((i : Nat) : Int) t := hv.trans (congrArg (fun z => Value.int z t) (by omega))
      clear hv
      subst hv'
      have hF₄ := frBut hFi hk₄ (by simpa using hLI) hInew
      have hc₄ : h₄.IsCell cT vc := by obtain ⟨o, e, d⟩ := hci; exact ⟨o, hk₄ _ o (by simpa using hcI) e, d⟩
      refine wpAny_pure ?_
      refine wpAny_assign_Name (wpAny_storeName_cell (s := { s with heap := h₄, toks := tk₄ }) X.le.fe.kind (X.le.k (by kernel_rfl)) X.le.ct hc₄ fun h₅ hc₅ hs₅ => ?_)
      have hF₅ : Fr h₀ env.locals h₅ m' := ⟨hF₄.ns.sameBut hs₅ (Ne.symm cne), fun b o e => hs₅.extBut b o (fun q => by rw [q, hc0] at e; cases e) (hF₄.keep b o e), hF₄.above⟩
      have hk₅ : ∀ b o, b ≠ env.locals → b ≠ cT → s.heap.get? b = some o → h₅.get? b = some o := fun b o hb hbc e => hs₅.extBut b o hbc (hk₄ b o (hIold b o e) (hki b o hb hbc e))
      have hit₅ : IsRangeIter h₅ (s.heap.objs.size + 1) (0 + ((i + 1 : Nat) : Nat) * 1) ((5 : Nat) - ((i + 1 : Nat) : Nat)) 1 := hs₅.extBut _ _ (Ne.symm hcI) hit₄
      refine do_turn (s := { s with heap := h₅, toks := tk₄ }) X hA hC hF₅ (hI.keeps hF.ns hc hmi hk₅) hc₅ hlt hlen hlen2 (law i hlt) fun v h₆ tk₆ hF₆ hk₆ => ?_
      have hc₆ : h₆.IsCell cT (some (.int (i : Int) t)) := by obtain ⟨o, e, d⟩ := hc₅; exact ⟨o, hk₆ _ o cne e, d⟩
      exact ⟨5 - (i + 1), by omega, i + 1, h₆, tk₆, _, rfl, by omega, rfl, hk₆ _ _ (Ne.symm hLI) hit₅, hF₆, fun y hy => (if_neg hy).trans (hmi y hy), ⟨_, hc₆⟩, fun b o hb hbc e => hk₆ b o hb (hk₅ b o hb hbc e)⟩
    · obtain rfl : i = 5 := by omega
      refine W.done { s with heap := h', toks := tk } _ _ hit fun h₄ tk₄ hk₄ => ?_
      have hF₄ := frBut hFi hk₄ (by simpa using hLI) hInew
      exact wpAny_execs_nil (h m' h₄ tk₄ hF₄ hmi fun b o hb hbc e => hk₄ b o (hIold b o e) (hki b o hb hbc e))
  · show IsRangeIter _ _ (0 + ((0 : Nat) : Int) * 1) ((5 : Nat) - ((0 : Nat) : Int)) 1
    rw [← hIs { cls := .type "range", data := .fields #[.int 0 _, .int 5 _, .int 1 _] }]
    exact Heap.get?_push_size _ rfl

theorem do_blanks {K : Str} {tK : Tok} {kl : List Nat} (X : LCtx w A env cR cT h₀ mg mb) (hF : Fr h₀ env.locals s.heap m) (hmk : m "kept" = some (.str K tK)) (hK : K.cps.toList = kl) (hlen : kl.length ≤ 1000)
    (h : ∀ D h' tk ys, s.heap.objs.size ≤ D → h'.PlainList D (List.toArray ys) → StrsAre ys ((kl.filter fun c => c == 32).map sg) → Fr h₀ env.locals h' (fun z => if z = "blanks" then some (.ref D) else m z) → (∀ b o, b ≠ env.locals → s.heap.get? b = some o → h'.get? b = some o) → Qf .next { s with heap := h', toks := tk }) :
    wpAny (model P w) A (exec (lst 11) env) Qf E s := by
  subst hK
  obtain ⟨p1, e, pos, p2, he, hC, hline⟩ := ls11
  obtain ⟨scope, z1, z2, z3, z4, z5, z6, rfl, hsc⟩ := hC
  rw [he]
  refine as_comp1 (cl := []) (names := ["sign"]) (as := K.cps.toList) (fun c => c == 32) (StrIs sg) (src_str X.room.handled (ev_local X.le.fe (X.le.k (by kernel_rfl)) (by decide) hF.ns hmk ⟨tK, rfl⟩)) hsc (clos_none hsc (by decide)) (by decide) (len_fits (by omega)) (fun _ => rfl) X.le.fe.kind (X.le.k (by kernel_rfl)) hline (by decide) hF ?_ ?_ fun D h' tk ys hD hp hPF hf hk => h D h' tk ys hD hp (strs_of hPF) hf hk
  · rintro C a s₃ m₃ E' ha hn ⟨v, hv, t, rfl⟩ hk
    have F3 := X.F.keeps fun b o e => hk b o (hF.keep b o e)
    exact wpAny_isTrue_value (ev_call1 (X.le.fe.comp hsc) F3 F3.f5 (kc hsc (by rfl) (by decide)) (by decide) (kc hsc (by rfl) (by decide)) (by decide) hn hv (in_c11 F3 (X.room.less (by omega)) fun h' tk hs => wpAny_truthy_bool ⟨rfl, keeps_of hs⟩))
  · rintro C a s₃ m₃ E' ha hn ⟨v, hv, t, rfl⟩ hk
    exact nm_local (X.le.fe.comp hsc) (kc hsc (by rfl) (by decide)) (by decide) hn hv ⟨⟨t, rfl⟩, keeps_refl⟩

def blankB (c : Nat) : Bool := c == 32 || c == 890

theorem do_ret {l lb : Addr} {cs kl : List Nat} {vs bs : List Value} (X : LCtx w A env cR cT h₀ mg mb) (hF : Fr h₀ env.locals s.heap m) (hm : m "spots" = some (.ref l)) (hl : s.heap.PlainList l (List.toArray vs)) (hv : Paired (IntIs fun c => (c : Int)) cs vs) (hmb : m "blanks" = some (.ref lb)) (hb : s.heap.PlainList lb (List.toArray bs)) (hbs : StrsAre bs ((kl.filter fun c => c == 32).map sg))
    (hlen : cs.length ≤ 100) (law : (kl.filter fun c => c == 32).map sg = (cs.filter blankB).map fun _ => (" " : Str)) (h : ∀ h' tk, Sup s.heap h' → Qf (.ret (.bool true)) { s with heap := h', toks := tk }) :
    wpAny (model P w) A (exec (lst 12) env) Qf E s := by
  obtain ⟨p1, e, q, p2, p3, he, hC⟩ := ls12
  obtain ⟨scope, y1, z2, z3, z4, z5, y6, z7, z8, z9, y10, z11, z12, z13, rfl, hsc⟩ := hC
  rw [he]
  refine wpAny_Return_some (wpAny_Compare1 (nm_local X.le.fe (X.le.k (by kernel_rfl)) (by decide) hF.ns hmb ?_))
  refine ev_comp1 (cl := []) blankB (StrIs fun _ => (" " : Str)) (src_local _ X (by kernel_rfl) (by decide) hF.ns hm hl hv) hsc (clos_none hsc (by decide)) (by decide) (len_fits (by omega)) (fun _ => rfl) ?_ ?_ ?_
  · rintro C a s₃ m₃ E' ha hn ⟨v, hv, t, rfl⟩ hk
    have hE' : FEnv (compEnvC scope [] C env) := X.le.fe.comp hsc
    have nm : ∀ (E' : Value → Shared → Prop) (s' : Shared) (p : Pos) (K : Value → Shared → Prop), s'.heap = s₃.heap → K (.int (a : Int) t) s' → wpAny (model P w) A (eval (.Name "spot" p) (compEnvC scope [] C env)) K E' s' := fun E' s' p K e hK => nm_local hE' (kc hsc (by rfl) (by decide)) (by decide) (e ▸ hn) hv hK
    refine isTrue_or (wpAny_isTrue_Compare1 (nm _ _ _ _ rfl (wpAny_Constant_int (PyProof.Rows.eq_int (wpAny_truthy_bool ?_)))))
    by_cases c1 : a = 32
    · subst c1
      exact ⟨rfl, keeps_toks⟩
    · have e1 : ((a : Int) == 32) = false := by simpa using (by omega : ¬ (a : Int) = 32)
      rw [e1, if_neg Bool.false_ne_true]
      refine isTrue_or (wpAny_isTrue_Compare1 (nm _ _ _ _ rfl (wpAny_Constant_int (PyProof.Rows.eq_int (wpAny_truthy_bool ?_)))))
      by_cases c2 : a = 890
      · subst c2
        exact ⟨rfl, keeps_toks⟩
      · have e2 : ((a : Int) == 890) = false := by simpa using (by omega : ¬ (a : Int) = 890)
        rw [e2, if_neg Bool.false_ne_true]
        refine isTrue_or_nil ⟨?_, keeps_toks⟩
        unfold blankB
        simp [c1, c2]
  · rintro C a s₃ m₃ E' ha hn ⟨v, hv, t, rfl⟩ hk
    exact wpAny_Constant_str ⟨⟨_, rfl⟩, keeps_toks⟩
  intro D h' tk ys hD hp hPF hk
  have e1 := strs_of hPF
  rw [← law] at e1
  exact cmp_eq (hb.isList.at fun o e => hk _ o e) hp.isList (strs_eq hbs e1) (by have := X.room.units; omega) (h _ _ hk)
end
end Mine
end

/-! E9 -/
section
open PySem PySem.W PyProof.Rows PySem.Calls
set_option Elab.async false
set_option maxRecDepth 100000
namespace Mine

/-- what the law asks of the drawn code points -/
structure LawOk (cs : List Nat) : Prop where
  b1 : ∀ c ∈ cs, b1B c = (kd c == 0)
  same : ∀ c ∈ cs, kd c < 6 → mapS c = sg c
  short : ∀ c ∈ cs, (mp c).length ≤ 10
  keep : (cs.flatMap mp).filter (fun c => !b1B c) = keptL cs
  bars : ∀ i, i < 5 → (keptL cs).filter (barAt i) = cs.filter fun c => kd c == (i : Int) + 1
  blank : ((keptL cs).filter fun c => c == 32).map sg = (cs.filter blankB).map fun _ => (" " : Str)

theorem RunsAt.but {h h' : Heap} {R x : Addr} {rs : List Run3} (y : RunsAt h R rs) (hne : R ≠ x) (ht : KeepsTup h h') (k : ∀ b o, b ≠ x → h.get? b = some o → h'.get? b = some o) : RunsAt h' R rs := by
  obtain ⟨items, ⟨o, n, e, r⟩, a⟩ := y
  exact ⟨items, ⟨o, n, k _ _ hne e, r⟩, a.keeps ht⟩
theorem keepsTup_cell {h h' : Heap} {c : Addr} {v : Option Value} (hc : h.IsCell c v) (k : ∀ b o, b ≠ c → h.get? b = some o → h'.get? b = some o) : KeepsTup h h' := fun b xs e => k b _ (fun q => by
  subst q
  obtain ⟨o, e', d⟩ := hc
  rw [e] at e'; cases e'; cases d) e
theorem runs_ne_ns {h : Heap} {R L : Addr} {rs : List Run3} {m : Str → Option Value} (y : RunsAt h R rs) (hn : h.Ns L m) : R ≠ L := by
  rintro rfl
  obtain ⟨items, ⟨o, n, e, _, _, d⟩, _⟩ := y
  obtain ⟨o', es, ep, e', d', _⟩ := hn
  rw [e] at e'; cases e'; rw [d] at d'; cases d'
theorem runs_ne_cell {h : Heap} {R c : Addr} {rs : List Run3} {v : Option Value} (y : RunsAt h R rs) (hc : h.IsCell c v) : R ≠ c := by
  rintro rfl
  obtain ⟨items, ⟨o, n, e, _, _, d⟩, _⟩ := y
  obtain ⟨o', e', d'⟩ := hc
  rw [e] at e'; cases e'; rw [d] at d'; cases d'
theorem cell_ne_ns {h : Heap} {c L : Addr} {v : Option Value} {m : Str → Option Value} (hc : h.IsCell c v) (hn : h.Ns L m) : c ≠ L := by
  rintro rfl
  obtain ⟨o, e, d⟩ := hc
  obtain ⟨o', es, ep, e', d', _⟩ := hn
  rw [e] at e'; cases e'; rw [d] at d'; cases d'
theorem cell_at {h h' : Heap} {c : Addr} {v : Option Value} (hc : h.IsCell c v) (k : ∀ o, h.get? c = some o → h'.get? c = some o) : h'.IsCell c v := let ⟨o, e, d⟩ := hc; ⟨o, k o e, d⟩

section
variable {w : World} {A : Around} {E : Value → Shared → Prop} {s : Shared} {mg mb : Str → Option Value} {Q : Value → Shared → Prop} {Qf : Flow → Shared → Prop} {env : Env} {m : Str → Option Value} {h₀ : Heap} {cR cT : Addr}

theorem do_runs {v₀ : Option Value} (X : LCtx w A env cR cT h₀ mg mb) (hF : Fr h₀ env.locals s.heap m) (hc : s.heap.IsCell cR v₀) (hc0 : h₀.get? cR = none)
    (h : ∀ R h' tk, RunsAt h' R runsAll → h'.IsCell cR (some (.ref R)) → Fr h₀ env.locals h' m → (∀ b o, b ≠ cR → s.heap.get? b = some o → h'.get? b = some o) → Qf .next { s with heap := h', toks := tk }) :
    wpAny (model P w) A (exec (lst 0) env) Qf E s := by
  obtain ⟨p1, p2, p3, p4, he⟩ := ls0
  rw [he]
  have F := X.F.keeps hF.keep
  refine wpAny_Assign_Name ?_
  obtain ⟨a', ha', pm, c', doc, ho, _⟩ := F.f16
  refine Call_ (nm_global X.le.fe (X.le.k (by kernel_rfl)) (by decide) F ha' (callWith_meth0 rfl ho ?_))
  obtain ⟨a, ha, hcall⟩ := law_runs (A := A) (E := E) (Q := fun v s₁ => wpAny (model P w) A (storeName env "runs" v) (fun _ s' => Qf .next s') E s₁) F (X.room.less (by omega)) fun R h' tk hs hR hruns => by
    have hc' : h'.IsCell cR v₀ := hc.keeps hs
    refine wpAny_storeName_cell (s := { s with heap := h', toks := tk }) X.le.fe.kind (X.le.k (by kernel_rfl)) X.le.cr hc' fun h₂ hc₂ hs₂ => ?_
    refine h R h₂ tk (hruns.but (runs_ne_cell hruns hc') (keepsTup_cell hc' fun b o hb e => hs₂.extBut b o hb e) fun b o hb e => hs₂.extBut b o hb e) hc₂ ⟨(hF.ns.keeps hs).sameBut hs₂ (Ne.symm (cell_ne_ns hc hF.ns)), fun b o e => hs₂.extBut b o (fun q => by rw [q, hc0] at e; cases e) (hs b o (hF.keep b o e)), hF.above⟩ fun b o hb e => hs₂.extBut b o hb (hs b o e)
  rw [ha] at ha'
  obtain rfl : a = a' := by simpa using ha'
  exact hcall

theorem up_ne {y z : Str} {v : Option Value} (h : y ≠ z) : (fun x : Str => if x = z then v else m x) y = m y := if_neg h
theorem up_eq {z : Str} {v : Option Value} : (fun x : Str => if x = z then v else m x) z = v := if_pos rfl

theorem up_2 {y z : Str} {v u : Option Value} (h : y ≠ z) : (fun x : Str => if x = z then v else (fun x : Str => if x = y then u else m x) x) y = u := (if_neg h).trans (if_pos rfl)

/-- the law's body -/
theorem do_law {l : Addr} {ns : List Int} {vs : List Value} {v₀ v₁ : Option Value} (X : LCtx w A env cR cT h₀ mg mb) (hF : Fr h₀ env.locals s.heap m) (hcr : s.heap.IsCell cR v₀) (hct : s.heap.IsCell cT v₁) (hcr0 : h₀.get? cR = none) (hct0 : h₀.get? cT = none) (hne : cR ≠ cT)
    (hm : m "script" = some (.ref l)) (hl : h₀.IsList l (List.toArray vs)) (hv : IntsAre vs ns) (hlen : ns.length ≤ 63) (law : ∀ cs : List Nat, (∀ c ∈ cs, c ≤ 1114111) → LawOk cs)
    (h : ∀ h' tk, Sup h₀ h' → Qf (.ret (.bool true)) { s with heap := h', toks := tk }) :
    wpAny (model P w) A (execs (fdBody (stm 20)) env) Qf E s := by
  rw [law_is]
  refine wpAny_execs_cons (do_runs X hF hcr hcr0 fun R h₁ t₁ hR₁ hcr₁ hF₁ hk₁ => ?_)
  have hct₁ := cell_at hct fun o e => hk₁ _ o (Ne.symm hne) e
  refine wpAny_execs_cons (do_spots (s := { s with heap := h₁, toks := t₁ }) X hF₁ hm (hl.at fun o e => hF₁.keep _ o e) hv hlen hcr₁ hR₁ fun Ds h₂ t₂ ys cs hDs hps hcl hcb hsp hF₂ hk₂ => ?_)
  have L := law cs hcb
  have hR₂ := hR₁.but (runs_ne_ns hR₁ hF₁.ns) (keepsTup_but hF₁.ns hk₂) hk₂
  have hcr₂ := cell_at hcr₁ fun o e => hk₂ _ o (cell_ne_ns hcr₁ hF₁.ns) e
  have hct₂ := cell_at hct₁ fun o e => hk₂ _ o (cell_ne_ns hct₁ hF₁.ns) e
  refine wpAny_execs_cons (do_kinds (s := { s with heap := h₂, toks := t₂ }) X hF₂ up_eq hps hsp hcl hcr₂ hR₂ fun Dk h₃ t₃ ks hDk hpk hkk hF₃ hk₃ => ?_)
  have hps₃ := hps.at fun o e => hk₃ _ o (plain_ne_ns hps hF₂.ns) e
  have hct₃ := cell_at hct₂ fun o e => hk₃ _ o (cell_ne_ns hct₂ hF₂.ns) e
  refine wpAny_execs_cons (do_text (s := { s with heap := h₃, toks := t₃ }) X hF₃ (up_2 (by decide)) hps₃ hsp hcl hcb fun Dt h₄ t₄ ts hDt hpt htt hF₄ hk₄ => ?_)
  have hps₄ := hps₃.at fun o e => hk₄ _ o (plain_ne_ns hps₃ hF₃.ns) e
  have hpk₄ := hpk.at fun o e => hk₄ _ o (plain_ne_ns hpk hF₃.ns) e
  have hct₄ := cell_at hct₃ fun o e => hk₄ _ o (cell_ne_ns hct₃ hF₃.ns) e
  refine wpAny_execs_cons (do_mapped (s := { s with heap := h₄, toks := t₄ }) X hF₄ up_eq hpt htt hcl fun Dm h₅ t₅ ms hDm hpm hmm hF₅ hk₅ => ?_)
  have hps₅ := hps₄.at fun o e => hk₅ _ o (plain_ne_ns hps₄ hF₄.ns) e
  have hpk₅ := hpk₄.at fun o e => hk₅ _ o (plain_ne_ns hpk₄ hF₄.ns) e
  have hpt₅ := hpt.at fun o e => hk₅ _ o (plain_ne_ns hpt hF₄.ns) e
  have hct₅ := cell_at hct₄ fun o e => hk₅ _ o (cell_ne_ns hct₄ hF₄.ns) e
  have mt₅ : (fun z : Str => if z = "mapped" then some (Value.ref Dm) else if z = "text" then some (Value.ref Dt) else if z = "kinds" then some (Value.ref Dk) else if z = "spots" then some (Value.ref Ds) else m z) "text" = some (.ref Dt) := (if_neg (by decide)).trans (if_pos rfl)
  have mk₅ : (fun z : Str => if z = "mapped" then some (Value.ref Dm) else if z = "text" then some (Value.ref Dt) else if z = "kinds" then some (Value.ref Dk) else if z = "spots" then some (Value.ref Ds) else m z) "kinds" = some (.ref Dk) := (if_neg (by decide)).trans ((if_neg (by decide)).trans (if_pos rfl))
  have ms₅ : (fun z : Str => if z = "mapped" then some (Value.ref Dm) else if z = "text" then some (Value.ref Dt) else if z = "kinds" then some (Value.ref Dk) else if z = "spots" then some (Value.ref Ds) else m z) "spots" = some (.ref Ds) := (if_neg (by decide)).trans ((if_neg (by decide)).trans ((if_neg (by decide)).trans (if_pos rfl)))
  have mm₅ : (fun z : Str => if z = "mapped" then some (Value.ref Dm) else if z = "text" then some (Value.ref Dt) else if z = "kinds" then some (Value.ref Dk) else if z = "spots" then some (Value.ref Ds) else m z) "mapped" = some (.ref Dm) := if_pos rfl
  generalize (fun z : Str => if z = "mapped" then some (Value.ref Dm) else if z = "text" then some (Value.ref Dt) else if z = "kinds" then some (Value.ref Dk) else if z = "spots" then some (Value.ref Ds) else m z) = m₅ at hF₅ mt₅ mk₅ ms₅ mm₅
  refine wpAny_execs_cons (do_if5 (s := { s with heap := h₅, toks := t₅ }) X hF₅ mt₅ hpt₅ htt mk₅ hpk₅ hkk hcl L.b1 fun h₆ t₆ hk₆ => ?_)
  have hF₆ := hF₅.keeps hk₆
  refine wpAny_execs_cons (do_if6 (s := { s with heap := h₆, toks := t₆ }) X hF₆ mt₅ (hpt₅.at fun o e => hk₆ _ o e) htt mk₅ (hpk₅.at fun o e => hk₆ _ o e) hkk mm₅ (hpm.at fun o e => hk₆ _ o e) hmm hcl L.same fun h₇ t₇ hk₇ => ?_)
  have hF₇ := hF₆.keeps hk₇
  have u₇ : Sup h₅ h₇ := fun b o e => hk₇ b o (hk₆ b o e)
  have hps₇ := hps₅.at fun o e => u₇ _ o e
  have hpk₇ := hpk₅.at fun o e => u₇ _ o e
  have hpt₇ := hpt₅.at fun o e => u₇ _ o e
  have hpm₇ := hpm.at fun o e => u₇ _ o e
  have hct₇ := cell_at hct₅ fun o e => u₇ _ o e
  refine wpAny_execs_cons (do_kept (s := { s with heap := h₇, toks := t₇ }) X hF₇ mt₅ hpt₇ htt hcl L.short fun K tK h₈ t₈ hK hF₈ hk₈ => ?_)
  have hps₈ := hps₇.at fun o e => hk₈ _ o (plain_ne_ns hps₇ hF₇.ns) e
  have hpk₈ := hpk₇.at fun o e => hk₈ _ o (plain_ne_ns hpk₇ hF₇.ns) e
  have hpt₈ := hpt₇.at fun o e => hk₈ _ o (plain_ne_ns hpt₇ hF₇.ns) e
  have hpm₈ := hpm₇.at fun o e => hk₈ _ o (plain_ne_ns hpm₇ hF₇.ns) e
  have hct₈ := cell_at hct₇ fun o e => hk₈ _ o (cell_ne_ns hct₇ hF₇.ns) e
  refine wpAny_execs_cons (do_if8 (s := { s with heap := h₈, toks := t₈ }) X hF₈ ((up_ne (by decide)).trans mm₅) hpm₈ hmm up_eq hK hcl L.short L.keep fun h₉ t₉ hk₉ => ?_)
  have hF₉ := hF₈.keeps hk₉
  have hkl : (keptL cs).length ≤ 1000 := by
    unfold keptL
    rw [List.length_flatMap]
    have e1 : (cs.filter fun c => !b1B c).length ≤ cs.length := List.length_filter_le _ _
    have := sum_le (xs := cs.filter fun c => !b1B c) (f := fun c => (mp c).length) (k := 10) fun c hc => L.short c (List.mem_filter.mp hc).1
    omega
  refine wpAny_execs_cons (do_barred (s := { s with heap := h₉, toks := t₉ }) X hF₉ up_eq hK hkl fun Db h₁₀ t₁₀ bs hDb hpb hbb hF₁₀ hk₁₀ => ?_)
  have hps₉ := hps₈.at fun o e => hk₉ _ o e
  have hpk₉ := hpk₈.at fun o e => hk₉ _ o e
  have hpt₉ := hpt₈.at fun o e => hk₉ _ o e
  have hct₉ := cell_at hct₈ fun o e => hk₉ _ o e
  have hps₁₀ := hps₉.at fun o e => hk₁₀ _ o (plain_ne_ns hps₉ hF₉.ns) e
  have hpk₁₀ := hpk₉.at fun o e => hk₁₀ _ o (plain_ne_ns hpk₉ hF₉.ns) e
  have hpt₁₀ := hpt₉.at fun o e => hk₁₀ _ o (plain_ne_ns hpt₉ hF₉.ns) e
  have hct₁₀ := cell_at hct₉ fun o e => hk₁₀ _ o (cell_ne_ns hct₉ hF₉.ns) e
  have mt₁₀ : (fun z : Str => if z = "barred" then some (Value.ref Db) else if z = "kept" then some (Value.str K tK) else m₅ z) "text" = some (.ref Dt) := (if_neg (by decide)).trans ((if_neg (by decide)).trans mt₅)
  have mk₁₀ : (fun z : Str => if z = "barred" then some (Value.ref Db) else if z = "kept" then some (Value.str K tK) else m₅ z) "kinds" = some (.ref Dk) := (if_neg (by decide)).trans ((if_neg (by decide)).trans mk₅)
  have ms₁₀ : (fun z : Str => if z = "barred" then some (Value.ref Db) else if z = "kept" then some (Value.str K tK) else m₅ z) "spots" = some (.ref Ds) := (if_neg (by decide)).trans ((if_neg (by decide)).trans ms₅)
  refine wpAny_execs_cons (do_loop (s := { s with heap := h₁₀, toks := t₁₀ }) (cs := cs) (kl := keptL cs) X hF₁₀ ⟨⟨Dt, ts, mt₁₀, hpt₁₀, htt⟩, ⟨Dk, ks, mk₁₀, hpk₁₀, hkk⟩, ⟨K, tK, up_2 (by decide), hK⟩, ⟨Db, bs, up_eq, hpb, hbb.mono fun c y ⟨T, e, _, hp⟩ => ⟨T, e, Nat.zero_le _, hp⟩⟩⟩ hct₁₀ hct0 hcl hkl L.bars fun m₁₁ h₁₁ t₁₁ hF₁₁ hm₁₁ hk₁₁ => ?_)
  have hps₁₁ := hps₁₀.at fun o e => hk₁₁ _ o (plain_ne_ns hps₁₀ hF₁₀.ns) (plain_ne_cell hps₁₀ hct₁₀) e
  refine wpAny_execs_cons (do_blanks (s := { s with heap := h₁₁, toks := t₁₁ }) X hF₁₁ ((hm₁₁ _ (by decide)).trans (up_2 (by decide))) hK hkl fun Dl h₁₂ t₁₂ ls hDl hpl hll hF₁₂ hk₁₂ => ?_)
  have hps₁₂ := hps₁₁.at fun o e => hk₁₂ _ o (plain_ne_ns hps₁₁ hF₁₁.ns) e
  refine wpAny_execs_cons (do_ret (s := { s with heap := h₁₂, toks := t₁₂ }) (cs := cs) (kl := keptL cs) X hF₁₂ ((if_neg (by decide)).trans ((hm₁₁ _ (by decide)).trans ms₁₀)) hps₁₂ hsp up_eq hpl hll hcl L.blank fun h₁₃ t₁₃ hk₁₃ => ?_)
  exact h h₁₃ t₁₃ fun b o e => hk₁₃ b o (hF₁₂.keep b o e)
end
end Mine
end

/-! F1 -/
section
open PySem PySem.W PyProof.Rows PySem.Calls
set_option Elab.async false
set_option maxRecDepth 100000
namespace Mine

def lawNames : List (Str × NameKind) := (fdScope (stm 20)).names
theorem names_are : lawNames = ([("script", .local), ("runs", .cell), ("spots", .local), ("kinds", .local), ("text", .local), ("mapped", .local), ("kept", .local), ("barred", .local), ("table", .cell), ("found", .local), ("blanks", .local), ("_law_runs", .globalImplicit), ("zip", .globalImplicit), ("range", .globalImplicit)] : List (Str × NameKind)) := by kernel_rfl
theorem cells_are (N : Nat) : cellsFrom (N + 1) (fdScope (stm 20)).names [] = ([("table", N + 2), ("runs", N + 1)] : List (Str × Addr)) := by
  rw [show (fdScope (stm 20)).names = _ from names_are]; rfl

section
variable {w : World} {A : Around} {E : Value → Shared → Prop} {s : Shared} {mg mb : Str → Option Value} {Q : Value → Shared → Prop}

theorem law_call {l : Addr} {ns : List Int} {vs : List Value} (F : FactsM w s.heap mg mb) (hr : Room A 3) (hl : s.heap.IsList l (List.toArray vs)) (hv : IntsAre vs ns) (hlen : ns.length ≤ 63) (law : ∀ cs : List Nat, (∀ c ∈ cs, c ≤ 1114111) → LawOk cs)
    (h : ∀ h' tk, Sup s.heap h' → Q (.bool true) { s with heap := h', toks := tk }) :
    ∃ a, mg "law" = some (.ref a) ∧ wpAny (model P w) A (call (.ref a) [.ref l]) Q E s := by
  obtain ⟨a, ha, pm, c', doc, g, r⟩ := F.f20
  refine ⟨a, ha, wpAny_call ?_⟩
  have hbind : bindArgs (defFd (fdName (stm 20)) (fdName (stm 20)) (fdParams (stm 20)) (fdBody (stm 20)) (fdScope (stm 20)) mainGlobals .none .none none pm (.ref c') doc) ⟨[.ref l], []⟩ = pure [(("script" : Str), Value.ref l)] := by kernel_rfl
  have hsc : ((fdScope (stm 20)).isCoroutine, (fdScope (stm 20)).isGenerator, (fdScope (stm 20)).kind) = (false, false, .function) := by kernel_rfl
  obtain ⟨h1, h2, h3⟩ : _ ∧ _ ∧ _ := by simpa only [Prod.mk.injEq] using hsc
  have ks : (fdScope (stm 20)).names.lookup ("script" : Str) = some .local := by kernel_rfl
  refine codeAny_call_cells (by have := hr.depth; omega) g rfl F.lim r rfl hbind rfl (fun x hx => .inl ?_) (fun s₁ x => ?_) h1 h2 h3
  · simp only [List.mem_singleton] at hx
    subst hx
    exact ks
  generalize hfd : defFd (fdName (stm 20)) (fdName (stm 20)) (fdParams (stm 20)) (fdBody (stm 20)) (fdScope (stm 20)) mainGlobals .none .none none pm (.ref c') doc = fd at x ⊢
  have hcells : (callEnvC fd s.heap.objs.size a).cells = ([("table", s.heap.objs.size + 2), ("runs", s.heap.objs.size + 1)] : List (Str × Addr)) := by
    subst hfd
    exact cells_are _
  have hscope : (callEnvC fd s.heap.objs.size a).scope = fdScope (stm 20) := by subst hfd; rfl
  have hE : FEnv (callEnvC fd s.heap.objs.size a) := by subst hfd; exact ⟨h3, rfl, rfl⟩
  have hloc : (callEnvC fd s.heap.objs.size a).locals = s.heap.objs.size := rfl
  have hk : (callEnvC fd s.heap.objs.size a).kindOf "script" = some .local := by unfold Env.kindOf; rw [hscope]; exact ks
  generalize callEnvC fd s.heap.objs.size a = env at x hcells hscope hE hloc hk ⊢
  obtain ⟨⟨⟨h₁, t₁, rfl⟩, hns, hkeep, hfresh⟩, hcell, _, _⟩ := x
  have hr2 : Room (A.deeper env) 2 := hr.deeper env
  have cr : env.cells.lookup ("runs" : Str) = some (s.heap.objs.size + 1) := by rw [hcells]; rfl
  have ct : env.cells.lookup ("table" : Str) = some (s.heap.objs.size + 2) := by rw [hcells]; rfl
  have X : LCtx w (A.deeper env) env (s.heap.objs.size + 1) (s.heap.objs.size + 2) s.heap mg mb := ⟨⟨hE, hscope, cr, ct⟩, F, hr2⟩
  refine wpAny_mono (do_law (E := fun _ _ => False) (Qf := fun f s' => Q (match f with | .ret v => v | _ => .none) s') X ⟨hns, hkeep, hfresh⟩ (hcell _ _ cr) (hcell _ _ ct) (Heap.get?_none_of_le (Nat.le_succ _)) (Heap.get?_none_of_le (Nat.le_add_right _ 2)) (Nat.ne_of_lt (Nat.lt_succ_self _)) (l := l) ?_ hl hv hlen law fun h' tk hs => h h' tk hs) (fun f s' q => q) fun _ _ q => q.elim
  show bindL env.kindOf [(("script" : Str), Value.ref l)] (fun _ => none) "script" = _
  unfold bindL
  rw [if_pos hk]
  unfold bindL
  exact if_pos rfl
end
end Mine
end

/-! G1 -/
section
open PySem PySem.W PyProof.Rows PySem.Calls
set_option Elab.async false
set_option maxRecDepth 100000
namespace Mine

def six (x : Int) : Bool := runsAll.all fun r => decide (x < r.1) || decide (r.2.1 < x)
def kindsOk : Bool := runsAll.all fun r => decide (0 ≤ r.2.2) && decide (r.2.2 < 6)
def inRuns (x : Int) : Bool := runsAll.any fun r => decide (r.1 ≤ x) && decide (x ≤ r.2.1)
def offN (a b : Nat) : Bool := runsAll.all fun r => Nat.ble (b + 1) r.1.toNat || Nat.ble (r.2.1.toNat + 1) a
def tabOk (kv : Int × Str) : Bool := offN kv.1.toNat kv.1.toNat && (kv.2.cps.toList.all fun d => offN d d && Nat.ble d 1114111) && Nat.ble kv.2.cps.toList.length 10 &&
  ((kv.2.cps.toList.filter fun d => d == 32) == if kv.1 == 32 || kv.1 == 890 then [32] else [])
def lowOk (q : Nat × Nat × Nat) : Bool := offN q.1 q.2.1 && offN q.2.2 (q.2.2 + (q.2.1 - q.1)) && Nat.ble (q.2.2 + (q.2.1 - q.1)) 1114111 &&
  (Nat.ble (q.2.1 + 1) 32 || Nat.ble 33 q.1) && (Nat.ble (q.2.1 + 1) 890 || Nat.ble 891 q.1) && (Nat.ble (q.2.2 + (q.2.1 - q.1) + 1) 32 || Nat.ble 33 q.2.2)
def setsOk (c : Nat) : Bool := (b1B c == (kd c == 0)) && (List.range 5).all fun i => barAt i c == (kd c == (i : Int) + 1)
def runPts (r : Run3) : List Nat := (List.range (r.2.1.toNat + 1 - r.1.toNat)).map (r.1.toNat + ·)

theorem chk_kinds : kindsOk = true := by kernel_rfl
theorem chk_six : (six 32 && six 890 && six 304) = true := by kernel_rfl
theorem chk_890 : ((b3get b3tab 890).isSome && (b3get b3tab 304).isSome && (b3get b3tab 32).isNone) = true := by kernel_rfl
theorem chk_tab1 : (b3tab.take 300).all tabOk = true := by kernel_rfl
theorem chk_tab2 : (b3tab.drop 300).all tabOk = true := by kernel_rfl
theorem chk_low0 : UnicodeData.oneLower0.all lowOk = true := by kernel_rfl
theorem chk_low1 : UnicodeData.oneLower1.all lowOk = true := by kernel_rfl
theorem chk_low2 : UnicodeData.oneLower2.all lowOk = true := by kernel_rfl
theorem chk_tab : b3tab.all tabOk = true := by
  have h : (b3tab.take 300 ++ b3tab.drop 300).all tabOk = true := by rw [List.all_append, chk_tab1, chk_tab2]; rfl
  rwa [List.take_append_drop] at h
theorem chk_low : UnicodeData.oneLower.all lowOk = true := by
  show (UnicodeData.oneLower0 ++ UnicodeData.oneLower1 ++ UnicodeData.oneLower2).all lowOk = true
  rw [List.all_append, List.all_append, chk_low0, chk_low1, chk_low2]; rfl
theorem chk_sets : ([1, 7, 9, 11, 13].all fun j => (setOf j).all inRuns) = true := by kernel_rfl
theorem chk_pts1 : ((runsAll.take 10).all fun r => (runPts r).all setsOk) = true := by kernel_rfl
theorem chk_pts2 : (((runsAll.drop 10).take 6).all fun r => (runPts r).all setsOk) = true := by kernel_rfl
theorem chk_pts3 : ((((runsAll.drop 10).drop 6).take 1).all fun r => (runPts r).all setsOk) = true := by kernel_rfl
theorem chk_pts4 : ((((runsAll.drop 10).drop 6).drop 1).all fun r => (runPts r).all setsOk) = true := by kernel_rfl
theorem chk_pts : (runsAll.all fun r => (runPts r).all setsOk) = true := by
  have h : ((runsAll.take 10 ++ ((runsAll.drop 10).take 6 ++ (((runsAll.drop 10).drop 6).take 1 ++ ((runsAll.drop 10).drop 6).drop 1))).all fun r => (runPts r).all setsOk) = true := by
    rw [List.all_append, List.all_append, List.all_append, chk_pts1, chk_pts2, chk_pts3, chk_pts4]; rfl
  rwa [List.take_append_drop, List.take_append_drop, List.take_append_drop] at h
end Mine
end

/-! G2 -/
section
open PySem PySem.W PyProof.Rows PySem.Calls
set_option Elab.async false
set_option maxRecDepth 100000
namespace Mine

theorem six_kind : ∀ {rs : List Run3} {x : Int}, (rs.all fun r => decide (x < r.1) || decide (r.2.1 < x)) = true → kindIn rs x = 6
  | [], _, _ => rfl
  | r :: q, x, h => by
    rw [List.all_cons, Bool.and_eq_true, Bool.or_eq_true, decide_eq_true_eq, decide_eq_true_eq] at h
    show (if r.1 ≤ x ∧ x ≤ r.2.1 then r.2.2 else kindIn q x) = 6
    rw [if_neg (by omega)]
    exact six_kind h.2
theorem kind_mem : ∀ {rs : List Run3} {x : Int}, kindIn rs x ≠ 6 → ∃ r ∈ rs, r.1 ≤ x ∧ x ≤ r.2.1
  | [], _, h => absurd rfl h
  | r :: q, x, h => by
    by_cases c : r.1 ≤ x ∧ x ≤ r.2.1
    · exact ⟨r, List.mem_cons_self, c⟩
    · have e : kindIn (r :: q) x = kindIn q x := if_neg c
      rw [e] at h
      obtain ⟨r', h1, h2⟩ := kind_mem h
      exact ⟨r', List.mem_cons_of_mem _ h1, h2⟩
theorem kind_lt6 : ∀ {rs : List Run3} {x : Int}, (rs.all fun r => decide (0 ≤ r.2.2) && decide (r.2.2 < 6)) = true → (∃ r ∈ rs, r.1 ≤ x ∧ x ≤ r.2.1) → 0 ≤ kindIn rs x ∧ kindIn rs x < 6
  | [], _, _, ⟨r, h, _⟩ => nomatch h
  | r :: q, x, hk, h => by
    rw [List.all_cons, Bool.and_eq_true, Bool.and_eq_true, decide_eq_true_eq, decide_eq_true_eq] at hk
    by_cases c : r.1 ≤ x ∧ x ≤ r.2.1
    · have e : kindIn (r :: q) x = r.2.2 := if_pos c
      rw [e]; exact hk.1
    · have e : kindIn (r :: q) x = kindIn q x := if_neg c
      rw [e]
      refine kind_lt6 hk.2 ?_
      obtain ⟨r', h1, h2⟩ := h
      rcases List.mem_cons.mp h1 with rfl | h1
      · exact absurd h2 c
      · exact ⟨r', h1, h2⟩

theorem in_lt6 {x : Int} (h : ∃ r ∈ runsAll, r.1 ≤ x ∧ x ≤ r.2.1) : 0 ≤ kindIn runsAll x ∧ kindIn runsAll x < 6 := kind_lt6 chk_kinds h
theorem six_kd {c : Nat} (h : six (c : Int) = true) : kd c = 6 := six_kind h
theorem offN_six {a b x : Nat} (h : offN a b = true) (h1 : a ≤ x) (h2 : x ≤ b) : six (x : Int) = true := by
  refine List.all_eq_true.mpr fun r hr => ?_
  have := List.all_eq_true.mp h r hr
  have ok := run_ok hr
  rw [Bool.or_eq_true, Nat.ble_eq, Nat.ble_eq] at this
  rw [Bool.or_eq_true, decide_eq_true_eq, decide_eq_true_eq]
  omega
theorem inRuns_of {x : Int} (h : inRuns x = true) : ∃ r ∈ runsAll, r.1 ≤ x ∧ x ≤ r.2.1 := by
  obtain ⟨r, hr, h⟩ := List.any_eq_true.mp h
  rw [Bool.and_eq_true, decide_eq_true_eq, decide_eq_true_eq] at h
  exact ⟨r, hr, h⟩

/-- no set holds a sign of kind six -/
theorem set_six {j : Nat} {c : Nat} (hj : j ∈ [1, 7, 9, 11, 13]) (h : kd c = 6) : ((setOf j).any (· == (c : Int))) = false := by
  cases e : (setOf j).any (· == (c : Int)) with
  | false => rfl
  | true =>
    obtain ⟨x, hx, hxc⟩ := List.any_eq_true.mp e
    obtain rfl : x = (c : Int) := eq_of_beq hxc
    have := in_lt6 (inRuns_of (List.all_eq_true.mp (List.all_eq_true.mp chk_sets j hj) _ hx))
    unfold kd at h
    omega
theorem plane_mem {p : Nat} (h : p < 17) : planeRun p ∈ runsAll := List.mem_append_right _ (List.mem_map.mpr ⟨p, List.mem_range.mpr h, rfl⟩)
theorem c4_six {c : Nat} (hc : c ≤ 1114111) (h : kd c = 6) : c4B c = false := by
  cases e : c4B c with
  | false => rfl
  | true =>
    exfalso
    unfold c4B at e
    by_cases h1 : (c : Int) < 64976
    · rw [if_pos h1] at e; cases e
    rw [if_neg h1] at e
    by_cases h2 : (c : Int) < 65008
    · have off : (runsAll.any fun r => decide (r.1 ≤ 64976) && decide (65007 ≤ r.2.1)) = true := by kernel_rfl
      obtain ⟨r, hr, hh⟩ := List.any_eq_true.mp off
      rw [Bool.and_eq_true, decide_eq_true_eq, decide_eq_true_eq] at hh
      have := in_lt6 (x := (c : Int)) ⟨r, hr, by omega, by omega⟩
      unfold kd at h
      omega
    rw [if_neg h2, bitAnd_pp (by omega) (by decide), Int.toNat_natCast] at e
    have e2 : c &&& (65535 : Int).toNat = c % 65536 := Nat.and_two_pow_sub_one_eq_mod c 16
    rw [e2] at e
    have e3 : c % 65536 = 65534 ∨ c % 65536 = 65535 := by
      simp only [List.any_cons, List.any_nil, Bool.or_false, Bool.or_eq_true] at e
      rcases e with e | e
      · left; have := eq_of_beq e; omega
      · right; have := eq_of_beq e; omega
    have hp : c / 65536 < 17 := by omega
    have := in_lt6 (x := (c : Int)) ⟨planeRun (c / 65536), plane_mem hp, by show ((c / 65536 : Nat) : Int) * 65536 + 65534 ≤ _; omega, by show _ ≤ ((c / 65536 : Nat) : Int) * 65536 + 65535; omega⟩
    unfold kd at h
    omega

theorem b1_six {c : Nat} (h : kd c = 6) : b1B c = false := set_six (j := 1) (by decide) h
theorem bar_six {c i : Nat} (hc : c ≤ 1114111) (h : kd c = 6) : barAt i c = false := by
  have e : barB c = [false, false, false, false, false] := by
    unfold barB
    rw [c4_six hc h, set_six (j := 7) (by decide) h, set_six (j := 9) (by decide) h, set_six (j := 11) (by decide) h, set_six (j := 13) (by decide) h]
  unfold barAt
  rw [e]
  match i with
  | 0 => rfl
  | 1 => rfl
  | 2 => rfl
  | 3 => rfl
  | 4 => rfl
  | n + 5 => rfl

/-- a sign of a run -/
theorem sets_of {c : Nat} (h : kd c ≠ 6) : setsOk c = true ∧ 0 ≤ kd c ∧ kd c < 6 := by
  obtain ⟨r, hr, h1, h2⟩ := kind_mem h
  refine ⟨List.all_eq_true.mp (List.all_eq_true.mp chk_pts r hr) c ?_, in_lt6 ⟨r, hr, h1, h2⟩⟩
  exact List.mem_map.mpr ⟨c - r.1.toNat, List.mem_range.mpr (by omega), by omega⟩

/-! what a sign is mapped to -/
theorem lower_one (c : Nat) : (Txt.lower (sg c)).cps.toList = Unicode.lowerOf c := by
  have e : Unicode.lowerAt (sg c).cps 0 = Unicode.lowerOf c := by
    show (if (c == 0x3A3 && Unicode.endsWord (sg c).cps 0) = true then [0x3C2] else Unicode.lowerOf c) = _
    have : Unicode.endsWord (sg c).cps 0 = false := rfl
    rw [this, Bool.and_false, if_neg Bool.false_ne_true]
  show (placed (sg c) fun i _ => Unicode.lowerAt (sg c).cps i).toList = _
  rw [← e]
  unfold placed sg
  simp
theorem shifted_mem : ∀ {l : List (Nat × Nat × Nat)} {c d : Nat}, Unicode.shifted l c = some d → ∃ q ∈ l, q.1 ≤ c ∧ c ≤ q.2.1 ∧ d = q.2.2 + (c - q.1)
  | [], _, _, h => nomatch h
  | (a, b, t) :: r, c, d, h => by
    unfold Unicode.shifted at h
    by_cases h1 : c < a
    · rw [if_pos h1] at h; cases h
    rw [if_neg h1] at h
    by_cases h2 : c ≤ b
    · rw [if_pos h2] at h
      exact ⟨(a, b, t), List.mem_cons_self, by show a ≤ c; omega, h2, (Option.some.inj h).symm⟩
    · rw [if_neg h2] at h
      obtain ⟨q, hq, hh⟩ := shifted_mem h
      exact ⟨q, List.mem_cons_of_mem _ hq, hh⟩
theorem b3get_mem {k : Int} {x : Str} : ∀ {ks : List (Int × Str)}, b3get ks k = some x → (k, x) ∈ ks
  | [], h => nomatch h
  | q :: r, h => by
    unfold b3get at h
    rw [List.find?_cons] at h
    by_cases e : q.1 = k
    · rw [decide_eq_true e] at h
      obtain rfl : q.2 = x := Option.some.inj h
      subst e
      exact List.mem_cons_self
    · rw [decide_eq_false e] at h
      exact List.mem_cons_of_mem _ (b3get_mem (ks := r) h)

/-- what holds of a sign that is in no run -/
structure Free (c : Nat) : Prop where
  kind : kd c = 6
  six : ∀ d ∈ mp c, kd d = 6 ∧ d ≤ 1114111
  short : (mp c).length ≤ 10
  blank : ((mp c).filter fun d => d == 32) = if blankB c then [32] else []

theorem free_or {c : Nat} (hc : c ≤ 1114111) : Free c ∨ (mp c = [c] ∧ c ≠ 890) := by
  cases hb : b3get b3tab (c : Int) with
  | some x =>
    left
    have em : mp c = x.cps.toList := by unfold mp mapS; rw [hb]; rfl
    have h := List.all_eq_true.mp chk_tab _ (b3get_mem hb)
    unfold tabOk at h
    simp only [Bool.and_eq_true] at h
    obtain ⟨⟨⟨h1, h2⟩, h3⟩, h4⟩ := h
    rw [Int.toNat_natCast] at h1
    refine ⟨six_kd (offN_six h1 (Nat.le_refl _) (Nat.le_refl _)), fun d hd => ?_, ?_, ?_⟩
    · rw [em] at hd
      have := List.all_eq_true.mp h2 d hd
      rw [Bool.and_eq_true, Nat.ble_eq] at this
      exact ⟨six_kd (offN_six this.1 (Nat.le_refl _) (Nat.le_refl _)), this.2⟩
    · rw [em]; exact Nat.le_of_ble_eq_true h3
    · rw [em, eq_of_beq h4]
      have e1 : ((c : Int) == 32) = (c == 32) := by
        by_cases q : c = 32
        · subst q; rfl
        · rw [beq_false_of_ne q, beq_false_of_ne (by omega)]
      have e2 : ((c : Int) == 890) = (c == 890) := by
        by_cases q : c = 890
        · subst q; rfl
        · rw [beq_false_of_ne q, beq_false_of_ne (by omega)]
      rw [e1, e2]; rfl
  | none =>
    have em : mp c = Unicode.lowerOf c := by unfold mp mapS; rw [hb]; exact lower_one c
    have hs : UnicodeData.severalLower.lookup c = none := by
      by_cases q : c = 304
      · subst q
        have := chk_890
        simp only [Bool.and_eq_true] at this
        have h2 := this.1.2
        rw [show ((304 : Nat) : Int) = 304 from rfl] at hb
        rw [hb] at h2; cases h2
      · show List.lookup c [(304, [0x69, 0x307])] = none
        simp [List.lookup, beq_false_of_ne q]
    have el : Unicode.lowerOf c = [(Unicode.shifted UnicodeData.oneLower c).getD c] := by
      unfold Unicode.lowerOf Unicode.image
      rw [hs]
    cases hd : Unicode.shifted UnicodeData.oneLower c with
    | none =>
      right
      refine ⟨by rw [em, el, hd]; rfl, ?_⟩
      rintro rfl
      have := chk_890
      simp only [Bool.and_eq_true] at this
      have h2 := this.1.1
      rw [show ((890 : Nat) : Int) = 890 from rfl] at hb
      rw [hb] at h2; cases h2
    | some d =>
      left
      have em' : mp c = [d] := by rw [em, el, hd]; rfl
      obtain ⟨q, hq, q1, q2, q3⟩ := shifted_mem hd
      have h := List.all_eq_true.mp chk_low q hq
      unfold lowOk at h
      simp only [Bool.and_eq_true, Bool.or_eq_true, Nat.ble_eq] at h
      obtain ⟨⟨⟨⟨⟨h1, h2⟩, h3⟩, h4⟩, h5⟩, h6⟩ := h
      refine ⟨six_kd (offN_six h1 (by omega) (by omega)), fun x hx => ?_, ?_, ?_⟩
      · rw [em', List.mem_singleton] at hx
        subst hx
        exact ⟨six_kd (offN_six h2 (by omega) (by omega)), by omega⟩
      · rw [em']; show 1 ≤ 10; omega
      · have c1 : (d == 32) = false := beq_false_of_ne (by omega)
        have c2 : blankB c = false := by unfold blankB; rw [beq_false_of_ne (by omega), beq_false_of_ne (by omega)]; rfl
        rw [em', c2]
        simp [c1]

end Mine
end

/-! G3 -/
section
open PySem PySem.W PyProof.Rows PySem.Calls
set_option Elab.async false
set_option maxRecDepth 100000
namespace Mine

/-- what the law asks of one code point -/
structure Pt (c : Nat) : Prop where
  b1 : b1B c = (kd c == 0)
  same : kd c < 6 → mp c = [c]
  short : (mp c).length ≤ 10
  keep : (mp c).filter (fun d => !b1B d) = if b1B c then [] else mp c
  bars : ∀ i, i < 5 → (if b1B c then [] else mp c).filter (barAt i) = if kd c == (i : Int) + 1 then [c] else []
  blank : (if b1B c then [] else mp c).filter (fun d => d == 32) = if blankB c then [32] else []

theorem free_pt {c : Nat} (x : Free c) : Pt c := by
  have hb := b1_six x.kind
  refine ⟨?_, fun h => ?_, x.short, ?_, fun i hi => ?_, ?_⟩
  · rw [hb, x.kind]; rfl
  · have := x.kind; omega
  · rw [hb, if_neg Bool.false_ne_true]
    exact List.filter_eq_self.mpr fun d hd => by rw [b1_six (x.six d hd).1]; rfl
  · rw [hb, if_neg Bool.false_ne_true, x.kind]
    have e : ((6 : Int) == (i : Int) + 1) = false := beq_false_of_ne (by omega)
    rw [e, if_neg Bool.false_ne_true]
    exact List.filter_eq_nil_iff.mpr fun d hd => by rw [bar_six (x.six d hd).2 (x.six d hd).1]; exact Bool.false_ne_true
  · rw [hb, if_neg Bool.false_ne_true]; exact x.blank

theorem point {c : Nat} (hc : c ≤ 1114111) : Pt c := by
  rcases free_or hc with h | ⟨hm, h890⟩
  · exact free_pt h
  by_cases h6 : kd c = 6
  · refine free_pt ⟨h6, fun d hd => ?_, by rw [hm]; show 1 ≤ 10; omega, ?_⟩
    · rw [hm, List.mem_singleton] at hd
      subst hd
      exact ⟨h6, hc⟩
    · rw [hm]
      unfold blankB
      rw [beq_false_of_ne h890, Bool.or_false]
      by_cases q : c = 32
      · subst q; rfl
      · rw [beq_false_of_ne q]; simp [q]
  · obtain ⟨hs, h0, h5⟩ := sets_of h6
    unfold setsOk at hs
    rw [Bool.and_eq_true] at hs
    have hb : b1B c = (kd c == 0) := eq_of_beq hs.1
    have hi : ∀ i, i < 5 → barAt i c = (kd c == (i : Int) + 1) := fun i hi => eq_of_beq (List.all_eq_true.mp hs.2 i (List.mem_range.mpr hi))
    have hsix := chk_six
    simp only [Bool.and_eq_true] at hsix
    have h32 : c ≠ 32 := by
      rintro rfl
      exact h6 (six_kd hsix.1.1)
    have hbl : blankB c = false := by unfold blankB; rw [beq_false_of_ne h890, beq_false_of_ne h32]; rfl
    refine ⟨hb, fun _ => hm, by rw [hm]; show 1 ≤ 10; omega, ?_, fun i hi' => ?_, ?_⟩
    · rw [hm]
      cases e : b1B c <;> simp [e]
    · rw [hm]
      cases e : b1B c with
      | false => rw [if_neg Bool.false_ne_true, ← hi i hi']; cases e2 : barAt i c <;> simp [e2]
      | true =>
        have e0 : kd c = 0 := by rw [hb] at e; exact eq_of_beq e
        have e1 : (kd c == (i : Int) + 1) = false := beq_false_of_ne (by omega)
        rw [if_pos rfl, e1]; rfl
    · rw [hm, hbl]
      cases e : b1B c <;> simp [h32]

theorem kept_cons (c : Nat) (cs : List Nat) : keptL (c :: cs) = (if b1B c then [] else mp c) ++ keptL cs := by
  unfold keptL
  rw [List.filter_cons]
  cases b1B c <;> simp
theorem law_keep : ∀ {cs : List Nat}, (∀ c ∈ cs, Pt c) → (cs.flatMap mp).filter (fun c => !b1B c) = keptL cs
  | [], _ => rfl
  | c :: r, h => by
    rw [List.flatMap_cons, List.filter_append, (h c List.mem_cons_self).keep, law_keep fun d hd => h d (List.mem_cons_of_mem _ hd), kept_cons]
theorem law_bars {i : Nat} (hi : i < 5) : ∀ {cs : List Nat}, (∀ c ∈ cs, Pt c) → (keptL cs).filter (barAt i) = cs.filter fun c => kd c == (i : Int) + 1
  | [], _ => rfl
  | c :: r, h => by
    rw [kept_cons, List.filter_append, (h c List.mem_cons_self).bars i hi, law_bars hi fun d hd => h d (List.mem_cons_of_mem _ hd), List.filter_cons]
    cases kd c == (i : Int) + 1 <;> simp
theorem law_blank : ∀ {cs : List Nat}, (∀ c ∈ cs, Pt c) → ((keptL cs).filter fun c => c == 32).map sg = (cs.filter blankB).map fun _ => (" " : Str)
  | [], _ => rfl
  | c :: r, h => by
    rw [kept_cons, List.filter_append, (h c List.mem_cons_self).blank, List.map_append, law_blank fun d hd => h d (List.mem_cons_of_mem _ hd), List.filter_cons]
    cases blankB c with
    | false => simp
    | true =>
      rw [if_pos rfl, if_pos rfl, List.map_cons, List.map_cons]
      have : sg 32 = (" " : Str) := by kernel_rfl
      rw [this]; rfl

theorem law_ok (cs : List Nat) (h : ∀ c ∈ cs, c ≤ 1114111) : LawOk cs := by
  have hp : ∀ c ∈ cs, Pt c := fun c hc => point (h c hc)
  refine ⟨fun c hc => (hp c hc).b1, fun c hc hk => ?_, fun c hc => (hp c hc).short, law_keep hp, fun i hi => law_bars hi hp, law_blank hp⟩
  have e := (hp c hc).same hk
  unfold mp at e
  have e2 : (mapS c).cps = #[c] := by
    rw [← Array.toArray_toList (xs := (mapS c).cps), e]
  show mapS c = ⟨#[c]⟩
  rw [← e2]
end Mine
end

/-! H1 -/
section
open PySem PySem.W PyProof.Rows PySem.Calls
set_option Elab.async false
set_option maxRecDepth 100000
namespace Mine
theorem P_is : PySem.Challenge.rw_mq0482_01.prog = P := by with_unfolding_all rfl
theorem room_caller : Room callerA 3 := ⟨rfl, by decide +kernel, by decide +kernel⟩
theorem ex_of {w : World} {A : Around} {E : Value → Shared → Prop} {s : Shared} {mg mb : Str → Option Value} {Q : Value → Shared → Prop} {vs : List Value} (F : FactsM w s.heap mg mb) (h : ∃ a, mg "law" = some (.ref a) ∧ wpAny (model P w) A (call (.ref a) vs) Q E s) :
    ∃ mg f, s.heap.Ns mainGlobals mg ∧ mg PySem.Challenge.rw_mq0482_01.name = some f ∧ wpAny (model P w) A (PySem.call f vs) Q E s := by
  obtain ⟨a, ha, hc⟩ := h
  exact ⟨mg, .ref a, F.g, ha, hc⟩
theorem call_part (w : World) (s₀ s₁ : Shared) (F : Facts w s₁.heap) (hg : s₁.gens = #[]) (args : List WData) (vs : List Value) (as : List Addr) (hpre : PySem.Challenge.rw_mq0482_01.row.toRowW.claim.pre args = true) (hlay : WData.layableAll args = true)
    (hrd : ReadsAllW PySem.Challenge.rw_mq0482_01.row.toRowW.records (classAt s₀.heap) s₁.heap vs args as) (hwl : WellAll w.params s₁.heap vs args) (hlo : ∀ a ∈ as, (a == sysModules) = false) :
    ∃ mg f, s₁.heap.Ns mainGlobals mg ∧ mg PySem.Challenge.rw_mq0482_01.name = some f ∧
      wpAny (model PySem.Challenge.rw_mq0482_01.prog w) callerA (PySem.call f vs) (fun v s' => GoodW PySem.Challenge.rw_mq0482_01.row.toRowW.claim (classAt s₀.heap) (ExcName.means s₀.heap) args s₁ (.ok (.ret v)) s')
        (fun e s' => GoodW PySem.Challenge.rw_mq0482_01.row.toRowW.claim (classAt s₀.heap) (ExcName.means s₀.heap) args s₁ (.error e) s') s₁ := by
  wrow_args hpre hlay hrd hwl hlo
  rename IntsAre _ _ => hI
  rename Heap.IsList _ _ _ => hL
  rename ¬ _ < _ => hlen
  obtain ⟨mg, mb, F⟩ := F
  rw [P_is]
  refine ex_of F (law_call F room_caller hL hI (by omega) law_ok fun h' tk hs => ?_)
  exact ⟨.inl ⟨.bool true, .bool true, [], rfl, fun cls => rfl, .bool true, (by wrow_post), fun _ => ⟨List.nodup_nil, fun _ h => (nomatch h)⟩⟩, hs, rfl, hg⟩
end Mine
end

open PySem PySem.W PyProof.Rows
set_option maxRecDepth 100000 in
theorem PySem.Challenge.cw_mq0482_01_holds : PySem.Challenge.rw_mq0482_01.Holds := by
  o_law
  rename _ = true => said
  refine Mine.holds_of (F := Mine.Facts) said ?_ ?_ ?_ ?_ ?_ ?_ ?_ Mine.Facts.keeps ?_ Mine.call_part
  · exact ⟨[.list []], by decide +kernel, by decide +kernel⟩
  · exact ⟨rfl, rfl, rfl, rfl, rfl, by decide +kernel⟩
  · kernel_rfl
  · rfl
  · rfl
  · kernel_rfl
  · intro s; rfl
  · rw [Mine.P_is]; exact Mine.top_wp
