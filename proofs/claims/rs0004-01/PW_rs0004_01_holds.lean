import PyProof.Rows.All
import Wide.All
import OpenK.AllK
import Wide.FinOn
import Lean
import PySem.Challenge.RW_rs0004_01
set_option Elab.async false
set_option maxRecDepth 100000
section
open PySem PySem.W PyProof.Rows PySem.Calls
namespace Mine
section
variable {prog : Program} {w : World} {K : Type} [DecidableEq K] {knd : KeyKind prog w K} {A : Around} {E : Value → Shared → Prop} {s : Shared}
/-- a new key put behind a dict's others -/
theorem put_new {d : Addr} {kvs : List (K × Value)} {k : K} {key v : Value} {Q : Unit → Shared → Prop} (hkey : knd.is k key = true) (hm : s.heap.DictOf knd d kvs) (hnot : k ∉ kvs.map (·.1))
    (hQ : ∀ h', h'.DictOf knd d (kvs ++ [(k, v)]) → Heap.SameBut d s.heap h' → Q () { s with heap := h' }) (hsz : kvs.length ≤ sizeLine) :
    wpAny (model prog w) A (dictPut d (knd.hash k) key v) Q E s := by
  obtain ⟨o, es, ep, ho, hc, hd, hk, hp, hn⟩ := hm
  have hes : es.size ≤ sizeLine := by
    have e1 := hp.length
    have e2 : es.toList.length = es.size := by simp
    omega
  unfold dictPut
  refine wpAny_bind (wpAny_dictFind_of hkey ho hd hk ?_)
  have hnone : (es.findIdx? fun e => knd.is k e.key) = none := by
    have hidx : (es.findIdx? fun e => knd.is k e.key) = kvs.findIdx? fun kv => decide (kv.1 = k) := by
      rw [← hp.findIdx k]; obtain ⟨l⟩ := es; simp
    rw [hidx, List.findIdx?_eq_none_iff]
    intro kv hkv
    exact decide_eq_false fun e => hnot (List.mem_map.mpr ⟨kv, hkv, e⟩)
  rw [hnone]
  refine wpAny_updateDictKeys (hz := hes) ho hd (hQ _ ⟨_, _, ep + 1, Heap.get?_update_self _ ho (Obj.isFreed_of_dict (Obj.data_mapDictKeys hd _)),
      hc.mapDictKeys _, Obj.data_mapDictKeys hd _, hk.push hkey _, ?_, ?_⟩ (Heap.SameBut.update ..))
  · have := hp.append hkey (knd.hash k) v
    obtain ⟨l⟩ := es
    simpa using this
  · rw [List.map_append, List.nodup_append]
    refine ⟨hn, by simp, ?_⟩
    intro a ha b hb
    simp only [List.map_cons, List.map_nil, List.mem_singleton] at hb
    subst hb
    exact fun e => hnot (e ▸ ha)
theorem isSub_dict : isSubtype (.type "dict") (.type "dict") = pure true := by kernel_rfl
/-- a dict of new keys merged into one that is not empty -/
theorem merge_new {d o : Addr} {kvs more : List (K × Value)} {Q : Unit → Shared → Prop} (hdo : d ≠ o) (hoS : (o == sysModules) = false) (hne : kvs ≠ [])
    (hd : s.heap.DictOf knd d kvs) (ho : s.heap.DictOf knd o more) (hnd : ((kvs ++ more).map (·.1)).Nodup)
    (hQ : ∀ h', h'.DictOf knd d (kvs ++ more) → Heap.SameBut d s.heap h' → Q () { s with heap := h' })
    (hsz : kvs.length + more.length ≤ sizeLine) :
    wpAny (model prog w) A (mergeMapping d (.ref o) false) Q E s := by
  obtain ⟨od, esd, epd, hod, hcd, hdd, hkd, hpd, hnd'⟩ := id hd
  obtain ⟨oo, eso, epo, hoo, hco, hdo', hko, hpo, hno⟩ := id ho
  have hT : s.TypeIs (.ref o) "dict" := ho.typeIs
  unfold mergeMapping
  refine wpAny_bind (m := isInstance (.ref o) (.type "dict")) (wpAny_isInstance hT isSub_dict ?_)
  rw [if_pos rfl]
  refine wpAny_bind (wpAny_specialOf hT (r := some (.builtin "dict.__iter__")) ?_ ?_)
  · exact F.slot_dict_iter.lookup
  refine wpAny_bind (wpAny_pure ?_)
  have e0 : (some (Value.builtin "dict.__iter__") == some (Value.builtin "dict.__iter__")) = true := by decide
  simp only [e0, hoS, Bool.false_eq_true, if_false]
  refine wpAny_bind (wpAny_dictEntries hod hdd ?_)
  have hemp : esd.isEmpty = false := by
    cases hb : esd.isEmpty with
    | false => rfl
    | true =>
      have h0 : esd = #[] := Array.isEmpty_iff.mp hb
      have := hpd.length
      rw [h0] at this
      exact absurd (List.length_eq_zero_iff.mp (by simpa using this.symm)) hne
  simp only [hemp, Bool.false_eq_true, if_false]
  refine wpAny_bind (wpAny_dictEntries hoo hdo' ?_)
  refine wpAny_bind (wpAny_dictEpoch hoo hdo' ?_)
  have hlen : more.length = eso.size := by rw [← hpo.length]; simp
  have hkeys : ∀ i (hi : i < more.length), (more[i]'hi).1 ∉ (kvs ++ more.take i).map (·.1) := by
    intro i hi hmem
    have hs : kvs ++ more = (kvs ++ more.take i) ++ (more[i]'hi :: more.drop (i + 1)) := by
      rw [List.append_assoc, List.getElem_cons_drop, List.take_append_drop]
    rw [hs, List.map_append, List.nodup_append] at hnd
    exact hnd.2.2 _ hmem _ (List.mem_map.mpr ⟨_, List.mem_cons_self .., rfl⟩) rfl
  refine wpAny_bind (wpAny_forIn_list _
      (fun rest _ s' => ∃ h' i, s' = { s with heap := h' } ∧ rest = List.range' i (eso.size - i) ∧ i ≤ eso.size ∧ h'.DictOf knd d (kvs ++ more.take i) ∧ h'.get? o = some oo ∧ Heap.SameBut d s.heap h')
      _ ?_ ?_ _ _ ⟨s.heap, 0, rfl, by rw [List.range_eq_range']; rfl, Nat.zero_le _, by simpa using hd, hoo, Heap.SameBut.refl _ _⟩)
  · rintro x rest b s' ⟨h', i, rfl, hr, hi, hd', hoo', hs'⟩
    have hlt : i < eso.size := by
      rcases Nat.lt_or_ge i eso.size with h | h
      · exact h
      · rw [Nat.sub_eq_zero_of_le h] at hr; simp at hr
    obtain ⟨rfl, hrest⟩ : x = i ∧ rest = List.range' (i + 1) (eso.size - (i + 1)) := by
      have e : eso.size - i = (eso.size - (i + 1)) + 1 := by omega
      rw [e, List.range'_succ] at hr
      injection hr with h1 h2
      exact ⟨h1, h2⟩
    refine wpAny_bind (wpAny_dictEntries hoo' hdo' ?_)
    rw [Array.getElem?_eq_getElem hlt]
    have hlt' : x < more.length := hlen ▸ hlt
    have hkv : more[x]? = some (more[x]'hlt') := List.getElem?_eq_getElem hlt'
    obtain ⟨hkey, hval⟩ := hpo.get? (e := eso[x]) (by simp [hlt]) hkv
    obtain ⟨k', hkey', hhash⟩ := hko eso[x] (Array.getElem_mem hlt)
    obtain rfl : k' = (more[x]'hlt').1 := knd.inj _ _ _ hkey' hkey
    show wpAny _ _ (holding [eso[x].key, eso[x].val] (dictPut d eso[x].hash eso[x].key eso[x].val) >>= _) _ _ _
    rw [hhash, hval]
    have hmx : (kvs ++ more.take x).length ≤ sizeLine := by
      rw [List.length_append, List.length_take]; omega
    refine wpAny_bind (wpAny_holding (put_new (hsz := hmx) hkey hd' (hkeys x hlt') fun h'' hd'' hs'' => ?_))
    have hoo'' : h''.get? o = some oo := (hs''.2 o (Ne.symm hdo)).trans hoo'
    refine wpAny_bind (wpAny_dictEpoch hoo'' hdo' ?_)
    rw [if_neg (by simp)]
    refine wpAny_pure ⟨h'', x + 1, rfl, hrest, hlt, ?_, hoo'', hs'.trans hs''⟩
    rw [List.take_add_one, hkv, ← List.append_assoc]
    exact hd''
  · rintro b s' ⟨h', i, rfl, hr, hi, hd', hoo', hs'⟩
    have hin : i = eso.size := by
      rcases Nat.lt_or_ge i eso.size with h | h
      · have e : eso.size - i = (eso.size - (i + 1)) + 1 := by omega
        rw [e, List.range'_succ] at hr; exact nomatch hr
      · exact Nat.le_antisymm hi h
    refine wpAny_pure (hQ h' ?_ hs')
    rw [hin, ← hlen, List.take_length] at hd'; exact hd'
end
end Mine
end
section
open PySem PySem.W PyProof.Rows PySem.Calls
namespace Mine
def asInt : Value → Option Int
  | .int i _ => some i
  | _ => none
def ofKV (x : Str × Value) : Str × Option Int := (x.1, asInt x.2)
def ofSI (x : Str × Int) : Str × Option Int := (x.1, some x.2)
/-- the entries of a dict are the strs and ints written -/
def KVs (r : List (Str × Int)) (kvs : List (Str × Value)) : Prop := kvs.map ofKV = r.map ofSI
theorem KVs.keys {r : List (Str × Int)} {kvs : List (Str × Value)} (h : KVs r kvs) : kvs.map (·.1) = r.map (·.1) := by
  have := congrArg (List.map Prod.fst) h
  simpa [KVs, List.map_map, Function.comp_def, ofKV, ofSI] using this
theorem KVs.length {r : List (Str × Int)} {kvs : List (Str × Value)} (h : KVs r kvs) : kvs.length = r.length := by
  have := congrArg List.length h
  simpa using this
theorem KVs.append {r r' : List (Str × Int)} {kvs kvs' : List (Str × Value)} (h : KVs r kvs) (h' : KVs r' kvs') : KVs (r ++ r') (kvs ++ kvs') := by
  unfold KVs at *
  rw [List.map_append, List.map_append, h, h']
theorem KVs.nil : KVs [] [] := rfl
theorem KVs.get {r : List (Str × Int)} {kvs : List (Str × Value)} (h : KVs r kvs) {i : Nat} {x : Str × Int} (hx : r[i]? = some x) : ∃ t, kvs[i]? = some (x.1, .int x.2 t) := by
  have e : (kvs.map ofKV)[i]? = (r.map ofSI)[i]? := by rw [h]
  rw [List.getElem?_map, List.getElem?_map, hx] at e
  cases hk : kvs[i]? with
  | none => rw [hk] at e; cases e
  | some kv =>
    obtain ⟨k, v⟩ := kv
    rw [hk] at e
    simp only [Option.map_some, Option.some.injEq, ofKV, ofSI, Prod.mk.injEq] at e
    obtain ⟨rfl, e⟩ := e
    cases v <;> simp [asInt] at e
    subst e
    exact ⟨_, rfl⟩
section
variable {prog : Program} {w : World} {A : Around} {E : Value → Shared → Prop} {s : Shared}
def pairOf (env : Env) (pos : Pos) (x : Str × Int) : Sem Value × Sem Value :=
  (constValue env (.str x.1), do let v ← constValue env (.int x.2); standAt pos; pure v)
theorem stored_new {kvs : List (Str × Value)} {k : Str} {v : Value} (h : k ∉ kvs.map (·.1)) : stored kvs k v = kvs ++ [(k, v)] := by
  unfold stored
  rw [if_neg]
  intro hc
  obtain ⟨kv, hkv, e⟩ := List.any_eq_true.mp hc
  exact h (List.mem_map.mpr ⟨kv, hkv, of_decide_eq_true e⟩)
/-- one pair more into a dict -/
theorem put_pair {env : Env} {pos : Pos} {d : Addr} {kvs : List (Str × Value)} {x : Str × Int} {Q : ForInStep PUnit → Shared → Prop} (hd : s.heap.DictOf (strKind prog w) d kvs) (hx : x.1 ∉ kvs.map (·.1)) (hsz : kvs.length ≤ sizeLine)
    (hQ : ∀ h' tk t, h'.DictOf (strKind prog w) d (kvs ++ [(x.1, .int x.2 t)]) → Heap.SameBut d s.heap h' → Q (.yield ()) { s with heap := h', toks := tk }) :
    wpAny (model prog w) A (do
      let kv ← (pairOf env pos x).1
      let vv ← holding [kv] (pairOf env pos x).2
      holding [kv, vv] (dictSet d kv vv)
      pure (ForInStep.yield PUnit.unit) : Sem (ForInStep PUnit)) Q E s := by
  unfold pairOf
  refine wpAny_bind (wpAny_mkText ?_)
  refine wpAny_bind (wpAny_holding (wpAny_bind (wpAny_mkInt (wpAny_bind (wpAny_standAt (wpAny_pure ?_))))))
  refine wpAny_bind (wpAny_holding (wpAny_dictSet_pairs (knd := strKind prog w) (k := x.1) (hsz := hsz) (strKind_is prog w x.1 _) hd fun h' hd' hs' => ?_))
  rw [stored_new hx] at hd'
  exact wpAny_pure (hQ h' _ _ hd' hs')
theorem fill_long {env : Env} {pos : Pos} {d : Addr} : ∀ (r : List (Str × Int)) (acc : List (Str × Value)) (s : Shared) (Q : PUnit → Shared → Prop), s.heap.DictOf (strKind prog w) d acc → (acc.map (·.1) ++ r.map (·.1)).Nodup → acc.length + r.length ≤ sizeLine →
    (∀ h' tk kvs, KVs r kvs → h'.DictOf (strKind prog w) d (acc ++ kvs) → Heap.SameBut d s.heap h' → Q PUnit.unit { s with heap := h', toks := tk }) →
    wpAny (model prog w) A (forIn (r.map (pairOf env pos)) PUnit.unit fun (x : Sem Value × Sem Value) (_ : PUnit) => (do
      let kv ← x.1
      let vv ← holding [kv] x.2
      holding [kv, vv] (dictSet d kv vv)
      pure (ForInStep.yield PUnit.unit) : Sem (ForInStep PUnit))) Q E s
  | [], acc, s, Q, hd, _, _, hQ => by
    rw [List.map_nil, List.forIn_nil]
    exact wpAny_pure (hQ s.heap s.toks [] KVs.nil (by simpa using hd) (Heap.SameBut.refl _ _))
  | x :: r, acc, s, Q, hd, hn, hsz, hQ => by
    rw [List.map_cons, List.forIn_cons]
    rw [List.length_cons] at hsz
    have hx : x.1 ∉ acc.map (·.1) := fun hm => (List.nodup_append.mp hn).2.2 _ hm _ (List.mem_cons_self ..) rfl
    refine wpAny_bind (put_pair hd hx (by omega) fun h' tk t hd' hs' => ?_)
    refine fill_long r (acc ++ [(x.1, .int x.2 t)]) _ Q hd' ?_ (by simp; omega) fun h'' tk' kvs hk hd'' hs'' => ?_
    · simpa [List.map_append, List.append_assoc] using hn
    · exact hQ h'' tk' ((x.1, .int x.2 t) :: kvs) (KVs.append (r := [x]) (kvs := [(x.1, .int x.2 t)]) rfl hk) (by simpa [List.append_assoc] using hd'') (hs'.trans hs'')
end
end Mine
end
section
open PySem PySem.W PyProof.Rows PySem.Calls
namespace Mine
section
variable {prog : Program} {w : World} {A : Around} {E : Value → Shared → Prop} {s : Shared}
/-- the objects of one heap stand in another -/
def Grows (h h' : Heap) : Prop := ∀ b o, h.get? b = some o → h'.get? b = some o
theorem Grows.refl (h : Heap) : Grows h h := fun _ _ e => e
theorem Grows.trans {a b c : Heap} (x : Grows a b) (y : Grows b c) : Grows a c := fun i o e => y i o (x i o e)
theorem grows_new {h h' : Heap} {o : Obj} (x : Heap.SameBut h.objs.size (h.push o) h') : Grows h h' ∧ h'.objs.size = h.objs.size + 1 := by
  refine ⟨fun b o' e => ?_, ?_⟩
  · rw [x.2 b (Nat.ne_of_lt (Heap.lt_size e))]; exact Heap.get?_push_of_some _ e
  · have := x.1
    rw [this]
    obtain ⟨objs, l⟩ := h
    simp [Heap.push]
theorem eval_short {env : Env} {pos : Pos} : ∀ (r : List (Str × Int)) (s : Shared) (Q : List (Value × Value) → Shared → Prop),
    (∀ vs tk kvs, KVs r kvs → Carries (strKind prog w) vs kvs → Q vs { s with toks := tk }) → wpAny (model prog w) A (evalPairs (r.map (pairOf env pos))) Q E s
  | [], s, Q, hQ => evalPairs_nil (hQ [] s.toks [] KVs.nil trivial)
  | x :: r, s, Q, hQ => by
    rw [List.map_cons]
    refine evalPairs_cons ?_
    unfold pairOf
    refine wpAny_mkText (wpAny_bind (wpAny_mkInt (wpAny_bind (wpAny_standAt (wpAny_pure ?_)))))
    refine eval_short r _ _ fun vs tk kvs hk hc => hQ _ tk ((x.1, _) :: kvs) (KVs.append (r := [x]) (kvs := [(x.1, .int x.2 _)]) rfl hk) ⟨strKind_is prog w x.1 _, rfl, hc⟩
theorem merged_new : ∀ (kvs acc : List (Str × Value)), (acc.map (·.1) ++ kvs.map (·.1)).Nodup → merged acc kvs = acc ++ kvs
  | [], acc, _ => by simp [merged]
  | x :: kvs, acc, hn => by
    have hx : x.1 ∉ acc.map (·.1) := fun hm => (List.nodup_append.mp hn).2.2 _ hm _ (List.mem_cons_self ..) rfl
    have e : merged acc (x :: kvs) = merged (stored acc x.1 x.2) kvs := rfl
    rw [e, stored_new hx, merged_new kvs _ (by simpa [List.map_append, List.append_assoc] using hn)]
    simp
/-- a new dict out of written pairs -/
theorem sub_new {env : Env} {pos : Pos} {r : List (Str × Int)} {Q : Addr → Shared → Prop} (hn : (r.map (·.1)).Nodup) (hsz : r.length ≤ sizeLine)
    (hQ : ∀ h' tk kvs, KVs r kvs → h'.DictOf (strKind prog w) s.heap.objs.size kvs → Grows s.heap h' → h'.objs.size = s.heap.objs.size + 1 → Q s.heap.objs.size { s with heap := h', toks := tk }) :
    wpAny (model prog w) A (subDict (r.map (pairOf env pos))) Q E s := by
  by_cases hlen : r.length ≤ 15
  · refine wpAny_subDict (knd := strKind prog w) (by simpa using hlen) (eval_short r _ _ fun vs tk kvs hk hc => ⟨kvs, hc, Heap.DictOf.new _, fun h' hd' hs' => ?_⟩)
    obtain ⟨g, z⟩ := grows_new hs'
    rw [merged_new kvs [] (by simpa [hk.keys] using hn)] at hd'
    exact hQ h' _ kvs hk (by simpa using hd') g z
  · unfold subDict
    refine wpAny_bind (wpAny_alloc (wpAny_bind (wpAny_holding ?_)))
    rw [if_neg (by simpa using hlen)]
    refine wpAny_bind (wpAny_rule ?_)
    refine wpAny_bind (fill_long r [] _ _ (Heap.DictOf.new _) (by simpa using hn) (by simpa using hsz) fun h' tk kvs hk hd' hs' => wpAny_pure (wpAny_pure ?_))
    obtain ⟨g, z⟩ := grows_new hs'
    exact hQ h' tk kvs hk (by simpa using hd') g z
end
end Mine
end
section
open PySem PySem.W PyProof.Rows PySem.Calls
namespace Mine
section
variable {prog : Program} {w : World} {A : Around} {E : Value → Shared → Prop} {s : Shared}
/-- where a long display stands: so many pairs are in the dict, the others of a run still wait -/
structure DispI (prog : Program) (w : World) (s : Shared) (done : List (Str × Int)) (main : Option Addr) (s' : Shared) : Prop where
  eq : ∃ h' tk, s' = { s with heap := h', toks := tk }
  grow : Grows s.heap s'.heap
  size : s'.heap.objs.size = s.heap.objs.size + (done.length + 16) / 17
  main_ : (done = [] ∧ main = none) ∨ (done ≠ [] ∧ main = some s.heap.objs.size ∧ ∃ kvs, KVs done kvs ∧ s'.heap.DictOf (strKind prog w) s.heap.objs.size kvs)
theorem flush_any {env : Env} {pos : Pos} {done rn : List (Str × Int)} {main : Option Addr} {s' : Shared} {Q : Option Addr → Shared → Prop} (I : DispI prog w s done main s') (hne : rn ≠ []) (hrn : rn.length ≤ 17) (hdn : done.length % 17 = 0)
    (hn : ((done ++ rn).map (·.1)).Nodup) (hsz : (done ++ rn).length ≤ sizeLine) (hlow : sysModules < s.heap.objs.size)
    (hQ : ∀ s'', DispI prog w s (done ++ rn) (some s.heap.objs.size) s'' → Q (some s.heap.objs.size) s'') :
    wpAny (model prog w) A (if (rn.map (pairOf env pos)).isEmpty = true then pure main
      else match (generalizing := false) main with
        | none => do
          let a ← subDict (rn.map (pairOf env pos))
          pure (some a)
        | some d => do
          let sub ← holding [Value.ref d] (subDict (rn.map (pairOf env pos)))
          (holding [Value.ref d, Value.ref sub] (mergeMapping d (Value.ref sub) false)).onRaise fun x => do
            let _ ← holding [Value.ref d, x] (runValue (Code.builtin "proto.let_go" { }))
            pure ()
          pure (some d)) Q E s' := by
  obtain ⟨⟨h', tk, rfl⟩, hg, hs, hm⟩ := I
  rw [if_neg (by cases rn with | nil => exact absurd rfl hne | cons => simp)]
  have hl0 : 0 < rn.length := List.length_pos_iff.mpr hne
  rw [List.map_append, List.nodup_append] at hn
  rw [List.length_append] at hsz
  have hsz1 : (done ++ rn).length = done.length + rn.length := List.length_append
  rcases hm with ⟨rfl, rfl⟩ | ⟨hd0, rfl, kvs, hk, hd⟩
  · dsimp only
    have es : h'.objs.size = s.heap.objs.size := by simpa using hs
    refine wpAny_bind (sub_new hn.2.1 (by omega) fun h'' tk' kvs hk hd' g z => wpAny_pure ?_)
    dsimp only at hd' z g
    dsimp only
    rw [es] at hd' z ⊢
    refine hQ _ ⟨⟨_, _, rfl⟩, hg.trans g, ?_, .inr ⟨by simpa using hne, rfl, kvs, by simpa using hk, hd'⟩⟩
    dsimp only
    rw [z, List.nil_append]; omega
  · dsimp only
    dsimp only at hs hd hg
    refine wpAny_bind (wpAny_holding (sub_new hn.2.1 (by omega) fun h'' tk' kvs' hk' hd' g z => ?_))
    dsimp only at hd' z g
    dsimp only
    have hdl : 0 < done.length := List.length_pos_iff.mpr hd0
    have hd2 : h''.DictOf (strKind prog w) s.heap.objs.size kvs := by
      obtain ⟨o, es, ep, ho, r⟩ := hd
      exact ⟨o, es, ep, g _ _ ho, r⟩
    have hlt : s.heap.objs.size < h'.objs.size := by omega
    refine wpAny_bind (wpAny_onRaise (wpAny_holding (merge_new (d := s.heap.objs.size) (Nat.ne_of_lt hlt) (beq_eq_false_iff_ne.mpr ?_) ?_ hd2 hd' ?_ (fun h3 hd3 hs3 => wpAny_pure ?_) ?_)))
    · exact Nat.ne_of_gt (Nat.lt_trans hlow hlt)
    · intro e
      have := hk.length
      rw [e] at this
      simp at this; omega
    · rw [List.map_append, hk.keys, hk'.keys, List.nodup_append]; exact hn
    · refine hQ _ ⟨⟨_, _, rfl⟩, fun b o e => ?_, ?_, .inr ⟨by simp [hd0], rfl, kvs ++ kvs', hk.append hk', hd3⟩⟩
      · have hb : b ≠ s.heap.objs.size := Nat.ne_of_lt (Heap.lt_size e)
        exact (hs3.2 b hb).trans (g _ _ (hg _ _ e))
      · dsimp only
        rw [hs3.1]
        show h''.objs.size = _
        rw [z, hs, hsz1]; omega
    · rw [hk.length, hk'.length]; omega
theorem display_new {env : Env} {pos : Pos} {r : List (Str × Int)} {Q : Value → Shared → Prop} (hne : r ≠ []) (hn : (r.map (·.1)).Nodup) (hsz : r.length ≤ sizeLine) (hlow : sysModules < s.heap.objs.size)
    (hQ : ∀ h' tk kvs, KVs r kvs → h'.DictOf (strKind prog w) s.heap.objs.size kvs → Grows s.heap h' → h'.objs.size = s.heap.objs.size + (r.length + 16) / 17 → Q (.ref s.heap.objs.size) { s with heap := h', toks := tk }) :
    wpAny (model prog w) A (dictDisplay (r.map fun x => (some (pairOf env pos x).1, (pairOf env pos x).2))) Q E s := by
  have fin : ∀ s', DispI prog w s r (some s.heap.objs.size) s' → Q (.ref s.heap.objs.size) s' := by
    rintro s' ⟨⟨h', tk, rfl⟩, hg, hs, hm⟩
    rcases hm with ⟨rfl, _⟩ | ⟨_, _, kvs, hk, hd⟩
    · exact absurd rfl hne
    · exact hQ h' tk kvs hk hd hg hs
  unfold dictDisplay
  dsimp only
  refine wpAny_bind (wpAny_forIn_list _ (fun rest st s' => ∃ done rn rs, r = done ++ rn ++ rs ∧ rest = rs.map (fun x => (some (pairOf env pos x).1, (pairOf env pos x).2)) ∧ st.2 = rn.map (pairOf env pos) ∧ rn.length < 17 ∧ done.length % 17 = 0 ∧ DispI prog w s done st.1 s') _ ?_ ?_ _ _
    ⟨[], [], r, by simp, rfl, rfl, by simp, by simp, ⟨⟨_, _, rfl⟩, .refl _, by simp, .inl ⟨rfl, rfl⟩⟩⟩)
  · rintro x rest ⟨main, run⟩ s' ⟨done, rn, rs, hr, hrest, hrun, hlt, hmod, I⟩
    cases rs with
    | nil => simp at hrest
    | cons y rs =>
      rw [List.map_cons] at hrest
      obtain ⟨rfl, rfl⟩ := List.cons.inj hrest
      dsimp only at hrun I ⊢
      subst hrun
      have e1 : rn.map (pairOf env pos) ++ [((pairOf env pos y).1, (pairOf env pos y).2)] = (rn ++ [y]).map (pairOf env pos) := by rw [List.map_append]; rfl
      have hr' : r = (done ++ (rn ++ [y])) ++ rs := by rw [hr]; simp
      have hn' : ((done ++ (rn ++ [y])).map (·.1)).Nodup := by
        rw [hr', List.map_append, List.nodup_append] at hn
        exact hn.1
      have hl' : (done ++ (rn ++ [y])).length ≤ sizeLine := by
        rw [hr', List.length_append] at hsz; omega
      rw [e1]
      by_cases h17 : (rn ++ [y]).length = 17
      · rw [if_pos (by simp at h17; simp [h17])]
        refine wpAny_bind (flush_any I (by simp) (Nat.le_of_eq h17) hmod hn' hl' hlow fun s'' I' => wpAny_pure ?_)
        refine ⟨done ++ (rn ++ [y]), [], rs, by simpa using hr', rfl, rfl, by simp, ?_, I'⟩
        rw [List.length_append, h17]; omega
      · rw [if_neg (by simp at h17; simp; omega)]
        refine wpAny_pure ⟨done, rn ++ [y], rs, by rw [hr]; simp, rfl, rfl, ?_, hmod, I⟩
        simp at h17 ⊢; omega
  · rintro ⟨main, run⟩ s' ⟨done, rn, rs, hr, hrest, hrun, hlt, hmod, I⟩
    cases rs with
    | cons y rs => simp at hrest
    | nil =>
      dsimp only at hrun I ⊢
      subst hrun
      rw [List.append_nil] at hr
      by_cases hrn : rn = []
      · subst hrn
        rw [List.append_nil] at hr
        subst hr
        have hm : main = some s.heap.objs.size := by
          rcases I.main_ with ⟨e, _⟩ | ⟨_, e, _⟩
          · exact absurd e hne
          · exact e
        subst hm
        simp only [List.map_nil, List.isEmpty_nil, if_true]
        exact wpAny_bind (wpAny_pure (wpAny_pure (fin _ I)))
      · refine wpAny_bind (flush_any I hrn (by omega) hmod (by rw [← hr]; exact hn) (by rw [← hr]; exact hsz) hlow fun s'' I' => wpAny_pure (fin _ (by rw [hr]; exact I')))
end
end Mine
end
section
open PySem PySem.W PyProof.Rows PySem.Calls
namespace Mine
/-- two objects more, and one may have turned -/
def Two (it : Addr) (h h' : Heap) : Prop := Heap.ExtBut it h h' ∧ h'.objs.size = h.objs.size + 2
section
variable {prog : Program} {w : World} {A : Around} {E : Value → Shared → Prop} {s : Shared}
theorem stop_raised {it : Addr} {h : Heap} {H : Heap} (hb : Heap.SameBut it h H) (a b : Obj) : Two it h ((H.push a).push b) :=
  ⟨(hb.extBut.push _).push _, by rw [Heap.size_push, Heap.size_push, hb.1]⟩
/-- a range's iterator at its end -/
theorem range_done {it : Addr} {x left step : Int} {Q : Option Value → Shared → Prop} (hh : A.handled = none) (hit : IsRangeIter s.heap it x left step) (hleft : left ≤ 0)
    (hQ : ∀ h', Two it s.heap h' → Q none { s with heap := h' }) : wpAny (model prog w) A (pyNext (.ref it)) Q E s := by
  have hT : s.TypeIs (.ref it) "range_iterator" := ⟨_, hit, rfl⟩
  unfold pyNext
  refine wpAny_bind (wpAny_attempt (wpAny_callSpecial?_slot (name := Str.ofString "__next__") hT F.slot_range_iterator_next
    (wpAny_call_entry F.slot_range_iterator_next hT F.entry_range_iterator_next ?_ (F.args_range_iterator_next_1 _))))
  show wpAny _ _ (field (.ref it) 0 >>= _) _ _ s
  refine wpAny_bind (wpAny_field hit rfl (x := rawInt x) rfl ?_)
  show wpAny _ _ (field (.ref it) 1 >>= _) _ _ s
  refine wpAny_bind (wpAny_field hit rfl (x := rawInt left) rfl ?_)
  show wpAny _ _ (field (.ref it) 2 >>= _) _ _ s
  refine wpAny_bind (wpAny_field hit rfl (x := rawInt step) rfl ?_)
  show wpAny _ _ (if left ≤ 0 then _ else _) _ _ s
  rw [if_pos hleft]
  refine wpAny_bind (wpAny_rule ?_)
  refine wpAny_bind ?_
  show wpAny _ _ (newExc (.type "StopIteration") [] >>= _) _ _ _
  refine wpAny_bind ?_
  simp only [newExc, newTuple]
  refine wpAny_bind (wpAny_newObj_type ?_ (by size_fits))
  refine wpAny_bind (m := firstArgMember _ _) (wpAny_of_eq (a := Value.none) (by first | rfl | (simp only [firstArgMember]; rfl)) ?_)
  refine wpAny_newObj_type ?_ (by size_fits)
  simp only [raiseNew]
  refine wpAny_bind (wpAny_handled ?_)
  first | rw [show A.in1.handled = none from hh] | rw [hh]
  refine wpAny_bind (wpAny_pure (wpAny_throw ?_))
  refine wpAny_bind (wpAny_isInstance (T := "StopIteration") (b := true) ⟨_, Heap.get?_push_size _ rfl, rfl⟩ isSubtype_stop ?_)
  exact wpAny_pure (hQ _ (stop_raised (Heap.SameBut.refl it s.heap) _ _))
/-- a tuple's iterator at its end -/
theorem tuple_done {it t : Addr} {i : Nat} {items} {Q : Option Value → Shared → Prop} (hh : A.handled = none)
    (hit : s.heap.IsTupleIter it t i) (ht : s.heap.IsTuple t items) (hx : items[i]? = none)
    (hQ : ∀ h', Two it s.heap h' → Q none { s with heap := h' }) : wpAny (model prog w) A (pyNext (.ref it)) Q E s := by
  obtain ⟨o, ho, hc, hd⟩ := id hit
  obtain ⟨ol, hol, _, nl, hdl⟩ := ht
  unfold pyNext
  refine wpAny_bind (wpAny_attempt (wpAny_callSpecial?_slot (name := Str.ofString "__next__") hit.typeIs F.slot_tuple_iterator_next
    (wpAny_call_entry F.slot_tuple_iterator_next hit.typeIs F.entry_tuple_iterator_next ?_ (F.args_tuple_iterator_next_1 _))))
  show wpAny _ _ (field (.ref it) 0 >>= _) _ _ s
  refine wpAny_bind (wpAny_field ho hd (x := .ref t) rfl ?_)
  show wpAny _ _ (if (Value.ref t == Value.none) = true then _ else _) _ _ s
  rw [if_neg (show ¬ ((Value.ref t == Value.none) = true) from Bool.false_ne_true)]
  show wpAny _ _ (field (.ref it) 1 >>= _) _ _ s
  refine wpAny_bind (wpAny_field ho hd (x := .int i 0) rfl ?_)
  show wpAny _ _ (seqItems? (.ref t) >>= _) _ _ s
  refine wpAny_bind (wpAny_seqItems hol hdl ?_)
  simp only [Int.toNat_natCast, hx]
  refine wpAny_bind (wpAny_rule (wpAny_bind (wpAny_setField ho hd (by simp) ?_)))
  show wpAny _ _ (newExc (.type "StopIteration") [] >>= _) _ _ _
  refine wpAny_bind ?_
  simp only [newExc, newTuple]
  refine wpAny_bind (wpAny_newObj_type ?_ (by size_fits))
  refine wpAny_bind (m := firstArgMember _ _) (wpAny_of_eq (a := Value.none) (by first | rfl | (simp only [firstArgMember]; rfl)) ?_)
  refine wpAny_newObj_type ?_ (by size_fits)
  simp only [raiseNew]
  refine wpAny_bind (wpAny_handled ?_)
  first | rw [show A.in1.handled = none from hh] | rw [hh]
  refine wpAny_bind (wpAny_pure (wpAny_throw ?_))
  refine wpAny_bind (wpAny_isInstance (T := "StopIteration") (b := true) ⟨_, Heap.get?_push_size _ rfl, rfl⟩ isSubtype_stop ?_)
  exact wpAny_pure (hQ _ (stop_raised (Heap.SameBut.update ..) _ _))
/-- a tuple taken apart: three objects more -/
theorem unpack_done {t : Addr} {items : Array Value} {targets : List (Bool × (Value → Sem Unit))} {Q : Unit → Shared → Prop} (hh : A.handled = none) (ht : s.heap.IsTuple t items)
    (hn : targets.length = items.size) (hstar : targets.findIdx? (·.1) = none)
    (h : ∀ h', Heap.ExtBut s.heap.objs.size s.heap h' → h'.objs.size = s.heap.objs.size + 3 → wpAny (model prog w) A (assignInOrder (targets.map (·.2)) items.toList) Q E { s with heap := h' }) :
    wpAny (model prog w) A (unpack (.ref t) targets) Q E s := by
  have hlt : t ≠ s.heap.objs.size := by obtain ⟨o, ho, _⟩ := ht; exact Nat.ne_of_lt (Heap.lt_size ho)
  unfold unpack
  rw [hn, hstar]
  refine wpAny_bind (wpAny_holding ?_)
  unfold unpackItems
  refine wpAny_bind ?_
  unfold notIterableAtAll
  refine wpAny_bind (wpAny_specialOf ht.typeIs F.slot_tuple_iter.lookup ?_)
  refine wpAny_pure ?_
  simp only [Bool.false_eq_true, if_false]
  refine wpAny_bind (wpAny_holding (wpAny_pyIter_tuple ht ?_))
  refine wpAny_bind (wpAny_holding (wpAny_draw_tuple hlt items.size 0 _ _ ⟨_, Heap.get?_push_size _ rfl, rfl, rfl⟩ (ht.push _) (by omega) fun h₁ hit₁ hs₁ => ?_))
  have hall : List.take items.size (List.drop 0 items.toList) = items.toList := by
    rw [List.drop_zero]; exact List.take_of_length_le (by simp)
  rw [hall]
  rw [if_neg (by simp)]
  have ht₁ : h₁.IsTuple t items := (ht.push _).extBut hs₁.extBut hlt
  refine wpAny_bind (wpAny_holding (tuple_done hh hit₁ ht₁ (by simp) fun h₂ he₂ => ?_))
  simp only [Option.isSome_none, Bool.false_eq_true, if_false]
  refine wpAny_pure (h h₂ (fun b o hb e => he₂.1 b o hb (hs₁.extBut b o hb (Heap.get?_push_of_some _ e))) ?_)
  rw [he₂.2, hs₁.1, Heap.size_push]
end
section
variable {prog : Program} {w : World} {K : Type} [DecidableEq K] {knd : KeyKind prog w K} {A : Around} {E : Value → Shared → Prop} {s : Shared}
/-- a dict's items' iterator at its end -/
theorem items_done {it d : Addr} {i ep : Nat} {kvs : List (K × Value)} {ok ov : Value} {Q : Option Value → Shared → Prop} (hh : A.handled = none) (hit : IsItemIter s.heap it d i kvs.length ep ok ov)
    (hm : s.heap.DictAt knd d kvs ep) (hx : kvs[i]? = none)
    (hQ : ∀ h', Two it s.heap h' → Q none { s with heap := h' }) : wpAny (model prog w) A (pyNext (.ref it)) Q E s := by
  obtain ⟨od, es, hod, hcd, hdd, hk, hpr, hn⟩ := id hm
  have hT : s.TypeIs (.ref it) "dict_itemiterator" := ⟨_, hit, rfl⟩
  unfold pyNext
  refine wpAny_bind (wpAny_attempt (wpAny_callSpecial?_slot (name := Str.ofString "__next__") hT F.slot_dict_itemiterator_next
    (wpAny_call_entry F.slot_dict_itemiterator_next hT F.entry_dict_itemiterator_next ?_ (F.args_dict_itemiterator_next_1 _))))
  refine wpAny_bind (wpAny_pure ?_)
  refine wpAny_bind ?_
  refine wpAny_bind ?_
  first | refine wpAny_bind (wpAny_typeNameOfWhole_itemiter hT (wpAny_pure ?_)) | refine wpAny_bind (wpAny_typeNameOf_itemiter hT (wpAny_pure ?_))
  refine wpAny_bind (wpAny_fieldsOf hit rfl ?_)
  have hown : Builtin.Dict_items.ownsTuple "dict_itemiterator" = true := by decide
  simp only [hown, if_true]
  show wpAny _ _ (if (Value.ref d == Value.none) = true then _ else _) _ _ s
  rw [if_neg (show ¬ ((Value.ref d == Value.none) = true) from Bool.false_ne_true)]
  refine wpAny_bind (wpAny_pure ?_)
  refine wpAny_bind (wpAny_dictEntries hod hdd ?_)
  have hsz : es.size = kvs.length := by rw [← hpr.length]; simp
  rw [if_neg (by rw [hsz]; simp)]
  refine wpAny_bind (wpAny_pure ?_)
  refine wpAny_bind (wpAny_dictEpoch hod hdd ?_)
  rw [if_neg (by simp)]
  refine wpAny_pure ?_
  have hge : es.size ≤ i := by rw [hsz]; simpa using hx
  simp only [show ¬ ((i : Int) < 0) from by omega, if_false, Int.toNat_natCast, Array.getElem?_eq_none hge]
  refine wpAny_bind ?_
  first | refine wpAny_bind (wpAny_typeNameOfWhole_itemiter hT (wpAny_pure ?_)) | refine wpAny_bind (wpAny_typeNameOf_itemiter hT (wpAny_pure ?_))
  show wpAny _ _ (setField (.ref it) 2 .none >>= _) _ _ s
  refine wpAny_bind (wpAny_setField hit rfl (by simp) ?_)
  show wpAny _ _ (newExc (.type "StopIteration") [] >>= _) _ _ _
  refine wpAny_bind ?_
  simp only [newExc, newTuple]
  refine wpAny_bind (wpAny_newObj_type ?_ (by size_fits))
  refine wpAny_bind (m := firstArgMember _ _) (wpAny_of_eq (a := Value.none) (by first | rfl | (simp only [firstArgMember]; rfl)) ?_)
  refine wpAny_newObj_type ?_ (by size_fits)
  simp only [raiseNew]
  refine wpAny_bind (wpAny_handled ?_)
  rw [show A.in1.handled = none from hh]
  refine wpAny_bind (wpAny_pure (wpAny_throw ?_))
  refine wpAny_bind (wpAny_isInstance (T := "StopIteration") (b := true) ⟨_, Heap.get?_push_size _ rfl, rfl⟩ isSubtype_stop ?_)
  exact wpAny_pure (hQ _ (stop_raised (Heap.SameBut.update ..) _ _))
/-- a dict's values' iterator at its end -/
theorem values_done {it d : Addr} {i ep : Nat} {kvs : List (K × Value)} {Q : Option Value → Shared → Prop} (hh : A.handled = none) (hit : s.heap.IsValIter it d i kvs.length ep)
    (hm : s.heap.DictAt knd d kvs ep) (hx : kvs[i]? = none)
    (hQ : ∀ h', Two it s.heap h' → Q none { s with heap := h' }) : wpAny (model prog w) A (pyNext (.ref it)) Q E s := by
  obtain ⟨o, ho, hc, hd⟩ := id hit
  obtain ⟨od, es, hod, hcd, hdd, hk, hp, hn⟩ := id hm
  unfold pyNext
  refine wpAny_bind (wpAny_attempt (wpAny_callSpecial?_slot (name := Str.ofString "__next__") hit.typeIs F.slot_dict_valueiterator_next
    (wpAny_call_entry F.slot_dict_valueiterator_next hit.typeIs F.entry_dict_valueiterator_next ?_ (F.args_dict_valueiterator_next_1 _))))
  refine wpAny_bind (wpAny_pure ?_)
  refine wpAny_bind ?_
  refine wpAny_bind ?_
  first | refine wpAny_bind (wpAny_typeNameOfWhole_valiter hit.typeIs (wpAny_pure ?_)) | refine wpAny_bind (wpAny_typeNameOf_valiter hit.typeIs (wpAny_pure ?_))
  refine wpAny_bind (wpAny_fieldsOf ho hd ?_)
  have hown : Builtin.Dict_items.ownsTuple "dict_valueiterator" = false := by decide
  simp only [hown, Bool.false_eq_true, if_false]
  show wpAny _ _ (if (Value.ref d == Value.none) = true then _ else _) _ _ s
  rw [if_neg (show ¬ ((Value.ref d == Value.none) = true) from Bool.false_ne_true)]
  refine wpAny_bind (wpAny_pure ?_)
  refine wpAny_bind (wpAny_dictEntries hod hdd ?_)
  have hsz : es.size = kvs.length := by rw [← hp.length]; simp
  rw [if_neg (by rw [hsz]; simp)]
  refine wpAny_bind (wpAny_pure ?_)
  refine wpAny_bind (wpAny_dictEpoch hod hdd ?_)
  rw [if_neg (by simp)]
  refine wpAny_pure ?_
  have hge : es.size ≤ i := by rw [hsz]; simpa using hx
  simp only [show ¬ ((i : Int) < 0) from by omega, if_false, Int.toNat_natCast, Array.getElem?_eq_none hge]
  refine wpAny_bind ?_
  first | refine wpAny_bind (wpAny_typeNameOfWhole_valiter hit.typeIs (wpAny_pure ?_)) | refine wpAny_bind (wpAny_typeNameOf_valiter hit.typeIs (wpAny_pure ?_))
  show wpAny _ _ (setField (.ref it) 0 .none >>= _) _ _ s
  refine wpAny_bind (wpAny_setField ho hd (by simp) ?_)
  show wpAny _ _ (newExc (.type "StopIteration") [] >>= _) _ _ _
  refine wpAny_bind ?_
  simp only [newExc, newTuple]
  refine wpAny_bind (wpAny_newObj_type ?_ (by size_fits))
  refine wpAny_bind (m := firstArgMember _ _) (wpAny_of_eq (a := Value.none) (by first | rfl | (simp only [firstArgMember]; rfl)) ?_)
  refine wpAny_newObj_type ?_ (by size_fits)
  simp only [raiseNew]
  refine wpAny_bind (wpAny_handled ?_)
  rw [show A.in1.handled = none from hh]
  refine wpAny_bind (wpAny_pure (wpAny_throw ?_))
  refine wpAny_bind (wpAny_isInstance (T := "StopIteration") (b := true) ⟨_, Heap.get?_push_size _ rfl, rfl⟩ isSubtype_stop ?_)
  exact wpAny_pure (hQ _ (stop_raised (Heap.SameBut.update ..) _ _))
end
end Mine
end
section
open PySem PySem.W PyProof.Rows PySem.Calls
namespace Mine
section
variable {prog : Program} {w : World} {K : Type} [DecidableEq K] {knd : KeyKind prog w K} {A : Around} {R : Result → Shared → Prop} {E : Value → Shared → Prop}
/-- what the largest of a dict's values leaves -/
def Left2 (I S : Addr) (h h' : Heap) : Prop := (∀ b o, b ≠ I → b ≠ S → h.get? b = some o → h'.get? b = some o) ∧ h'.objs.size = h.objs.size + 2
def ValP (kvs : List (K × Value)) (i : Nat) (v : Value) : Prop := ∃ k, kvs[i]? = some (k, v)
theorem max_vals_loop (hh : A.handled = none) {kvs : List (K × Value)} {ep : Nat} {I S d : Addr} (hIS : I ≠ S) (hdI : d ≠ I) (hdS : d ≠ S) (bt : Nat → Nat → Bool) (hcmp : CmpOf prog w A.in1 .Gt (ValP kvs) bt) :
    ∀ (k j : Nat) (s : Shared) (vb : Value) (c : Nat), kvs.length - (j + 1) = k → j + 1 ≤ kvs.length → s.heap.IsValIter I d (j + 1) kvs.length ep → s.heap.DictAt knd d kvs ep → ValP kvs (argBest bt j) vb →
    s.heap.get? S = some { cls := .type "list", dict := none, data := .seq #[vb, vb] c, slots := #[] } →
    (∀ v h' tk, ValP kvs (argBest bt (kvs.length - 1)) v → Left2 I S s.heap h' → R (.ok (.ret v)) { s with heap := h', toks := tk }) → codeAny (model prog w) A (.builtin "max.loop" ⟨[.ref I, .none, .ref S], []⟩) R s := by
  have hname : (toString "max" ++ toString ".loop" : String) = "max.loop" := by decide
  intro k
  induction k with
  | zero =>
    intro j s vb c hk hj hit hm hPb hS hR
    have hin : j + 1 = kvs.length := by omega
    refine codeAny_builtin F.entry_max_loop ?_
    rw [Around.under_plainId F.plain_max_loop _]
    show wpAny _ A.in1 (seqItems? (.ref S) >>= _) _ _ s
    refine wpAny_bind (wpAny_seqItems hS rfl ?_)
    show wpAny _ A.in1 (tryCatch (pyNext (.ref I)) _ >>= _) _ _ s
    refine wpAny_bind (wpAny_tryCatch (values_done (A := A.in1) hh hit hm (by simp; omega) fun h' hk' => ?_))
    have hS' := hk'.1 S _ (Ne.symm hIS) hS
    show wpAny _ A.in1 (updateSeq S (fun _ => #[]) >>= _) _ _ _
    refine wpAny_bind ?_
    refine wpAny_updateSeq hS' rfl (wpAny_bind (wpAny_letGo (wpAny_pure ?_)))
    refine hR vb _ _ (by rw [← hin]; exact hPb) ⟨fun b o hbI hbS e => (Heap.get?_update_other _ _ (Ne.symm hbS)).trans (hk'.1 b o hbI e), ?_⟩
    rw [Heap.size_after_update, hk'.2]
  | succ k ih =>
    intro j s vb c hk hj hit hm hPb hS hR
    have hlt : j + 1 < kvs.length := by omega
    refine codeAny_builtin F.entry_max_loop ?_
    rw [Around.under_plainId F.plain_max_loop _]
    show wpAny _ A.in1 (seqItems? (.ref S) >>= _) _ _ s
    refine wpAny_bind (wpAny_seqItems hS rfl ?_)
    show wpAny _ A.in1 (tryCatch (pyNext (.ref I)) _ >>= _) _ _ s
    refine wpAny_bind (wpAny_tryCatch (wpAny_pyNext_values_item (k := (kvs[j + 1]).1) (v := (kvs[j + 1]).2) hit hm (by simp [hlt]) fun h₁ hit₁ hs₁ => ?_))
    generalize hv : (kvs[j + 1]).2 = v
    have hP : ValP kvs (j + 1) v := ⟨(kvs[j + 1]).1, by rw [← hv]; simp [hlt]⟩
    have hS' := hs₁.extBut S _ (Ne.symm hIS) hS
    have hm₁ := hm.extBut hs₁.extBut hdI
    show wpAny _ A.in1 (tryCatch (holding [v, v] (richCompare .Gt v vb >>= _)) _ >>= _) _ _ _
    refine wpAny_bind (wpAny_tryCatch (wpAny_holding (wpAny_bind (hcmp (j + 1) (argBest bt j) v vb _ _ _ hP hPb ?_))))
    refine wpAny_bind (wpAny_holding (wpAny_truthy_bool ?_))
    refine wpAny_bind (wpAny_letGo (wpAny_pure ?_))
    cases hb : bt (j + 1) (argBest bt j) with
    | true =>
      simp only [if_true]
      refine wpAny_bind ?_
      refine wpAny_updateSeq hS' rfl (wpAny_bind (wpAny_letGo ?_))
      rw [hname]
      have hu : Heap.ExtBut S h₁ (h₁.update S (Obj.mapSeq fun _ => #[v, v])) := (Heap.SameBut.update ..).extBut
      refine wpAny_pure ⟨plainId_quiet F.plain_max_loop _, ih (j + 1) _ v _ (by omega) hlt (hit₁.extBut hu hIS) (hm₁.extBut hu hdS) (by simp only [argBest, hb, if_true]; exact hP) (Heap.get?_update_self _ hS' rfl)
        fun v' h'' tk hP' hm'' => ?_⟩
      refine hR v' h'' tk hP' ⟨fun b o hbI hbS e => hm''.1 b o hbI hbS (hu b o hbS (hs₁.extBut b o hbI e)), ?_⟩
      rw [hm''.2]
      show (h₁.update S _).objs.size + 2 = _
      rw [Heap.size_after_update, hs₁.1]
    | false =>
      simp only [Bool.false_eq_true, if_false]
      refine wpAny_bind (wpAny_letGo ?_)
      rw [hname]
      refine wpAny_pure ⟨plainId_quiet F.plain_max_loop _, ih (j + 1) _ vb c (by omega) hlt hit₁ hm₁ (by simp only [argBest, hb, Bool.false_eq_true, if_false]; exact hPb) hS' fun v' h'' tk hP' hm'' => ?_⟩
      refine hR v' h'' tk hP' ⟨fun b o hbI hbS e => hm''.1 b o hbI hbS (hs₁.extBut b o hbI e), ?_⟩
      rw [hm''.2]
      show h₁.objs.size + 2 = _
      rw [hs₁.1]
variable {s : Shared}
/-- the largest of a dict's values: four objects more -/
theorem max_vals (hh : A.handled = none) {kvs : List (K × Value)} {ep : Nat} {v d : Addr} (bt : Nat → Nat → Bool) (hcmp : CmpOf prog w A.in1 .Gt (ValP kvs) bt) (hn : 0 < kvs.length)
    (hv : s.heap.IsValuesView v d) (hm : s.heap.DictAt knd d kvs ep) {Q : Value → Shared → Prop}
    (hQ : ∀ x h' tk, ValP kvs (argBest bt (kvs.length - 1)) x → (∀ b o, s.heap.get? b = some o → h'.get? b = some o) → h'.objs.size = s.heap.objs.size + 4 → Q x { s with heap := h', toks := tk }) :
    wpAny (model prog w) A (call (.builtin "max") [.ref v]) Q E s := by
  have hname : (toString "max" ++ toString ".loop" : String) = "max.loop" := by decide
  refine call_function_tree F.kind_max F.plain_max F.entry_max (F.args_max1 _) ?_
  show wpAny _ A.in1 (Builtin.Builtins.bindParams "max" ["key", "default"] 0 ⟨[], []⟩ >>= _) _ _ s
  refine wpAny_bind (wpAny_of_eq (show Builtin.Builtins.bindParams "max" ["key", "default"] 0 ⟨[], []⟩ = pure [none, none] from rfl) ?_)
  refine wpAny_bind (wpAny_pure ?_)
  refine wpAny_bind (wpAny_pyIter_values hv hm ?_)
  refine wpAny_bind (wpAny_newObj_type ?_)
  rw [hname]
  generalize hH1 : s.heap.push { cls := .type "dict_valueiterator", data := .fields #[.ref d, .int 0 0, .int kvs.length 0, .int ep 0] } = H1
  have z1 : H1.objs.size = s.heap.objs.size + 1 := by rw [← hH1, Heap.size_push]
  have hd : d < s.heap.objs.size := hm.lt_size
  have hI1 : H1.IsValIter s.heap.objs.size d 0 kvs.length ep := ⟨_, by rw [← hH1]; exact Heap.get?_push_size _ rfl, rfl, rfl⟩
  dsimp only
  generalize hH2 : H1.push { cls := .type "list", dict := none, data := .seq ([] : List Value).toArray } = H2
  have z2 : H2.objs.size = s.heap.objs.size + 2 := by rw [← hH2, Heap.size_push, z1]
  have g1 : ∀ b o, s.heap.get? b = some o → H1.get? b = some o := fun b o e => by rw [← hH1]; exact Heap.get?_push_of_some _ e
  have g2 : ∀ b o, H1.get? b = some o → H2.get? b = some o := fun b o e => by rw [← hH2]; exact Heap.get?_push_of_some _ e
  have hIS : s.heap.objs.size ≠ H1.objs.size := by rw [z1]; exact Nat.ne_of_lt (Nat.lt_succ_self _)
  have hdI : d ≠ s.heap.objs.size := Nat.ne_of_lt hd
  have hdS : d ≠ H1.objs.size := by rw [z1]; exact Nat.ne_of_lt (Nat.lt_succ_of_lt hd)
  have hS : H2.get? H1.objs.size = some { cls := .type "list", dict := none, data := .seq #[] 0, slots := #[] } := by rw [← hH2]; exact Heap.get?_push_size _ rfl
  have hI2 : H2.IsValIter s.heap.objs.size d 0 kvs.length ep := let ⟨o, ho, r⟩ := hI1; ⟨o, g2 _ _ ho, r⟩
  have hm2 : H2.DictAt knd d kvs ep := hm.keep fun b o e => g2 _ _ (g1 _ _ e)
  generalize hSd : H1.objs.size = S at hIS hdS hS
  refine wpAny_pure ⟨plainId_quiet F.plain_max_loop _, ?_⟩
  -- the first turn
  refine codeAny_builtin F.entry_max_loop ?_
  rw [Around.under_plainId F.plain_max_loop _]
  show wpAny _ _ (seqItems? (.ref S) >>= _) _ _ _
  refine wpAny_bind (wpAny_seqItems hS rfl ?_)
  show wpAny _ _ (tryCatch (pyNext (.ref s.heap.objs.size)) _ >>= _) _ _ _
  refine wpAny_bind (wpAny_tryCatch (wpAny_pyNext_values_item (k := (kvs[0]).1) (v := (kvs[0]).2) hI2 hm2 (by simp [hn]) fun h₁ hit₁ hs₁ => ?_))
  generalize hv0 : (kvs[0]).2 = v0
  have hP : ValP kvs 0 v0 := ⟨(kvs[0]).1, by rw [← hv0]; simp [hn]⟩
  have hS' := hs₁.extBut S _ (Ne.symm hIS) hS
  have hm₁ := hm2.extBut hs₁.extBut hdI
  show wpAny _ _ (updateSeq S (fun _ => #[v0, v0]) >>= _) _ _ _
  refine wpAny_bind ?_
  refine wpAny_updateSeq hS' rfl ?_
  rw [hname]
  have hu : Heap.ExtBut S h₁ (h₁.update S (Obj.mapSeq fun _ => #[v0, v0])) := (Heap.SameBut.update ..).extBut
  refine wpAny_pure ⟨plainId_quiet F.plain_max_loop _, max_vals_loop hh hIS hdI hdS bt hcmp _ 0 _ v0 _ rfl hn (hit₁.extBut hu hIS) (hm₁.extBut hu hdS) hP (Heap.get?_update_self _ hS' rfl) fun v' h'' tk hP' hm'' => ?_⟩
  refine hQ v' h'' tk hP' (fun b o e => hm''.1 b o (Nat.ne_of_lt (Heap.lt_size e)) (by rw [← hSd, z1]; exact Nat.ne_of_lt (Nat.lt_succ_of_lt (Heap.lt_size e)))
    (hu b o (by rw [← hSd, z1]; exact Nat.ne_of_lt (Nat.lt_succ_of_lt (Heap.lt_size e))) (hs₁.extBut b o (Nat.ne_of_lt (Heap.lt_size e)) (g2 _ _ (g1 _ _ e))))) ?_
  rw [hm''.2]
  show (h₁.update S _).objs.size + 2 = _
  rw [Heap.size_after_update, hs₁.1, z2]
end
end Mine
end
section
open PySem PySem.W PyProof.Rows PySem.Calls
namespace Mine
def look (a : Nat) : Frag → Option Obj
  | [] => none
  | (b, o) :: r => bif Nat.beq a b then some o else look a r
def put (a : Nat) (x : Obj) : Frag → Frag
  | [] => []
  | (b, o) :: r => bif Nat.beq a b then (b, x) :: r else (b, o) :: put a x r
/-- a tree that calls nothing, run upon the objects that are known -/
def ev {α : Type} (S : Setting) (T : Nat) : Sem α → Frag → Nat → Nat → Option (α × Frag × Nat × Nat)
  | .pure a, K, n, k => some (a, K, n, k)
  | .rule _ c, K, n, k => ev S T (c ()) K n k
  | .at _ c, K, n, k => ev S T (c ()) K n k
  | .point _ c, K, n, k => ev S T (c ()) K n k
  | .ask c, K, n, k => ev S T (c S) K n k
  | .load a _ c, K, n, k => match look a K with
    | some o => ev S T (c o) K n k
    | none => none
  | .loadIfAlive a c, K, n, k => match look a K with
    | some o => ev S T (c (some o)) K n k
    | none => none
  | .update a _ f c, K, n, k => match look a K with
    | some o => bif (f o).isFreed then none else ev S T (c ()) (put a (f o) K) n k
    | none => none
  | .alloc o c, K, n, k => bif o.isFreed then none else ev S T (c n) ((n, o) :: K) (n + 1) k
  | .fresh c, K, n, k => ev S T (c (T + k)) K n (k + 1)
  | _, _, _, _ => none
structure At (T : Nat) (s : Shared) (K : Frag) (n k : Nat) : Prop where
  has : ∀ a o, look a K = some o → s.heap.get? a = some o
  size : s.heap.objs.size = n
  toks : s.toks = T + k
/-- nothing but the heap and the count of tokens has turned; objects that are not known stand as they stood -/
structure Goes (K : Frag) (s s' : Shared) : Prop where
  eq : ∃ h tk, s' = { s with heap := h, toks := tk }
  keep : ∀ b o, look b K = none → s.heap.get? b = some o → s'.heap.get? b = some o
theorem Goes.refl (K : Frag) (s : Shared) : Goes K s s := ⟨⟨_, _, rfl⟩, fun _ _ _ e => e⟩
theorem look_put {a b : Nat} {x : Obj} : ∀ {K : Frag}, look b (put a x K) = if a = b then (look b K).map fun _ => x else look b K
  | [] => by simp [look, put]
  | (c, o) :: r => by
    unfold put
    cases hac : Nat.beq a c with
    | true =>
      have := Nat.eq_of_beq_eq_true hac
      subst this
      simp only [cond_true]
      unfold look
      cases hba : Nat.beq b a with
      | true => have := Nat.eq_of_beq_eq_true hba; subst this; simp
      | false => have := Nat.ne_of_beq_eq_false hba; simp [Ne.symm this]
    | false =>
      simp only [cond_false]
      unfold look
      cases hbc : Nat.beq b c with
      | true =>
        have h1 := Nat.eq_of_beq_eq_true hbc
        have h2 := Nat.ne_of_beq_eq_false hac
        subst h1
        simp [h2]
      | false => simp only [cond_false]; exact look_put
theorem ev_sound {α : Type} {M : Model} {Γ : Ctx} {T : Nat} {Q : α → Pos → Shared → Prop} {E : Value → Pos → Shared → Prop} {a : α} {K' : Frag} {n' k' : Nat} :
    ∀ (t : Sem α) (p : Pos) (s : Shared) (K : Frag) (n k : Nat), At T s K n k → ev ⟨M.prog, M.w.params⟩ T t K n k = some (a, K', n', k') →
    (∀ p' s', At T s' K' n' k' → Goes K s s' → Q a p' s') → Sem.wp M Γ t Q E p s := by
  intro t
  induction t with
  | pure b =>
    intro p s K n k hA he hQ
    simp only [ev, Option.some.injEq, Prod.mk.injEq] at he
    obtain ⟨rfl, rfl, rfl, rfl⟩ := he
    exact hQ p s hA (Goes.refl ..)
  | rule _ c ih => intro p s K n k hA he hQ; exact ih () p s K n k hA he hQ
  | «at» p' c ih => intro p s K n k hA he hQ; exact ih () p' s K n k hA he hQ
  | point _ c ih => intro p s K n k hA he hQ; exact ih () p s K n k hA he hQ
  | ask c ih => intro p s K n k hA he hQ; exact ih _ p s K n k hA he hQ
  | load b _ c ih =>
    intro p s K n k hA he hQ
    simp only [ev] at he
    cases hl : look b K with
    | none => rw [hl] at he; cases he
    | some o =>
      rw [hl] at he
      exact ⟨o, hA.has b o hl, ih o p s K n k hA he hQ⟩
  | loadIfAlive b c ih =>
    intro p s K n k hA he hQ
    simp only [ev] at he
    cases hl : look b K with
    | none => rw [hl] at he; cases he
    | some o =>
      rw [hl] at he
      rw [Sem.wp_loadIfAlive, hA.has b o hl]
      exact ih (some o) p s K n k hA he hQ
  | update b part f c ih =>
    intro p s K n k hA he hQ
    simp only [ev] at he
    cases hl : look b K with
    | none => rw [hl] at he; cases he
    | some o =>
      rw [hl] at he
      cases hf : (f o).isFreed with
      | true => simp only [hf, cond_true] at he; cases he
      | false =>
        simp only [hf, cond_false] at he
        rw [Sem.wp_update]
        refine ⟨by rw [hA.has b o hl]; rfl, ih () p _ (put b (f o) K) n k ⟨fun a x hx => ?_, ?_, hA.toks⟩ he fun p' s' hA' hG => hQ p' s' hA' ?_⟩
        · rw [look_put] at hx
          by_cases hba : b = a
          · subst hba
            rw [if_pos rfl, hl] at hx
            obtain rfl := Option.some.inj hx
            exact Heap.get?_update_self f (hA.has b o hl) hf
          · rw [if_neg hba] at hx
            exact (Heap.get?_update_other _ _ hba).trans (hA.has a x hx)
        · show (s.heap.update b f).objs.size = n
          rw [Heap.size_after_update]; exact hA.size
        · obtain ⟨⟨h, tk, rfl⟩, kp⟩ := hG
          refine ⟨⟨h, tk, rfl⟩, fun x o' hx e => kp x o' ?_ ?_⟩
          · rw [look_put]
            by_cases hbx : b = x
            · subst hbx; rw [hl] at hx; cases hx
            · rw [if_neg hbx]; exact hx
          · have hbx : b ≠ x := by intro q; subst q; rw [hl] at hx; cases hx
            exact (Heap.get?_update_other _ _ hbx).trans e
  | alloc o c ih =>
    intro p s K n k hA he hQ
    simp only [ev] at he
    cases hf : o.isFreed with
    | true => simp only [hf, cond_true] at he; cases he
    | false =>
      simp only [hf, cond_false] at he
      rw [Sem.wp_alloc]
      have hz := hA.size
      subst hz
      refine ih _ p _ ((s.heap.objs.size, o) :: K) (s.heap.objs.size + 1) k ⟨fun a x hx => ?_, Heap.size_push .., hA.toks⟩ he fun p' s' hA' hG => hQ p' s' hA' ?_
      · unfold look at hx
        cases hb : Nat.beq a s.heap.objs.size with
        | true =>
          rw [hb] at hx
          obtain rfl := Option.some.inj hx
          rw [Nat.eq_of_beq_eq_true hb]
          exact Heap.get?_push_size _ hf
        | false =>
          rw [hb] at hx
          exact Heap.get?_push_of_some _ (hA.has a x hx)
      · obtain ⟨⟨h, tk, rfl⟩, kp⟩ := hG
        refine ⟨⟨h, tk, rfl⟩, fun x o' hx e => kp x o' ?_ (Heap.get?_push_of_some _ e)⟩
        unfold look
        have : Nat.beq x s.heap.objs.size = false := by
          have hne : x ≠ s.heap.objs.size := Nat.ne_of_lt (Heap.lt_size e)
          cases hb : Nat.beq x s.heap.objs.size with
          | false => rfl
          | true => exact absurd (Nat.eq_of_beq_eq_true hb) hne
        rw [this]; exact hx
  | fresh c ih =>
    intro p s K n k hA he hQ
    simp only [ev] at he
    rw [Sem.wp_fresh]
    have ht := hA.toks
    rw [ht]
    refine ih _ p _ K n (k + 1) ⟨hA.has, hA.size, ?_⟩ he fun p' s' hA' hG => hQ p' s' hA' ?_
    · show T + k + 1 = T + (k + 1)
      rfl
    · obtain ⟨⟨h, tk, rfl⟩, kp⟩ := hG
      exact ⟨⟨h, tk, rfl⟩, fun x o' hx e => kp x o' hx e⟩
  | _ => intro p s K n k hA he hQ; simp only [ev] at he; cases he
theorem wpAny_ev {α : Type} {M : Model} {A : Around} {T : Nat} {Q : α → Shared → Prop} {E : Value → Shared → Prop} {s : Shared} {a : α} {t : Sem α} {K K' : Frag} {n k n' k' : Nat}
    (hA : At T s K n k) (he : ev ⟨M.prog, M.w.params⟩ T t K n k = some (a, K', n', k')) (hQ : ∀ s', At T s' K' n' k' → Goes K s s' → Q a s') : wpAny M A t Q E s :=
  fun _ p _ => ev_sound t p s K n k hA he fun _ s' x y => hQ s' x y
end Mine
end
section
open PySem PySem.W PyProof.Rows PySem.Calls
namespace Mine
abbrev pg : Program := PySem.Challenge.pw_rs0004_01
noncomputable def boot0 (P : Params) : Frag := [(3, boot_o_3 P), (0, boot_o_0 P), (1, boot_o_1 P), (2, boot_o_2 P), (4, boot_o_4 P), (5, boot_o_5 P), (6, boot_o_6 P), (7, boot_o_7 P), (8, boot_o_8 P), (9, boot_o_9 P), (10, boot_o_10 P)]
/-- the module's own environment -/
abbrev env0 : Env := { scope := pg.main.scope, locals := mainNs, globals := mainNs, cells := [], code := Value.ref 13, frame := some 14 }
def code14 (t : Nat) : Obj := .mk (Value.type "frame") none .plain #[some (Value.ref 13), some (Value.ref 3), some (Value.ref 3), none, some (Value.str (Str.ofString "__main__") t), none, some (Value.ref 0)]
def code13 (t : Nat) : Obj := .mk (Value.type "code") none (.fields #[Value.str (Str.ofString "<module>") (t + 1), Value.str (Str.ofString "<module>") (t + 2), Value.str (Str.ofString "/claim/cut.py") (t + 3), Value.int 1 0, Value.int 0 0, Value.int 0 0, Value.int 0 0, Value.int 0 0, Value.ref 11, Value.bool false, Value.int t 0, Value.ref 12, Value.none, Value.none, Value.none, Value.none, Value.int (t + 4) 0, Value.int 1 0, Value.str (Str.ofString "/claim/cut.py") (t + 5)]) #[]
def code12 : Obj := .mk Value.none none (.fields #[]) #[]
def code11 : Obj := .mk (Value.type "tuple") none (.seq #[] 0) #[]
def ent (P : Params) (x : Str × Nat × Value) : DictEntry := ⟨PyData.keyHash P x.1, Value.str x.1 x.2.1, x.2.2⟩
def mainOf (P : Params) (l : List (Str × Nat × Value)) (n : Nat) : Obj := .mk (Value.type "dict") none (.dict (l.map (ent P)).toArray n) #[]
def names0 (nm : Str) (t : Nat) : List (Str × Nat × Value) := [("__name__", 165, Value.str nm t), ("__doc__", 166, Value.none), ("__package__", 167, Value.none), ("__loader__", 168, Value.builtin "__main__.__loader__#opaque"), ("__spec__", 169, Value.none), ("__annotations__", 170, Value.ref 6),
  ("__builtins__", 171, Value.ref 4), ("__file__", 173, Value.str "/claim/cut.py" 172), ("__cached__", 174, Value.none)]
/-- the objects known ahead of the top's first statement -/
noncomputable def known0 (P : Params) : Frag := [(14, code14 164), (13, code13 181), (12, code12), (11, code11), (3, mainOf P (names0 "__main__" 164) 9), (0, boot_o_0 P), (1, boot_o_1 P), (2, boot_o_2 P), (4, boot_o_4 P), (5, boot_o_5 P), (6, boot_o_6 P), (7, boot_o_7 P), (8, boot_o_8 P), (9, boot_o_9 P), (10, boot_o_10 P)]
theorem start_ev (P : Params) : ev ⟨pg, P⟩ 181 (do let c ← moduleCode pg.main; let f ← newBodyFrame c mainNs mainNs; pure (c, f)) (boot0 P) 11 0 = some ((Value.ref 13, 14), known0 P, 15, 6) := by kernel_rfl
/-- what is known behind statement 4 -/
noncomputable def known4 (P : Params) (t : Nat → Nat) (oD oL : Obj) : Frag := (3, mainOf P (names0 "cpy313.opcode" (t 0) ++ ([("opmap", t 1, Value.ref 15), ("opname", t 2, Value.ref 31), ("op", t 3, Value.str "STORE_FAST_MAYBE_NULL" (t 4)), ("i", t 5, Value.int 267 (t 6))] : List (Str × Nat × Value))) 13) ::
  (15, oD) :: (31, oL) :: [(14, code14 164), (13, code13 181), (12, code12), (11, code11), (0, boot_o_0 P), (1, boot_o_1 P), (2, boot_o_2 P), (4, boot_o_4 P), (5, boot_o_5 P), (6, boot_o_6 P), (7, boot_o_7 P), (8, boot_o_8 P), (9, boot_o_9 P), (10, boot_o_10 P)]
end Mine
end
section
open PySem PySem.W PyProof.Rows PySem.Calls
namespace Mine
def pairs : List (Str × Int) := ([("CACHE", 0), ("RESERVED", 17), ("RESUME", 149), ("INSTRUMENTED_LINE", 254), ("BEFORE_ASYNC_WITH", 1), ("BEFORE_WITH", 2), ("BINARY_SLICE", 4), ("BINARY_SUBSCR", 5), ("CHECK_EG_MATCH", 6), ("CHECK_EXC_MATCH", 7), ("CLEANUP_THROW", 8), ("DELETE_SUBSCR", 9), ("END_ASYNC_FOR", 10), ("END_FOR", 11), ("END_SEND", 12), ("EXIT_INIT_CHECK", 13), ("FORMAT_SIMPLE", 14), ("FORMAT_WITH_SPEC", 15), ("GET_AITER", 16), ("GET_ANEXT", 18), ("GET_ITER", 19), ("GET_LEN", 20), ("GET_YIELD_FROM_ITER", 21), ("INTERPRETER_EXIT", 22), ("LOAD_ASSERTION_ERROR", 23), ("LOAD_BUILD_CLASS", 24), ("LOAD_LOCALS", 25), ("MAKE_FUNCTION", 26), ("MATCH_KEYS", 27), ("MATCH_MAPPING", 28), ("MATCH_SEQUENCE", 29), ("NOP", 30), ("POP_EXCEPT", 31), ("POP_TOP", 32), ("PUSH_EXC_INFO", 33), ("PUSH_NULL", 34), ("RETURN_GENERATOR", 35), ("RETURN_VALUE", 36), ("SETUP_ANNOTATIONS", 37), ("STORE_SLICE", 38), ("STORE_SUBSCR", 39), ("TO_BOOL", 40), ("UNARY_INVERT", 41), ("UNARY_NEGATIVE", 42), ("UNARY_NOT", 43), ("WITH_EXCEPT_START", 44), ("BINARY_OP", 45), ("BUILD_CONST_KEY_MAP", 46), ("BUILD_LIST", 47), ("BUILD_MAP", 48), ("BUILD_SET", 49), ("BUILD_SLICE", 50), ("BUILD_STRING", 51), ("BUILD_TUPLE", 52), ("CALL", 53), ("CALL_FUNCTION_EX", 54), ("CALL_INTRINSIC_1", 55), ("CALL_INTRINSIC_2", 56), ("CALL_KW", 57), ("COMPARE_OP", 58), ("CONTAINS_OP", 59), ("CONVERT_VALUE", 60), ("COPY", 61), ("COPY_FREE_VARS", 62), ("DELETE_ATTR", 63), ("DELETE_DEREF", 64), ("DELETE_FAST", 65), ("DELETE_GLOBAL", 66), ("DELETE_NAME", 67), ("DICT_MERGE", 68), ("DICT_UPDATE", 69), ("ENTER_EXECUTOR", 70), ("EXTENDED_ARG", 71), ("FOR_ITER", 72), ("GET_AWAITABLE", 73), ("IMPORT_FROM", 74), ("IMPORT_NAME", 75), ("IS_OP", 76), ("JUMP_BACKWARD", 77), ("JUMP_BACKWARD_NO_INTERRUPT", 78), ("JUMP_FORWARD", 79), ("LIST_APPEND", 80), ("LIST_EXTEND", 81), ("LOAD_ATTR", 82), ("LOAD_CONST", 83), ("LOAD_DEREF", 84), ("LOAD_FAST", 85), ("LOAD_FAST_AND_CLEAR", 86), ("LOAD_FAST_CHECK", 87), ("LOAD_FAST_LOAD_FAST", 88), ("LOAD_FROM_DICT_OR_DEREF", 89), ("LOAD_FROM_DICT_OR_GLOBALS", 90), ("LOAD_GLOBAL", 91), ("LOAD_NAME", 92), ("LOAD_SUPER_ATTR", 93), ("MAKE_CELL", 94), ("MAP_ADD", 95), ("MATCH_CLASS", 96), ("POP_JUMP_IF_FALSE", 97), ("POP_JUMP_IF_NONE", 98), ("POP_JUMP_IF_NOT_NONE", 99), ("POP_JUMP_IF_TRUE", 100), ("RAISE_VARARGS", 101), ("RERAISE", 102), ("RETURN_CONST", 103), ("SEND", 104), ("SET_ADD", 105), ("SET_FUNCTION_ATTRIBUTE", 106), ("SET_UPDATE", 107), ("STORE_ATTR", 108), ("STORE_DEREF", 109), ("STORE_FAST", 110), ("STORE_FAST_LOAD_FAST", 111), ("STORE_FAST_STORE_FAST", 112), ("STORE_GLOBAL", 113), ("STORE_NAME", 114), ("SWAP", 115), ("UNPACK_EX", 116), ("UNPACK_SEQUENCE", 117), ("YIELD_VALUE", 118), ("INSTRUMENTED_RESUME", 236), ("INSTRUMENTED_END_FOR", 237), ("INSTRUMENTED_END_SEND", 238), ("INSTRUMENTED_RETURN_VALUE", 239), ("INSTRUMENTED_RETURN_CONST", 240), ("INSTRUMENTED_YIELD_VALUE", 241), ("INSTRUMENTED_LOAD_SUPER_ATTR", 242), ("INSTRUMENTED_FOR_ITER", 243), ("INSTRUMENTED_CALL", 244), ("INSTRUMENTED_CALL_KW", 245), ("INSTRUMENTED_CALL_FUNCTION_EX", 246), ("INSTRUMENTED_INSTRUCTION", 247), ("INSTRUMENTED_JUMP_FORWARD", 248), ("INSTRUMENTED_JUMP_BACKWARD", 249), ("INSTRUMENTED_POP_JUMP_IF_TRUE", 250), ("INSTRUMENTED_POP_JUMP_IF_FALSE", 251), ("INSTRUMENTED_POP_JUMP_IF_NONE", 252), ("INSTRUMENTED_POP_JUMP_IF_NOT_NONE", 253), ("JUMP", 256), ("JUMP_NO_INTERRUPT", 257), ("LOAD_CLOSURE", 258), ("LOAD_METHOD", 259), ("LOAD_SUPER_METHOD", 260), ("LOAD_ZERO_SUPER_ATTR", 261), ("LOAD_ZERO_SUPER_METHOD", 262), ("POP_BLOCK", 263), ("SETUP_CLEANUP", 264), ("SETUP_FINALLY", 265), ("SETUP_WITH", 266), ("STORE_FAST_MAYBE_NULL", 267)] : List (String × Int)).map fun x => (Str.ofString x.1, x.2)
theorem pairs_len : pairs.length = 150 := by kernel_rfl
theorem pairs_nodup : (pairs.map (·.1)).Nodup := by decide +kernel
def valueOf : Stmt → Expr
  | .Assign _ v _ => v
  | _ => .Constant .none 0 default
def dictE : Expr := match pg.main.body with
  | st :: _ => valueOf st
  | [] => .Constant .none 0 default
def posD : Pos := dictE.pos
theorem dict_tree : eval dictE env0 = (do standAt posD; dictDisplay (pairs.map fun x => (some (pairOf env0 posD x).1, (pairOf env0 posD x).2))) := by kernel_rfl
theorem body1 : pg.main.body = .Assign [.Name "opmap" ⟨1, 0, 1, 5⟩] dictE ⟨1, 0, 1, 3319⟩ :: pg.main.body.drop 1 := by kernel_rfl
section
variable {w : World} {A : Around} {E : Value → Shared → Prop} {s : Shared} {T n k : Nat}
/-- an object that is a dict of these entries, wherever it stands -/
def DictObj (w : World) (o : Obj) (kvs : List (Str × Value)) : Prop := ∀ (h : Heap) (d : Addr), h.get? d = some o → h.DictOf (strKind pg w) d kvs
theorem dictObj_of {h : Heap} {d : Addr} {kvs : List (Str × Value)} (x : h.DictOf (strKind pg w) d kvs) : ∃ o, h.get? d = some o ∧ DictObj w o kvs := by
  obtain ⟨o, es, ep, ho, r⟩ := x
  exact ⟨o, ho, fun h' d' e => ⟨o, es, ep, e, r⟩⟩
/-- nothing but the heap and the count of tokens has turned -/
def Onward (s s' : Shared) : Prop := ∃ h tk, s' = { s with heap := h, toks := tk }
theorem Onward.refl (s : Shared) : Onward s s := ⟨_, _, rfl⟩
theorem Onward.trans {a b c : Shared} (x : Onward a b) (y : Onward b c) : Onward a c := by
  obtain ⟨h, t, rfl⟩ := x; obtain ⟨h', t', rfl⟩ := y; exact ⟨h', t', rfl⟩
theorem Goes.onward {K : Frag} {s s' : Shared} (x : Goes K s s') : Onward s s' := x.eq
theorem At.base {K : Frag} (x : At T s K n k) : At s.toks s K n 0 := ⟨x.has, x.size, rfl⟩
theorem At.more {K : Frag} {a : Addr} {o : Obj} (x : At T s K n k) (e : s.heap.get? a = some o) : At T s ((a, o) :: K) n k := ⟨fun b o' h => by
  unfold look at h
  cases hb : Nat.beq b a with
  | true => rw [hb] at h; obtain rfl := Option.some.inj h; rw [Nat.eq_of_beq_eq_true hb]; exact e
  | false => rw [hb] at h; exact x.has b o' h, x.size, x.toks⟩
theorem At.grown {K : Frag} {h' : Heap} {tk m : Nat} (x : At T s K n k) (g : ∀ b o, s.heap.get? b = some o → h'.get? b = some o) (z : h'.objs.size = m) : At tk { s with heap := h', toks := tk } K m 0 :=
  ⟨fun a o e => g a o (x.has a o e), z, rfl⟩
noncomputable def rest0 (P : Params) : Frag := [(0, boot_o_0 P), (1, boot_o_1 P), (2, boot_o_2 P), (4, boot_o_4 P), (5, boot_o_5 P), (6, boot_o_6 P), (7, boot_o_7 P), (8, boot_o_8 P), (9, boot_o_9 P), (10, boot_o_10 P)]
noncomputable def kept (P : Params) (l : List (Str × Nat × Value)) (n : Nat) : Frag := [(14, code14 164), (13, code13 181), (12, code12), (11, code11), (3, mainOf P l n)] ++ rest0 P
theorem known0_eq (P : Params) : known0 P = kept P (names0 "__main__" 164) 9 := by kernel_rfl
/-- a name of the module's: its key's token and its value -/
def nm (x : Str) (t : Nat) (v : Value) : Str × Nat × Value := (x, t, v)
theorem store_opmap (P : Params) (T : Nat) (oD : Obj) : ev ⟨pg, P⟩ T (storeName env0 "opmap" (Value.ref 15)) ((15, oD) :: kept P (names0 "__main__" 164) 9) 24 0 = some ((), (15, oD) :: kept P (names0 "__main__" 164 ++ [nm "opmap" T (Value.ref 15)]) 10, 24, 1) := by kernel_rfl
theorem stmt1_gen {e : Expr} {p : Pos} {p1 p2 : Pos} {r : List (Str × Int)} {Q : Flow → Shared → Prop} (htree : eval e env0 = (do standAt p; dictDisplay (r.map fun x => (some (pairOf env0 p x).1, (pairOf env0 p x).2))))
    (hs : swapsWith e (some (.Name "opmap" p1)) p2.line env0 = pure false) (hr : r.length = 150) (hn : (r.map (·.1)).Nodup) (hA : At T s (known0 w.params) 15 k)
    (hQ : ∀ s' oD kvs t, KVs r kvs → DictObj w oD kvs → At s'.toks s' ((15, oD) :: kept w.params (names0 "__main__" 164 ++ [nm "opmap" t (Value.ref 15)]) 10) 24 0 → Onward s s' → Q .next s') :
    wpAny (model pg w) A (exec (.Assign [.Name "opmap" p1] e p2) env0) Q E s := by
  refine wpAny_Assign_Name ?_ hs
  rw [htree]
  refine wpAny_bind (wpAny_standAt (display_new ?_ hn ?_ ?_ fun h' tk kvs hk hd g z => ?_))
  · intro q; rw [q] at hr; cases hr
  · rw [hr, sizeLine_eq]; omega
  · show sysModules < s.heap.objs.size
    rw [hA.size]; decide
  rw [hr] at z
  have hs := hA.size
  have hd' : h'.DictOf (strKind pg w) s.heap.objs.size kvs := hd
  rw [hs] at hd' z
  show wpAny _ _ (storeName env0 "opmap" (Value.ref s.heap.objs.size)) _ _ _
  rw [hs]
  obtain ⟨oD, ho, hD⟩ := dictObj_of hd'
  have hA' : At tk { s with heap := h', toks := tk } ((15, oD) :: kept w.params (names0 "__main__" 164) 9) 24 0 := At.more (known0_eq w.params ▸ hA.grown (m := 24) (tk := tk) g z) ho
  exact wpAny_ev hA' (store_opmap w.params tk oD) fun s' hA'' hG => hQ s' oD kvs tk hk hD hA''.base (Onward.trans ⟨_, _, rfl⟩ hG.onward)
end
end Mine
end
section
open PySem PySem.W PyProof.Rows PySem.Calls
namespace Mine
def strOf : Value → Option Str
  | .str x _ => some x
  | _ => none
def elemStr (i : Nat) : Str := Str.empty ++ Str.ofString "<" ++ Str.ofString (toString (i : Int)) ++ Str.ofString ">"
theorem short_num : ((List.range 268).all fun i => decide ((Str.ofString (toString (i : Int))).length ≤ 3)) = true := by decide +kernel
theorem elem_fits {i : Nat} (h : i < 268) : (Str.empty ++ Str.ofString "<" ++ Str.ofString (toString (i : Int))).length ≤ sizeLine ∧ (elemStr i).length ≤ sizeLine := by
  have := of_decide_eq_true (List.all_eq_true.mp short_num i (List.mem_range.mpr h))
  have e0 : Str.empty.length = 0 := by decide
  have e1 : (Str.ofString "<").length = 1 := by decide
  have e2 : (Str.ofString ">").length = 1 := by decide
  unfold elemStr
  rw [sizeLine_eq]
  constructor <;> simp only [strLen_append, e0, e1, e2] <;> omega
theorem log2_small {i : Nat} (h : i < 268) : (i : Int).natAbs.log2 < 1920 := by
  have : (i : Int).natAbs = i := by simp
  rw [this]
  have h2 : i.log2 ≤ i := Nat.log2_le_self i
  omega
section
variable {w : World} {A : Around} {E : Value → Shared → Prop} {s : Shared}
/-- a name that is local in a function's environment -/
theorem local_name {cenv : Env} {x : Str} {p : Pos} {m : Str → Option Value} {v : Value} {Q : Value → Shared → Prop} (hd : (x == Str.ofString "__debug__") = false) (hk : cenv.scope.kind = .function) (hl : cenv.kindOf x = some .local) (hn : s.heap.Ns cenv.locals m) (hv : m x = some v) (h : Q v s) :
    wpAny (model pg w) A (eval (.Name x p) cenv) Q E s := wpAny_Name (wpAny_loadName_local hk hl hn hv h) hd
/-- the element of the comprehension -/
theorem elem_str {cenv : Env} {p1 p2 p3 p4 p5 : Pos} {m : Str → Option Value} {i : Nat} {t : Tok} {Q : Value → Shared → Prop} (hi : i < 268) (hk : cenv.scope.kind = .function) (hl : cenv.kindOf "op" = some .local) (hn : s.heap.Ns cenv.locals m) (hv : m "op" = some (Value.int i t))
    (h : ∀ tk t', Q (Value.str (elemStr i) t') { s with toks := tk }) :
    wpAny (model pg w) A (eval (.JoinedStr [.Constant (.str "<") 0 p1, .FormattedValue (.Name "op" p2) 114 none p3, .Constant (.str ">") 0 p4] p5) cenv) Q E s := by
  have hf := elem_fits hi
  refine wpAny_JoinedStr ?_
  show Joins _ A E [eval (.Constant (.str "<") 0 p1) cenv, eval (.FormattedValue (.Name "op" p2) 114 none p3) cenv, eval (.Constant (.str ">") 0 p4) cenv] _ _ s
  refine wpAny_Constant_str ⟨_, _, rfl, by rw [sizeLine_eq]; decide, ?_⟩
  refine wpAny_FormattedValue_repr (local_name (by decide) hk hl hn hv (pyReprObj_int (log2_small hi) ?_))
  refine wpAny_formatField_str ?_ ?_ ?_
  · refine ⟨_, _, rfl, hf.1, ?_⟩
    exact wpAny_Constant_str ⟨_, _, rfl, hf.2, hf.2, h _ _⟩
  · refine ⟨_, _, rfl, hf.1, ?_⟩
    exact wpAny_Constant_str ⟨_, _, rfl, hf.2, hf.2, h _ _⟩
  · have := elem_fits hi
    have e := of_decide_eq_true (List.all_eq_true.mp short_num i (List.mem_range.mpr hi))
    rw [sizeLine_eq]; omega
/-- where the comprehension's loop stands: so many strs are in the list -/
structure CompI (s₀ : Shared) (K : Frag) (I L C : Addr) (n i : Nat) (s' : Shared) : Prop where
  eq : Onward s₀ s'
  le : i ≤ 268
  known : ∀ a o, look a K = some o → s'.heap.get? a = some o
  iter : IsRangeIter s'.heap I i (268 - i) 1
  list : ∃ items : Array Value, s'.heap.get? L = some (listOf items i) ∧ items.toList.map strOf = ((List.range i).map elemStr).map some
  ns : ∃ m, s'.heap.Ns C m
  size : s'.heap.objs.size = n
/-- addresses that are not known -/
def NotIn (K : Frag) (a : Addr) : Prop := look a K = none
theorem ne_of_known {K : Frag} {a b : Addr} {o : Obj} (h : look b K = some o) (hn : look a K = none) : b ≠ a := by
  intro e; rw [e, hn] at h; cases h
theorem comp_loop {K : Frag} {I L C : Addr} {n : Nat} {cenv : Env} {p1 p2 p3 p4 p5 p6 : Pos} {it0 : Expr} {scope : Scope} {pos : Pos} {R : Result → Shared → Prop} (hh : A.handled = none) (hC : cenv.locals = C)
    (hk : cenv.scope.kind = .function) (hl : cenv.kindOf "op" = some .local) (hp : (cenv.scope.kind == .class || (cenv.scope.kind == .module && cenv.locals != cenv.globals)) = false)
    (hIL : I ≠ L) (hIC : I ≠ C) (hLC : L ≠ C) (hI : look I K = none) (hL : look L K = none) (hCK : look C K = none) (h0 : CompI s K I L C n 0 s)
    (hR : ∀ s', Onward s s' → (∀ a o, look a K = some o → s'.heap.get? a = some o) → (∃ items : Array Value, s'.heap.get? L = some (listOf items 268) ∧ items.toList.map strOf = ((List.range 268).map elemStr).map some) → (∃ m, s'.heap.Ns C m) → s'.heap.objs.size = n + 2 → R (.ok .next) s') :
    codeAny (model pg w) A (.compLoop (.ListComp (.JoinedStr [.Constant (.str "<") 0 p1, .FormattedValue (.Name "op" p2) 114 none p3, .Constant (.str ">") 0 p4] p5) [⟨.Name "op" p6, it0, [], 0⟩] scope pos) 0 (.ref I) (.ref L) cenv) R s := by
  subst hC
  refine codeAny_compLoop_list (fun k s' => ∃ i, k = 269 - i ∧ CompI s K I L cenv.locals n i s') ?_ 269 ⟨0, rfl, h0⟩
  rintro k s' ⟨i, rfl, ⟨h', tk, rfl⟩, hle, hkn, hit, ⟨items, hli, hst⟩, ⟨m, hns⟩, hz⟩
  have hsz : items.size = i := by
    have := congrArg List.length hst
    simpa using this
  by_cases hlt : i < 268
  · refine wpAny_pyNext_range_item hit (by omega) fun h₁ hit₁ hs₁ => ?_
    dsimp only at hs₁ hkn hli hns hz
    refine wpAny_assign_Name (wpAny_storeName_local hl (hns.sameBut hs₁ (Ne.symm hIC)) (fun h₂ hn₂ hs₂ => ?_) hp)
    dsimp only at hs₂ hn₂
    refine elem_str hlt hk hl hn₂ (if_pos rfl) fun tk' t' => ?_
    dsimp only
    have hli₂ : h₂.get? L = some (listOf items i) := hs₂.extBut _ _ hLC (hs₁.extBut _ _ (Ne.symm hIL) hli)
    refine append_at (hsz := by rw [hsz, sizeLine_eq]; omega) hli₂ fun h₃ hs₃ ho₃ => ?_
    dsimp only at hs₃ ho₃
    refine ⟨269 - (i + 1), by omega, i + 1, rfl, ⟨_, _, rfl⟩, hlt, fun a o e => ?_, ?_, ⟨_, ho₃, ?_⟩, ⟨_, hn₂.sameBut hs₃ (Ne.symm hLC)⟩, ?_⟩
    · exact hs₃.extBut _ _ (ne_of_known e hL) (hs₂.extBut _ _ (ne_of_known e hCK) (hs₁.extBut _ _ (ne_of_known e hI) (hkn a o e)))
    · have e1 : ((i : Int) + 1) = ((i + 1 : Nat) : Int) := by omega
      have e2 : (268 - (i : Int) - 1) = 268 - ((i + 1 : Nat) : Int) := by omega
      have q : IsRangeIter h₃ I ((i : Int) + 1) (268 - (i : Int) - 1) 1 := hs₃.extBut _ _ hIL (hs₂.extBut _ _ hIC hit₁)
      rw [e1, e2] at q
      exact q
    · rw [List.range_succ, List.map_append, List.map_append, ← hst]
      simp [strOf]
    · show h₃.objs.size = n
      rw [hs₃.1]; show h₂.objs.size = n
      rw [hs₂.1]; show h₁.objs.size = n
      rw [hs₁.1]; exact hz
  · have hi : i = 268 := by omega
    subst hi
    refine range_done hh hit (by omega) fun h₁ ht => ?_
    dsimp only at ht hkn hli hns hz
    refine hR _ ⟨_, _, rfl⟩ (fun a o e => ht.1 _ _ (ne_of_known e hI) (hkn a o e)) ⟨items, ht.1 _ _ (Ne.symm hIL) hli, hst⟩ ⟨m, hns.extBut ht.1 (Ne.symm hIC)⟩ ?_
    show h₁.objs.size = n + 2
    rw [ht.2, hz]
end
end Mine
end
section
open PySem PySem.W PyProof.Rows PySem.Calls
namespace Mine
theorem lookup_look (a : Nat) : ∀ K : Frag, K.lookup a = look a K
  | [] => rfl
  | (b, o) :: r => by
    unfold look
    rw [List.lookup_cons]
    have : (a == b) = Nat.beq a b := by rw [Bool.eq_iff_iff, beq_iff_eq, Nat.beq_eq]
    rw [this]
    cases Nat.beq a b with
    | true => rfl
    | false => exact lookup_look a r
section
variable {w : World} {A : Around} {E : Value → Shared → Prop} {s : Shared} {T n k : Nat} {K : Frag}
theorem At.inn (hA : At T s K n k) : Frag.In K s.heap := fun a o e => hA.has a o ((lookup_look a K).symm.trans e)
/-- a name of the module's, read from the objects that are known -/
theorem top_name {env : Env} {x : Str} {p : Pos} {v : Value} {Q : Value → Shared → Prop} (hA : At T s K n k) (hd : (x == Str.ofString "__debug__") = false) (he : peek K ⟨pg, w.params⟩ (loadName env x) = some v) (h : Q v s) : wpAny (model pg w) A (eval (.Name x p) env) Q E s :=
  wpAny_Name (fun _ _ _ => wp_of_peek hA.inn h _ he) hd
theorem At.grow2 {h' : Heap} {m tk : Nat} (x : At T s K n k) (g : ∀ b o, s.heap.get? b = some o → h'.get? b = some o) (z : h'.objs.size = m) : At tk { s with heap := h', toks := tk } K m 0 := x.grown g z
/-- the names behind statement 2 -/
def names2 (t0 t1 : Nat) : List (Str × Nat × Value) := names0 "cpy313.opcode" t0 ++ [nm "opmap" t1 (Value.ref 15)]
noncomputable def known2 (P : Params) (oD : Obj) (t0 t1 : Nat) : Frag := (15, oD) :: kept P (names2 t0 t1) 10
def pos2 : Pos := match pg.main.body.drop 1 with
  | st :: _ => match st with
    | .Assign _ _ p => p
    | _ => default
  | [] => default
theorem stmt2_ev (P : Params) (oD : Obj) (T t1 : Nat) {st : Stmt} (hst : (pg.main.body.drop 1).head? = some st) :
    ev ⟨pg, P⟩ T (exec st env0) ((15, oD) :: kept P (names0 "__main__" 164 ++ [nm "opmap" t1 (Value.ref 15)]) 10) 24 0 = some (.next, known2 P oD T t1, 24, 2) := by
  have e : st = ((pg.main.body.drop 1).head?).getD (.Pass default) := by rw [hst]; rfl
  rw [e]
  kernel_rfl
theorem read_range (P : Params) (oD : Obj) (t0 t1 : Nat) : peek (known2 P oD t0 t1) ⟨pg, P⟩ (loadName env0 "range") = some (Value.type "range") := by kernel_rfl
theorem read_max (P : Params) (oD : Obj) (t0 t1 : Nat) : peek (known2 P oD t0 t1) ⟨pg, P⟩ (loadName env0 "max") = some (Value.builtin "max") := by kernel_rfl
theorem read_opmap (P : Params) (oD : Obj) (t0 t1 : Nat) : peek (known2 P oD t0 t1) ⟨pg, P⟩ (loadName env0 "opmap") = some (Value.ref 15) := by kernel_rfl
def valAt (r : List (Str × Int)) (i : Nat) : Int := ((r[i]?).map (·.2)).getD 0
theorem vals_of {r : List (Str × Int)} {kvs : List (Str × Value)} (hk : KVs r kvs) (i : Nat) (v : Value) (h : ValP kvs i v) : ∃ t, v = Value.int (valAt r i) t := by
  obtain ⟨x, hx⟩ := h
  have hlt : i < kvs.length := (List.getElem?_eq_some_iff.mp hx).1
  have hlt' : i < r.length := hk.length ▸ hlt
  obtain ⟨t, ht⟩ := hk.get (List.getElem?_eq_getElem hlt')
  rw [hx] at ht
  obtain rfl := (Prod.mk.inj (Option.some.inj ht)).2
  exact ⟨t, by unfold valAt; rw [List.getElem?_eq_getElem hlt']; rfl⟩
theorem values_call {p1 p2 p3 : Pos} {oD : Obj} {kvs : List (Str × Value)} {t0 t1 : Nat} {Q : Value → Shared → Prop} (hA : At T s (known2 w.params oD t0 t1) n k) (hD : DictObj w oD kvs) (hline : (p2.endLine == p3.line) = true)
    (hQ : Q (.ref s.heap.objs.size) { s with heap := s.heap.push { cls := .type "dict_values", data := .fields #[.ref 15] } }) :
    wpAny (model pg w) A (eval (.Call (.Attribute (.Name "opmap" p1) "values" p2) [] [] p3) env0) Q E s := by
  have hm : s.heap.DictOf (strKind pg w) 15 kvs := hD _ _ (hA.has 15 oD rfl)
  refine wpAny_Call_method (T := "dict") (id := "dict.values") (by rfl) rfl hline F.plainAttrs_dict F.slot_dict_values F.type_dict_values (top_name hA (by decide) (read_opmap ..) ⟨hm.typeIs, hm.mapOf.noDict, ?_⟩)
  show wpAny _ _ (callWith p3 (.builtin "dict.values") [.ref 15] [] []) Q E s
  exact method_meetsIn F.slot_dict_values F.entry_dict_values rfl (PySem.evalArgs_none ⟨rfl, hm.typeIs, F.args_dict_values_1 _, _, meets_dict_values (strKind pg w) 15 (by decide), ⟨kvs, hm⟩, hQ⟩)
/-- «range(max(opmap.values()) + 1)» -/
theorem iter_call {p1 p2 p3 p4 p5 p6 p7 p8 p9 : Pos} {oD : Obj} {r : List (Str × Int)} {kvs : List (Str × Value)} {t0 t1 : Nat} {Q : Value → Shared → Prop} (hh : A.handled = none) (hA : At T s (known2 w.params oD t0 t1) 24 k) (hk : KVs r kvs) (hD : DictObj w oD kvs)
    (hn : 0 < r.length) (hmax : valAt r (argBest (fun i j => decide (valAt r i > valAt r j)) (r.length - 1)) = 267) (hline : (p4.endLine == p5.line) = true)
    (hQ : ∀ s' u v, At s'.toks s' (known2 w.params oD t0 t1) 30 0 → Onward s s' → IsRange s'.heap 29 0 268 1 u v (u + 1) → Q (.ref 29) s') :
    wpAny (model pg w) A (eval (.Call (.Name "range" p1) [.BinOp (.Call (.Name "max" p2) [.Call (.Attribute (.Name "opmap" p3) "values" p4) [] [] p5] [] p6) .Add (.Constant (.int 1) 0 p7) p8] [] p9) env0) Q E s := by
  refine wpAny_Call_NameR (top_name hA (by decide) (read_range ..) ?_)
  refine callWith_type1 (wpAny_BinOp (wpAny_Call_NameR (top_name hA (by decide) (read_max ..) (callWith_builtin1 (values_call hA hD hline ?_)))))
  have hl : kvs.length = r.length := hk.length
  have hz := hA.size
  rw [hz]
  have g1 : ∀ b o, s.heap.get? b = some o → (s.heap.push { cls := .type "dict_values", data := .fields #[.ref 15] }).get? b = some o := fun b o e => Heap.get?_push_of_some _ e
  have hview : (s.heap.push { cls := .type "dict_values", data := .fields #[.ref 15] }).get? 24 = some { cls := .type "dict_values", data := .fields #[.ref 15] } := by rw [← hz]; exact Heap.get?_push_size _ rfl
  obtain ⟨ep, hm⟩ := (hD _ _ (g1 _ _ (hA.has 15 oD rfl))).dictAt
  refine max_vals hh _ (CmpOf.ints_gt (valAt r) (vals_of hk)) (hl ▸ hn) ⟨_, hview, rfl, rfl⟩ hm fun x h₁ tk hx hg hs => ?_
  rw [hl] at hx
  obtain ⟨t, rfl⟩ := vals_of hk _ _ hx
  rw [hmax]
  dsimp only at hg hs
  refine wpAny_Constant_int (add_int ?_)
  refine call_range_1 ?_
  dsimp only
  have hs1 : h₁.objs.size = 29 := by rw [hs, Heap.size_push, hz]
  have hA₁ : At (tk + 1 + 1 + 1 + 1) { s with heap := h₁.push { cls := .type "range", data := .fields #[.int 0 (tk + 1 + 1), .int (267 + 1) (tk + 1), .int 1 (tk + 1 + 1 + 1)] }, toks := tk + 1 + 1 + 1 + 1 } (known2 w.params oD t0 t1) 30 0 :=
    hA.grown (fun b o e => Heap.get?_push_of_some _ (hg b o (g1 b o e))) (by rw [Heap.size_push, hs1])
  have hr : (h₁.push { cls := .type "range", data := .fields #[.int 0 (tk + 1 + 1), .int (267 + 1) (tk + 1), .int 1 (tk + 1 + 1 + 1)] }).get? 29 = some { cls := .type "range", data := .fields #[.int 0 (tk + 1 + 1), .int (267 + 1) (tk + 1), .int 1 (tk + 1 + 1 + 1)] } := by rw [← hs1]; exact Heap.get?_push_size _ rfl
  have := hQ _ (tk + 1 + 1) (tk + 1) hA₁ ⟨_, _, rfl⟩ hr
  rw [hs1]
  exact this
end
end Mine
end
section
open PySem PySem.W PyProof.Rows PySem.Calls
namespace Mine
def compScope : Scope := { kind := .function, names := [(Str.ofString ".0", .local), (Str.ofString "op", .local)], isGenerator := false, isCoroutine := false, more := [] }
def marks : List Str := (List.range 268).map elemStr
section
variable {w : World} {A : Around} {E : Value → Shared → Prop} {s : Shared} {T n k : Nat} {K : Frag}
theorem known2_low (P : Params) (oD : Obj) (t0 t1 : Nat) : look 30 (known2 P oD t0 t1) = none ∧ look 31 (known2 P oD t0 t1) = none ∧ look 32 (known2 P oD t0 t1) = none := by
  refine ⟨?_, ?_, ?_⟩ <;> kernel_rfl
theorem store_opname (P : Params) (T t0 t1 : Nat) (oD oL : Obj) : ev ⟨pg, P⟩ T (storeName env0 "opname" (Value.ref 31)) ((31, oL) :: known2 P oD t0 t1) 35 0 = some ((), (31, oL) :: (15, oD) :: kept P (names2 t0 t1 ++ [nm "opname" T (Value.ref 31)]) 11, 35, 1) := by kernel_rfl
theorem stmt3_done {q1 q2 : Pos} {p1 p2 p3 p4 p5 p6 p7 p8 p9 e1 e2 e3 e4 e5 e6 e7 : Pos} {oD : Obj} {r : List (Str × Int)} {kvs : List (Str × Value)} {t0 t1 : Nat} {Q : Flow → Shared → Prop} (hh : A.handled = none) (hA : At T s (known2 w.params oD t0 t1) 24 k) (hk : KVs r kvs) (hD : DictObj w oD kvs)
    (hn : 0 < r.length) (hmax : valAt r (argBest (fun i j => decide (valAt r i > valAt r j)) (r.length - 1)) = 267) (hline : (p4.endLine == p5.line) = true)
    (hQ : ∀ s' items t, items.toList.map strOf = marks.map some → At s'.toks s' ((31, listOf items 268) :: (15, oD) :: kept w.params (names2 t0 t1 ++ [nm "opname" t (Value.ref 31)]) 11) 35 0 → Onward s s' → Q .next s') :
    wpAny (model pg w) A (exec (.Assign [.Name "opname" q1] (.ListComp (.JoinedStr [.Constant (.str "<") 0 e1, .FormattedValue (.Name "op" e2) 114 none e3, .Constant (.str ">") 0 e4] e5)
      [⟨.Name "op" e6, .Call (.Name "range" p1) [.BinOp (.Call (.Name "max" p2) [.Call (.Attribute (.Name "opmap" p3) "values" p4) [] [] p5] [] p6) .Add (.Constant (.int 1) 0 p7) p8] [] p9, [], 0⟩] compScope e7) q2) env0) Q E s := by
  refine wpAny_Assign_Name ?_ (by rfl)
  refine wpAny_ListComp (by decide) rfl (by decide) ?_
  refine iter_call hh hA hk hD hn hmax hline fun s₁ u v hA₁ ho₁ hr => ?_
  obtain ⟨h₁, tk₁, rfl⟩ := ho₁
  dsimp only at hA₁ hr
  have z1 : h₁.objs.size = 30 := hA₁.size
  refine wpAny_pyIter_range hr (by decide) ?_
  have hsz : Builtin.Range.rangeSize 0 268 1 = 268 := by decide
  rw [hsz]
  refine wpAny_newObj_type ?_
  dsimp only
  generalize hH1 : h₁.push { cls := .type "range_iterator", data := .fields #[rawInt 0, rawInt 268, rawInt 1] } = H1
  have z2 : H1.objs.size = 31 := by rw [← hH1, Heap.size_push, z1]
  generalize hH2 : H1.push { cls := .type "list", data := .seq ([] : List Value).toArray } = H2
  have z3 : H2.objs.size = 32 := by rw [← hH2, Heap.size_push, z2]
  rw [z1, z2]
  refine wpAny_newFunctionEnv (by decide) (by intro y hy; cases hy) (fun H3 hn3 hs3 => ?_) rfl
  dsimp only at hn3 hs3 ⊢
  rw [z3] at hn3 hs3 ⊢
  have g1 : ∀ b o, h₁.get? b = some o → H1.get? b = some o := fun b o e => by rw [← hH1]; exact Heap.get?_push_of_some _ e
  have g2 : ∀ b o, H1.get? b = some o → H2.get? b = some o := fun b o e => by rw [← hH2]; exact Heap.get?_push_of_some _ e
  have g3 : ∀ b o, b ≠ 32 → H2.get? b = some o → H3.get? b = some o := fun b o hb e => hs3.extBut b o hb (Heap.get?_push_of_some _ e)
  have z4 : H3.objs.size = 33 := by rw [hs3.1, Heap.size_push, z3]
  obtain ⟨l30, l31, l32⟩ := known2_low w.params oD t0 t1
  have hI : IsRangeIter H3 30 0 268 1 := g3 _ _ (by decide) (g2 _ _ (by rw [← hH1, ← z1]; exact Heap.get?_push_size _ rfl))
  have hL : H3.get? 31 = some (listOf #[] 0) := g3 _ _ (by decide) (by rw [← hH2, ← z2]; exact Heap.get?_push_size _ rfl)
  have loop : ∀ s₃ : Shared, s₃ = { s with heap := H3, toks := tk₁ + 0 } → codeAny (model pg w) A (.compLoop (.ListComp (.JoinedStr [.Constant (.str "<") 0 e1, .FormattedValue (.Name "op" e2) 114 none e3, .Constant (.str ">") 0 e4] e5)
      [⟨.Name "op" e6, .Call (.Name "range" p1) [.BinOp (.Call (.Name "max" p2) [.Call (.Attribute (.Name "opmap" p3) "values" p4) [] [] p5] [] p6) .Add (.Constant (.int 1) 0 p7) p8] [] p9, [], 0⟩] compScope e7) 0 (.ref 30) (.ref 31)
        { newEnv compScope 32 env0.globals [] env0.qual none .none (some env0) builtinsNs with scope := compScope })
      (fun r s' => ∃ m, s'.heap.Ns 32 m ∧ ∀ h', Heap.SameBut 32 s'.heap h' → match r with
        | .ok _ => wpAny (model pg w) A (storeName env0 "opname" (Value.ref 31)) (fun _ => Q .next) E { s' with heap := h' }
        | .error x => wpAny (model pg w) A (passOn "comprehension.variables-let-go" x { newEnv compScope 32 env0.globals [] env0.qual none .none (some env0) builtinsNs with scope := compScope }) (fun v s₁ => wpAny (model pg w) A (storeName env0 "opname" v) (fun _ => Q .next) E s₁) E { s' with heap := h' }) s₃ := by
    rintro s₃ rfl
    refine comp_loop (K := known2 w.params oD t0 t1) (n := 33) (C := 32) hh rfl rfl (by decide) (by decide) (by decide) (by decide) (by decide) l30 l31 l32 ?_ ?_
    · refine ⟨⟨_, _, rfl⟩, by omega, fun a o e => g3 _ _ (ne_of_known e l32) (g2 _ _ (g1 _ _ (hA₁.has a o e))), ?_, ⟨#[], hL, rfl⟩, ⟨_, hn3⟩, z4⟩
      exact hI
    · rintro s' ⟨h', tk', rfl⟩ hkn ⟨items, hli, hst⟩ ⟨m, hm⟩ hz
      dsimp only at hkn hli hm hz
      refine ⟨m, hm, fun h'' hs'' => ?_⟩
      dsimp only at hs'' ⊢
      have hA' : At tk' { s with heap := h'', toks := tk' } ((31, listOf items 268) :: known2 w.params oD t0 t1) 35 0 :=
        At.more ⟨fun a o e => hs''.extBut _ _ (ne_of_known e l32) (hkn a o e), hs''.1.trans hz, rfl⟩ (hs''.extBut _ _ (by decide) hli)
      exact wpAny_ev hA' (store_opname w.params tk' t0 t1 oD (listOf items 268)) fun s₅ hA₅ hG => hQ s₅ items tk' hst hA₅.base (Onward.trans ⟨_, _, rfl⟩ hG.onward)
  refine codeAny_compStart_list (loop _ rfl) ?_
  refine (Walks.range (prog := pg) (w := w) hh 30 0 1 268).self 0 _ _ _ ?_ (loop _ rfl)
  exact hI
end
end Mine
end
section
open PySem PySem.W PyProof.Rows PySem.Calls
namespace Mine
section
variable {w : World} {A : Around} {E : Value → Shared → Prop} {s : Shared} {T n k : Nat} {K : Frag}
/-- an item of a list set, the object told -/
theorem set_item {prog : Program} {l : Addr} {items : Array Value} {n : Nat} {k : Int} {t : Tok} {v : Value} {Q : Unit → Shared → Prop} (ho : s.heap.get? l = some (listOf items n))
    (h0 : 0 ≤ k) (hfit : k < 2 ^ 63) (hn : k < items.size)
    (hQ : ∀ h', h'.get? l = some (listOf (items.setIfInBounds k.toNat v) n) → Heap.SameBut l s.heap h' → Q () { s with heap := h' }) :
    wpAny (model prog w) A (setItem (.ref l) (.int k t) v) Q E s := by
  have hl : s.heap.IsList l items := ⟨_, ho, rfl, n, rfl⟩
  unfold setItem
  try with_reducible refine wpAny_holding ?_
  first | refine wpAny_bind (wpAny_pure ?_) | skip
  refine wpAny_bind (wpAny_sequenceKey hl.typeIs (by decide) ?_)
  refine wpAny_bind (wpAny_callSpecial?_slot (name := Str.ofString "__setitem__") hl.typeIs slot_list_setitem
    (wpAny_call_entry slot_list_setitem hl.typeIs entry_list_setitem ?_ (args_list_setitem _ _ _)))
  show wpAny _ _ (Builtin.List.listSubscript? (.int k t) >>= _) _ _ s
  refine wpAny_bind (wpAny_listSubscript_int (fitsIndex_of h0 hfit) ?_)
  clear hfit
  obtain ⟨j, rfl⟩ := Int.eq_ofNat_of_zero_le h0
  have hj : j < items.size := by omega
  have hx' : items[j]? = some items[j] := Array.getElem?_eq_getElem hj
  show wpAny _ _ ((seqItemAt l j >>= fun r => pure (r.map (j, ·))) >>= _) _ _ s
  refine wpAny_bind (wpAny_bind (wpAny_seqItemAt ho rfl (wpAny_pure ?_)))
  rw [hx']
  show wpAny _ _ (setSeqItemAt l j v >>= _) _ _ s
  have hfin : (s.heap.update l (Obj.mapSeq (·.setIfInBounds j v))).get? l = some (listOf (items.setIfInBounds j v) n) := by
    rw [Heap.get?_update_self _ ho rfl]
    simp [Obj.mapSeq]
  refine wpAny_bind (wpAny_setSeqItemAt ho rfl ?_)
  first
    | exact wpAny_bind (wpAny_pure (wpAny_pure ⟨.none, rfl, wpAny_pure (hQ _ hfin (Heap.SameBut.update ..))⟩))
    | exact wpAny_pure ⟨.none, rfl, wpAny_pure (hQ _ hfin (Heap.SameBut.update ..))⟩
def names3 (t0 t1 t2 : Nat) : List (Str × Nat × Value) := names2 t0 t1 ++ [nm "opname" t2 (Value.ref 31)]
def names4 (t0 t1 t2 ta tb : Nat) (a b : Value) : List (Str × Nat × Value) := names3 t0 t1 t2 ++ [nm "op" ta a, nm "i" tb b]
theorem store_op0 (P : Params) (T t0 t1 t2 n : Nat) (v : Value) : ev ⟨pg, P⟩ T (storeName env0 "op" v) [(3, mainOf P (names3 t0 t1 t2) 11)] n 0 = some ((), [(3, mainOf P (names3 t0 t1 t2 ++ [nm "op" T v]) 12)], n, 1) := by kernel_rfl
theorem store_i0 (P : Params) (T t0 t1 t2 n ta : Nat) (a v : Value) : ev ⟨pg, P⟩ T (storeName env0 "i" v) [(3, mainOf P (names3 t0 t1 t2 ++ [nm "op" ta a]) 12)] n 0 = some ((), [(3, mainOf P (names4 t0 t1 t2 ta T a v) 13)], n, 1) := by kernel_rfl
theorem store_op1 (P : Params) (T t0 t1 t2 n ta tb : Nat) (a b v : Value) : ev ⟨pg, P⟩ T (storeName env0 "op" v) [(3, mainOf P (names4 t0 t1 t2 ta tb a b) 13)] n 0 = some ((), [(3, mainOf P (names4 t0 t1 t2 ta tb v b) 13)], n, 1) := by kernel_rfl
theorem store_i1 (P : Params) (T t0 t1 t2 n ta tb : Nat) (a b v : Value) : ev ⟨pg, P⟩ T (storeName env0 "i" v) [(3, mainOf P (names4 t0 t1 t2 ta tb a b) 13)] n 0 = some ((), [(3, mainOf P (names4 t0 t1 t2 ta tb a v) 13)], n, 1) := by kernel_rfl
theorem read_op (P : Params) (t0 t1 t2 ta tb : Nat) (a b : Value) : peek [(3, mainOf P (names4 t0 t1 t2 ta tb a b) 13)] ⟨pg, P⟩ (loadName env0 "op") = some a := by kernel_rfl
theorem read_i (P : Params) (t0 t1 t2 ta tb : Nat) (a b : Value) : peek [(3, mainOf P (names4 t0 t1 t2 ta tb a b) 13)] ⟨pg, P⟩ (loadName env0 "i") = some b := by kernel_rfl
theorem read_opname (P : Params) (t0 t1 t2 ta tb : Nat) (a b : Value) : peek [(3, mainOf P (names4 t0 t1 t2 ta tb a b) 13)] ⟨pg, P⟩ (loadName env0 "opname") = some (Value.ref 31) := by kernel_rfl
theorem read_opmap3 (P : Params) (t0 t1 t2 : Nat) : peek [(3, mainOf P (names3 t0 t1 t2) 11)] ⟨pg, P⟩ (loadName env0 "opmap") = some (Value.ref 15) := by kernel_rfl
/-- the module's names, ahead of the loop's first turn and behind any -/
def MainIs (P : Params) (t0 t1 t2 : Nat) (h : Heap) (x : Option (Str × Int)) : Prop := match x with
  | none => h.get? 3 = some (mainOf P (names3 t0 t1 t2) 11)
  | some x => ∃ ta tb u v, h.get? 3 = some (mainOf P (names4 t0 t1 t2 ta tb (Value.str x.1 u) (Value.int x.2 v)) 13)
theorem at_main {o : Obj} (h : s.heap.get? 3 = some o) : At s.toks s [(3, o)] s.heap.objs.size 0 := by
  refine ⟨fun a o' e => ?_, rfl, rfl⟩
  unfold look at e
  cases hb : Nat.beq a 3 with
  | true => rw [hb] at e; obtain rfl := Option.some.inj e; rw [Nat.eq_of_beq_eq_true hb]; exact h
  | false => rw [hb] at e; cases e
theorem main_look {o : Obj} {b : Addr} (hb : b ≠ 3) : look b [(3, o)] = none := by
  unfold look
  have : Nat.beq b 3 = false := by cases e : Nat.beq b 3 with
    | false => rfl
    | true => exact absurd (Nat.eq_of_beq_eq_true e) hb
  rw [this]; rfl
theorem At.main {o : Obj} (x : At T s [(3, o)] n k) : s.heap.get? 3 = some o := x.has 3 o rfl
/-- the loop's two names stored -/
theorem store_two {p1 p2 : Pos} {t0 t1 t2 : Nat} {y : Option (Str × Int)} {x : Str} {u : Tok} {z : Int} {v : Tok} {Q : Unit → Shared → Prop} (hm : MainIs w.params t0 t1 t2 s.heap y)
    (hQ : ∀ h' tk, MainIs w.params t0 t1 t2 h' (some (x, z)) → (∀ b o, b ≠ 3 → s.heap.get? b = some o → h'.get? b = some o) → h'.objs.size = s.heap.objs.size → Q () { s with heap := h', toks := tk }) :
    wpAny (model pg w) A (assignInOrder [assign (.Name "op" p1) env0, assign (.Name "i" p2) env0] [Value.str x u, Value.int z v]) Q E s := by
  have fin : ∀ (s₁ s₂ : Shared) o₁ o₂ (K₁ : Goes [(3, o₁)] s s₁) (A₁ : At s.toks s₁ [(3, o₂)] s.heap.objs.size 1) ta tb (_ : o₂ = o₂) n₂ o₃ (A₂ : At s₁.toks s₂ [(3, mainOf w.params (names4 t0 t1 t2 ta tb (Value.str x u) (Value.int z v)) 13)] n₂ 1) (K₂ : Goes [(3, o₃)] s₁ s₂) (_ : n₂ = s.heap.objs.size), Q () s₂ := by
    rintro s₁ s₂ o₁ o₂ ⟨⟨h₁, k₁, rfl⟩, g₁⟩ A₁ ta tb - n₂ o₃ A₂ ⟨⟨h₂, k₂, rfl⟩, g₂⟩ rfl
    exact hQ h₂ k₂ ⟨ta, tb, u, v, A₂.main⟩ (fun b o hb e => g₂ b o (main_look hb) (g₁ b o (main_look hb) e)) A₂.size
  cases y with
  | none =>
    have hm' : s.heap.get? 3 = some (mainOf w.params (names3 t0 t1 t2) 11) := hm
    refine assignInOrder_cons (wpAny_assign_Name (wpAny_ev (at_main hm') (store_op0 ..) fun s₁ A₁ G₁ => assignInOrder_cons (wpAny_assign_Name (wpAny_ev A₁.base (store_i0 ..) fun s₂ A₂ G₂ => assignInOrder_nil ?_))))
    exact fin s₁ s₂ _ _ G₁ A₁ _ _ rfl _ _ A₂ G₂ rfl
  | some y =>
    obtain ⟨ta, tb, u', v', hm'⟩ := hm
    refine assignInOrder_cons (wpAny_assign_Name (wpAny_ev (at_main hm') (store_op1 ..) fun s₁ A₁ G₁ => assignInOrder_cons (wpAny_assign_Name (wpAny_ev A₁.base (store_i1 ..) fun s₂ A₂ G₂ => assignInOrder_nil ?_))))
    exact fin s₁ s₂ _ _ G₁ A₁ _ _ rfl _ _ A₂ G₂ rfl
end
end Mine
end
section
open PySem PySem.W PyProof.Rows PySem.Calls
namespace Mine
def setAll (L : List Str) (r : List (Str × Int)) : List Str := r.foldl (fun L x => L.set x.2.toNat x.1) L
theorem setAll_snoc (L : List Str) (r : List (Str × Int)) (x : Str × Int) : setAll L (r ++ [x]) = (setAll L r).set x.2.toNat x.1 := by
  unfold setAll; rw [List.foldl_append]; rfl
theorem setAll_length (L : List Str) : ∀ r : List (Str × Int), (setAll L r).length = L.length := by
  intro r
  induction r generalizing L with
  | nil => rfl
  | cons x r ih => show (setAll (L.set x.2.toNat x.1) r).length = _; rw [ih]; simp
section
variable {w : World} {A : Around} {E : Value → Shared → Prop} {s : Shared} {T n k : Nat} {K : Frag}
/-- where the loop stands -/
structure ForI (w : World) (s₀ : Shared) (Kx : Frag) (r : List (Str × Int)) (kvs : List (Str × Value)) (ep : Nat) (t0 t1 t2 : Nat) (L0 : List Str) (I d : Addr) (n i : Nat) (s' : Shared) : Prop where
  eq : Onward s₀ s'
  le : i ≤ r.length
  known : ∀ a o, look a Kx = some o → s'.heap.get? a = some o
  dict : s'.heap.DictAt (PySem.strKind pg w) d kvs ep
  iter : ∃ ok ov, IsItemIter s'.heap I d i kvs.length ep ok ov
  main : MainIs w.params t0 t1 t2 s'.heap (if i = 0 then none else r[i - 1]?)
  list : ∃ items : Array Value, s'.heap.get? 31 = some (listOf items 268) ∧ items.toList.map strOf = (setAll L0 (r.take i)).map some
  size : s'.heap.objs.size = n + 4 * i
theorem for_loop {Kx : Frag} {r : List (Str × Int)} {kvs : List (Str × Value)} {ep t0 t1 t2 : Nat} {L0 : List Str} {I d : Addr} {n : Nat} {p1 p2 p3 p4 p5 p6 p7 p8 : Pos} {c : Nat} {R : Result → Shared → Prop} (hh : A.handled = none) (hk : KVs r kvs)
    (hfit : ∀ x ∈ r, 0 ≤ x.2 ∧ x.2 < 268) (hL0 : L0.length = 268) (hI3 : I ≠ 3) (hI31 : I ≠ 31) (hd3 : d ≠ 3) (hd31 : d ≠ 31) (hdI : d ≠ I) (hIn : I < n) (hKI : look I Kx = none) (hK3 : look 3 Kx = none) (hK31 : look 31 Kx = none)
    (hne : r ≠ []) (h0 : ForI w s Kx r kvs ep t0 t1 t2 L0 I d n 0 s)
    (hR : ∀ s' x, r.getLast? = some x → Onward s s' → (∀ a o, look a Kx = some o → s'.heap.get? a = some o) → MainIs w.params t0 t1 t2 s'.heap (some x) → (∃ items : Array Value, s'.heap.get? 31 = some (listOf items 268) ∧ items.toList.map strOf = (setAll L0 r).map some) →
      s'.heap.objs.size = n + 4 * r.length + 2 → R (.ok .next) s') :
    codeAny (model pg w) A (.forLoop (.Tuple [.Name "op" p1, .Name "i" p2] c p3) (.ref I) [.Assign [.Subscript (.Name "opname" p4) (.Name "i" p5) p6] (.Name "op" p7) p8] [] env0) R s := by
  refine codeAny_forLoop_any (fun m s' => ∃ i, m = r.length + 1 - i ∧ ForI w s Kx r kvs ep t0 t1 t2 L0 I d n i s') ?_ (r.length + 1) ⟨0, rfl, h0⟩
  rintro m s' ⟨i, rfl, ⟨h', tk, rfl⟩, hle, hkn, hd, ⟨ok, ov, hit⟩, hmain, ⟨items, hli, hst⟩, hz⟩
  dsimp only at hkn hd hmain hli hz
  by_cases hlt : i < r.length
  · obtain ⟨t, ht⟩ := hk.get (List.getElem?_eq_getElem hlt)
    generalize hx : r[i]'hlt = x at ht
    have hrx : r[i]? = some x := by rw [List.getElem?_eq_getElem hlt, hx]
    have hxf := hfit x (hx ▸ List.getElem_mem hlt)
    refine wpAny_pyNext_items_item hit hd ht fun key h₁ hkey hit₁ hT hz₁ hk₁ => ?_
    obtain ⟨u, rfl⟩ := Value.isStrOf_shape hkey
    dsimp only at hit₁ hT hz₁ hk₁
    refine wpAny_letOwnedTupleGo_items hit₁ fun h₂ hit₂ hs₂ => ?_
    dsimp only at hs₂
    have hsz : h'.objs.size = n + 4 * i := hz
    have hIlt : I < h'.objs.size := by rw [hsz]; exact Nat.lt_of_lt_of_le hIn (Nat.le_add_right _ _)
    have hTI : h'.objs.size ≠ I := Nat.ne_of_gt hIlt
    have hT₂ : h₂.get? h'.objs.size = some { cls := .type "tuple", data := .seq #[Value.str x.1 u, Value.int x.2 t] } := hs₂.extBut _ _ hTI hT
    have k₂ : ∀ b o, b ≠ I → h'.get? b = some o → h₂.get? b = some o := fun b o hb e => hs₂.extBut b o hb (hk₁ b o hb e)
    have z₂ : h₂.objs.size = h'.objs.size + 1 := by rw [hs₂.1]; exact hz₁
    rw [arm_assign_Tuple]
    refine wpAny_bind (wpAny_standAt (unpack_done hh ⟨_, hT₂, rfl, _, rfl⟩ (by rfl) (by rfl) fun h₃ he₃ z₃ => ?_))
    dsimp only at he₃ z₃
    have k₃ : ∀ b o, b ≠ I → h'.get? b = some o → h₃.get? b = some o := fun b o hb e => he₃ b o (Nat.ne_of_lt (Heap.lt_size (k₂ b o hb e))) (k₂ b o hb e)
    have hm₃ : MainIs w.params t0 t1 t2 h₃ (if i = 0 then none else r[i - 1]?) := by
      revert hmain
      generalize (if i = 0 then none else r[i - 1]?) = y
      cases y with
      | none => exact fun hm => k₃ _ _ (Ne.symm hI3) hm
      | some y => exact fun ⟨ta, tb, u', v', hm⟩ => ⟨ta, tb, u', v', k₃ _ _ (Ne.symm hI3) hm⟩
    show wpAny _ _ (assignInOrder [assign (.Name "op" p1) env0, assign (.Name "i" p2) env0] [Value.str x.1 u, Value.int x.2 t]) _ _ _
    refine store_two hm₃ fun h₄ tk₄ hm₄ k₄ z₄ => ?_
    dsimp only at hm₄ k₄ z₄ ⊢
    obtain ⟨ta, tb, u', v', hmo⟩ := hm₄
    have hA₄ : At tk₄ { s with heap := h₄, toks := tk₄ } [(3, mainOf w.params (names4 t0 t1 t2 ta tb (Value.str x.1 u') (Value.int x.2 v')) 13)] h₄.objs.size 0 := at_main (s := { s with heap := h₄, toks := tk₄ }) hmo
    have hli₄ : h₄.get? 31 = some (listOf items 268) := k₄ _ _ (by decide) (k₃ _ _ (Ne.symm hI31) hli)
    have hlen : items.size = 268 := by
      have := congrArg List.length hst
      rw [List.length_map, List.length_map, setAll_length, hL0] at this
      simpa using this
    refine wpAny_execs_cons (wpAny_Assign_Subscript (top_name hA₄ (by decide) (read_op ..) (top_name hA₄ (by decide) (read_opname ..) (top_name hA₄ (by decide) (read_i ..) (set_item hli₄ hxf.1 (by omega) (by omega) fun h₅ hl₅ hs₅ => wpAny_execs_nil ?_)))) (by rfl))
    dsimp only at hs₅ ⊢
    have k₅ : ∀ b o, b ≠ I → b ≠ 3 → b ≠ 31 → h'.get? b = some o → h₅.get? b = some o := fun b o hI h3 h31 e => hs₅.extBut b o h31 (k₄ b o h3 (k₃ b o hI e))
    refine ⟨r.length + 1 - (i + 1), by omega, i + 1, rfl, ⟨_, _, rfl⟩, hlt, fun a o e => k₅ a o (ne_of_known e hKI) (ne_of_known e hK3) (ne_of_known e hK31) (hkn a o e), hd.at fun o e => k₅ d o hdI hd3 hd31 e, ⟨Value.str x.1 u, Value.int x.2 t, ?_⟩, ?_, ⟨_, hl₅, ?_⟩, ?_⟩
    · exact hs₅.extBut _ _ hI31 (k₄ _ _ hI3 (he₃ _ _ (by show I ≠ h₂.objs.size; rw [z₂]; exact Nat.ne_of_lt (Nat.lt_succ_of_lt hIlt)) hit₂))
    · rw [if_neg (Nat.succ_ne_zero i), Nat.add_sub_cancel, hrx]
      exact ⟨ta, tb, u', v', hs₅.extBut _ _ (by decide) hmo⟩
    · have e1 : r.take (i + 1) = r.take i ++ [x] := by rw [List.take_add_one, hrx]; rfl
      rw [e1, setAll_snoc, Array.toList_setIfInBounds, List.map_set, List.map_set, hst]
      rfl
    · show h₅.objs.size = n + 4 * (i + 1)
      rw [hs₅.1]
      show h₄.objs.size = _
      rw [z₄]
      show h₃.objs.size = _
      rw [z₃]
      show h₂.objs.size + 3 = _
      rw [z₂, hsz]; omega
  · have hi : i = r.length := by omega
    subst hi
    refine items_done hh hit hd (by simp [hk.length]) fun h₁ ht => ?_
    dsimp only at ht
    refine wpAny_execs_nil ?_
    have hlast : r.getLast? = some (r.getLast hne) := List.getLast?_eq_some_getLast hne
    have hr0 : r.length ≠ 0 := fun e => hne (List.length_eq_zero_iff.mp e)
    rw [if_neg hr0] at hmain
    have hl : r[r.length - 1]? = some (r.getLast hne) := by rw [← hlast, List.getLast?_eq_getElem?]
    rw [hl] at hmain
    obtain ⟨ta, tb, u', v', hmo⟩ := hmain
    refine hR _ (r.getLast hne) hlast ⟨_, _, rfl⟩ (fun a o e => ht.1 a o (ne_of_known e hKI) (hkn a o e)) ⟨ta, tb, u', v', ht.1 _ _ (Ne.symm hI3) hmo⟩ ⟨items, ht.1 _ _ (Ne.symm hI31) hli, by rw [hst, List.take_length]⟩ ?_
    show h₁.objs.size = _
    rw [ht.2, hz]
end
end Mine
end
section
open PySem PySem.W PyProof.Rows PySem.Calls
namespace Mine
def form3 (q1 q2 p1 p2 p3 p4 p5 p6 p7 p8 p9 e1 e2 e3 e4 e5 e6 e7 : Pos) : Stmt := .Assign [.Name "opname" q1] (.ListComp (.JoinedStr [.Constant (.str "<") 0 e1, .FormattedValue (.Name "op" e2) 114 none e3, .Constant (.str ">") 0 e4] e5)
      [⟨.Name "op" e6, .Call (.Name "range" p1) [.BinOp (.Call (.Name "max" p2) [.Call (.Attribute (.Name "opmap" p3) "values" p4) [] [] p5] [] p6) .Add (.Constant (.int 1) 0 p7) p8] [] p9, [], 0⟩] compScope e7) q2
def form4 (p1 p2 p3 p4 p5 p6 p7 p8 a1 a2 a3 a4 : Pos) (c : Nat) : Stmt := .For (.Tuple [.Name "op" p1, .Name "i" p2] c p3) (.Call (.Attribute (.Name "opmap" a1) "items" a2) [] [] a3) [.Assign [.Subscript (.Name "opname" p4) (.Name "i" p5) p6] (.Name "op" p7) p8] [] a4
theorem is_form3 : ∃ q1 q2 p1 p2 p3 p4 p5 p6 p7 p8 p9 e1 e2 e3 e4 e5 e6 e7, (pg.main.body.drop 2).head? = some (form3 q1 q2 p1 p2 p3 p4 p5 p6 p7 p8 p9 e1 e2 e3 e4 e5 e6 e7) ∧ (p4.endLine == p5.line) = true := ⟨_, _, _, _, _, _, _, _, _, _, _, _, _, _, _, _, _, _, rfl, rfl⟩
theorem is_form4 : ∃ p1 p2 p3 p4 p5 p6 p7 p8 a1 a2 a3 a4 c, (pg.main.body.drop 3).head? = some (form4 p1 p2 p3 p4 p5 p6 p7 p8 a1 a2 a3 a4 c) ∧ (a2.endLine == a3.line) = true := ⟨_, _, _, _, _, _, _, _, _, _, _, _, _, rfl, rfl⟩
theorem uncons {α : Type} {l : List α} {x : α} (h : l.head? = some x) : l = x :: l.drop 1 := by
  cases l with
  | nil => cases h
  | cons y l => obtain rfl := Option.some.inj h; rfl
theorem body_split {s2 s3 s4 : Stmt} (h2 : (pg.main.body.drop 1).head? = some s2) (h3 : (pg.main.body.drop 2).head? = some s3) (h4 : (pg.main.body.drop 3).head? = some s4) :
    pg.main.body = .Assign [.Name "opmap" ⟨1, 0, 1, 5⟩] dictE ⟨1, 0, 1, 3319⟩ :: s2 :: s3 :: s4 :: pg.main.body.drop 4 := by
  have a2 := uncons h2
  have a3 := uncons h3
  have a4 := uncons h4
  rw [List.drop_drop] at a2 a3 a4
  exact body1.trans (congrArg _ (a2.trans (congrArg _ (a3.trans (congrArg _ a4)))))
theorem pairs_fit : ∀ x ∈ pairs, 0 ≤ x.2 ∧ x.2 < 268 := by
  have h : (pairs.all fun x => decide (0 ≤ x.2) && decide (x.2 < 268)) = true := by decide +kernel
  intro x hx
  have := List.all_eq_true.mp h x hx
  simpa using this
theorem pairs_max : valAt pairs (argBest (fun i j => decide (valAt pairs i > valAt pairs j)) (pairs.length - 1)) = 267 := by decide +kernel
theorem pairs_last : pairs.getLast? = some (Str.ofString "STORE_FAST_MAYBE_NULL", 267) := by decide +kernel
theorem marks_len : marks.length = 268 := by unfold marks; simp
noncomputable def under (P : Params) (oD : Obj) : Frag := (15, oD) :: [(14, code14 164), (13, code13 181), (12, code12), (11, code11)] ++ rest0 P
noncomputable def known4' (P : Params) (t0 t1 t2 ta tb u v : Nat) (oD oL : Obj) : Frag := (3, mainOf P (names4 t0 t1 t2 ta tb (Value.str "STORE_FAST_MAYBE_NULL" u) (Value.int 267 v)) 13) :: (31, oL) :: under P oD
noncomputable def ended (P : Params) (t0 t1 t2 ta tb u v T : Nat) (oD oL : Obj) : Frag := match ev ⟨pg, P⟩ T (execs (pg.main.body.drop 4) env0) (known4' P t0 t1 t2 ta tb u v oD oL) 639 0 with
  | some (_, K, _, _) => K
  | none => []
theorem rest_ev (P : Params) (t0 t1 t2 ta tb u v T : Nat) (oD oL : Obj) : ev ⟨pg, P⟩ T (execs (pg.main.body.drop 4) env0) (known4' P t0 t1 t2 ta tb u v oD oL) 639 0 = some (.next, ended P t0 t1 t2 ta tb u v T oD oL, 679, 59) := by kernel_rfl
end Mine
end
section
open PySem PySem.W PyProof.Rows PySem.Calls
namespace Mine
section
variable {w : World} {A : Around} {E : Value → Shared → Prop} {s : Shared} {T n k : Nat} {K : Frag}
theorem under_low (P : Params) (oD : Obj) : look 36 (under P oD) = none ∧ look 3 (under P oD) = none ∧ look 31 (under P oD) = none := by
  refine ⟨?_, ?_, ?_⟩ <;> kernel_rfl
theorem look_mid {K : Frag} {a : Addr} {o : Obj} {b : Addr} {x : Obj} (pre : Frag) (h : look b (pre ++ K) = some x) (hb : look b pre = none) : look b (pre ++ (a, o) :: K) = if b = a then some o else some x := by
  induction pre with
  | nil =>
    rw [List.nil_append] at h ⊢
    unfold look
    cases e : Nat.beq b a with
    | true => have := Nat.eq_of_beq_eq_true e; subst this; simp
    | false => have := Nat.ne_of_beq_eq_false e; simp [this, h]
  | cons p pre ih =>
    obtain ⟨c, o'⟩ := p
    rw [List.cons_append] at h ⊢
    unfold look at h hb ⊢
    cases e : Nat.beq b c with
    | true => rw [e] at hb; cases hb
    | false => rw [e] at h hb; exact ih h hb
/-- what is known beside the module's names -/
theorem under_of {P : Params} {oD : Obj} {l : List (Str × Nat × Value)} {m : Nat} {h : Heap} (hK : ∀ a o, look a ((15, oD) :: kept P l m) = some o → h.get? a = some o) : ∀ a o, look a (under P oD) = some o → h.get? a = some o := by
  intro a o e
  have h3 : a ≠ 3 := by
    intro q; subst q
    rw [(under_low P oD).2.1] at e; cases e
  refine hK a o ?_
  have hk : ((15, oD) :: kept P l m) = [(15, oD), (14, code14 164), (13, code13 181), (12, code12), (11, code11)] ++ (3, mainOf P l m) :: rest0 P := rfl
  have hu : under P oD = [(15, oD), (14, code14 164), (13, code13 181), (12, code12), (11, code11)] ++ rest0 P := rfl
  rw [hu] at e
  rw [hk]
  cases hp : look a [(15, oD), (14, code14 164), (13, code13 181), (12, code12), (11, code11)] with
  | none => rw [look_mid _ e hp, if_neg h3]
  | some x =>
    have app : ∀ (pre K K' : Frag), look a pre = some x → look a (pre ++ K) = look a (pre ++ K') := by
      intro pre
      induction pre with
      | nil => intro K K' h; cases h
      | cons p pre ih =>
        obtain ⟨c, o'⟩ := p
        intro K K' h
        rw [List.cons_append, List.cons_append]
        unfold look at h ⊢
        cases e : Nat.beq a c with
        | true => rfl
        | false => rw [e] at h; exact ih K K' h
    rw [app _ _ (rest0 P) hp]; exact e
theorem stmt4_done {p1 p2 p3 p4 p5 p6 p7 p8 a1 a2 a3 a4 : Pos} {c : Nat} {oD : Obj} {items : Array Value} {r : List (Str × Int)} {kvs : List (Str × Value)} {t0 t1 t2 : Nat} {Q : Flow → Shared → Prop} (hh : A.handled = none)
    (hA : At T s ((31, listOf items 268) :: (15, oD) :: kept w.params (names2 t0 t1 ++ [nm "opname" t2 (Value.ref 31)]) 11) 35 k) (hi : items.toList.map strOf = marks.map some) (hk : KVs r kvs) (hD : DictObj w oD kvs)
    (hfit : ∀ x ∈ r, 0 ≤ x.2 ∧ x.2 < 268) (hr : r.length = 150) (hlast : r.getLast? = some (Str.ofString "STORE_FAST_MAYBE_NULL", 267)) (hline : (a2.endLine == a3.line) = true)
    (hQ : ∀ s' items ta tb u v, items.toList.map strOf = (setAll marks r).map some → At s'.toks s' (known4' w.params t0 t1 t2 ta tb u v oD (listOf items 268)) 639 0 → Onward s s' → Q .next s') :
    wpAny (model pg w) A (exec (form4 p1 p2 p3 p4 p5 p6 p7 p8 a1 a2 a3 a4 c) env0) Q E s := by
  have hne : r ≠ [] := by intro q; rw [q] at hr; cases hr
  have hm : s.heap.DictOf (PySem.strKind pg w) 15 kvs := hD _ _ (hA.has 15 oD rfl)
  have hmain : s.heap.get? 3 = some (mainOf w.params (names3 t0 t1 t2) 11) := hA.has 3 _ rfl
  have hz := hA.size
  unfold form4
  refine wpAny_For (wpAny_Call_items (knd := PySem.strKind pg w) (d := 15) (kvs := kvs) (by decide) hm (by rfl) hline (fun Q' hq => top_name (at_main hmain) (by decide) (read_opmap3 ..) hq) ?_) (by intro x; rfl)
  generalize hH1 : s.heap.push { cls := .type "dict_items", data := .fields #[.ref 15] } = H1
  rw [hz]
  have z1 : H1.objs.size = 36 := by rw [← hH1, Heap.size_push, hz]
  have g1 : ∀ b o, s.heap.get? b = some o → H1.get? b = some o := fun b o e => by rw [← hH1]; exact Heap.get?_push_of_some _ e
  have hv : H1.get? 35 = some { cls := .type "dict_items", data := .fields #[.ref 15] } := by rw [← hH1, ← hz]; exact Heap.get?_push_size _ rfl
  obtain ⟨ep, hat⟩ := (hD H1 15 (g1 _ _ (hA.has 15 oD rfl))).dictAt
  refine wpAny_pyIter_items (d := 15) (kvs := kvs) (ep := ep) ⟨_, hv, rfl, rfl⟩ hat ?_
  dsimp only
  generalize hH2 : H1.push { cls := .type "dict_itemiterator", data := .fields #[.none, .bool false, .ref 15, .int 0 0, .int kvs.length 0, .int ep 0, .none, .none] } = H2
  have z2 : H2.objs.size = 37 := by rw [← hH2, Heap.size_push, z1]
  have g2 : ∀ b o, H1.get? b = some o → H2.get? b = some o := fun b o e => by rw [← hH2]; exact Heap.get?_push_of_some _ e
  rw [z1]
  obtain ⟨l36, l3, l31⟩ := under_low w.params oD
  refine for_loop (Kx := under w.params oD) (r := r) (kvs := kvs) (ep := ep) (t0 := t0) (t1 := t1) (t2 := t2) (L0 := marks) (I := 36) (d := 15) (n := 37) hh hk hfit marks_len (by decide) (by decide) (by decide) (by decide) (by decide) (by decide) l36 l3 l31 hne ?_ ?_
  · refine ⟨⟨_, _, rfl⟩, Nat.zero_le _, under_of (l := names2 t0 t1 ++ [nm "opname" t2 (Value.ref 31)]) (m := 11) fun a o e => g2 _ _ (g1 _ _ (hA.has a o ?_)), hat.keep g2, ⟨.none, .none, ?_⟩, ?_, ⟨items, ?_, ?_⟩, z2⟩
    · have h31 : a ≠ 31 := by
        intro q; subst q
        have : look 31 ((15, oD) :: kept w.params (names2 t0 t1 ++ [nm "opname" t2 (Value.ref 31)]) 11) = none := by kernel_rfl
        exact nomatch this.symm.trans e
      unfold look
      have : Nat.beq a 31 = false := by
        cases hb : Nat.beq a 31 with
        | false => rfl
        | true => exact absurd (Nat.eq_of_beq_eq_true hb) h31
      rw [this]; exact e
    · show H2.get? 36 = _
      rw [← hH2, ← z1]; exact Heap.get?_push_size _ rfl
    · exact g2 _ _ (g1 _ _ hmain)
    · exact g2 _ _ (g1 _ _ (hA.has 31 _ rfl))
    · rw [hi]; rfl
  · rintro s' x hx ho hkn hmn ⟨items', hli, hst⟩ hz'
    rw [hlast] at hx
    obtain rfl := Option.some.inj hx
    obtain ⟨ta, tb, u, v, hmo⟩ := hmn
    refine hQ s' items' ta tb u v hst ?_ (Onward.trans ⟨_, _, rfl⟩ ho)
    refine At.more (At.more ⟨hkn, ?_, rfl⟩ hli) hmo
    rw [hz', hr]
theorem has2 : ∃ s2, (pg.main.body.drop 1).head? = some s2 := ⟨((pg.main.body.drop 1).head?).getD (.Pass default), by kernel_rfl⟩
theorem swap1 : swapsWith dictE (some (.Name "opmap" ⟨1, 0, 1, 5⟩)) (⟨1, 0, 1, 3319⟩ : Pos).line env0 = pure false := by kernel_rfl
theorem stmt1_done {e : Expr} (he : e = dictE) {Q : Flow → Shared → Prop} (hA : At T s (known0 w.params) 15 k)
    (hQ : ∀ s' oD kvs t, KVs pairs kvs → DictObj w oD kvs → At s'.toks s' ((15, oD) :: kept w.params (names0 "__main__" 164 ++ [nm "opmap" t (Value.ref 15)]) 10) 24 0 → Onward s s' → Q .next s') :
    wpAny (model pg w) A (exec (.Assign [.Name "opmap" ⟨1, 0, 1, 5⟩] e ⟨1, 0, 1, 3319⟩) env0) Q E s := by
  have h1 : eval e env0 = (do standAt posD; dictDisplay (pairs.map fun x => (some (pairOf env0 posD x).1, (pairOf env0 posD x).2))) := by rw [he]; exact dict_tree
  have h2 : swapsWith e (some (.Name "opmap" ⟨1, 0, 1, 5⟩)) (⟨1, 0, 1, 3319⟩ : Pos).line env0 = pure false := by rw [he]; exact swap1
  clear he
  exact stmt1_gen h1 h2 pairs_len pairs_nodup hA hQ
theorem body_split' {s2 s3 s4 : Stmt} (h2 : (pg.main.body.drop 1).head? = some s2) (h3 : (pg.main.body.drop 2).head? = some s3) (h4 : (pg.main.body.drop 3).head? = some s4) :
    ∃ e, e = dictE ∧ pg.main.body = .Assign [.Name "opmap" ⟨1, 0, 1, 5⟩] e ⟨1, 0, 1, 3319⟩ :: s2 :: s3 :: s4 :: pg.main.body.drop 4 := ⟨_, rfl, body_split h2 h3 h4⟩
/-- the whole top -/
theorem top_body {Q : Flow → Shared → Prop} (hh : A.handled = none) (hA : At T s (known0 w.params) 15 k)
    (hQ : ∀ s' oD items t0 t1 t2 ta tb u v T', items.toList.map strOf = (setAll marks pairs).map some → At T' s' (ended w.params t0 t1 t2 ta tb u v T' oD (listOf items 268)) 679 59 → Onward s s' → Q .next s') :
    wpAny (model pg w) A (execs pg.main.body env0) Q E s := by
  obtain ⟨q1, q2, p1, p2, p3, p4, p5, p6, p7, p8, p9, e1, e2, e3, e4, e5, e6, e7, f3, l3⟩ := is_form3
  obtain ⟨b1, b2, b3, b4, b5, b6, b7, b8, a1, a2, a3, a4, c, f4, l4⟩ := is_form4
  obtain ⟨s2, f2⟩ := has2
  obtain ⟨e, he, hb⟩ := body_split' f2 f3 f4
  rw [hb]
  refine wpAny_execs_cons (stmt1_done he hA fun s₁ oD kvs t hk hD hA₁ ho₁ => ?_)
  dsimp only
  refine wpAny_execs_cons (wpAny_ev hA₁ (stmt2_ev w.params oD s₁.toks t f2) fun s₂ hA₂ hG₂ => ?_)
  dsimp only
  refine wpAny_execs_cons (stmt3_done hh hA₂ hk hD (by rw [pairs_len]; decide) pairs_max l3 fun s₃ items t2 hi hA₃ ho₃ => ?_)
  dsimp only
  refine wpAny_execs_cons (stmt4_done hh hA₃ hi hk hD pairs_fit pairs_len pairs_last l4 fun s₄ items' ta tb u v hi' hA₄ ho₄ => ?_)
  dsimp only
  refine wpAny_ev hA₄ (rest_ev ..) fun s₅ hA₅ hG₅ => hQ s₅ oD items' _ _ _ _ _ _ _ _ hi' hA₅ (((ho₁.trans hG₂.onward).trans ho₃).trans (ho₄.trans hG₅.onward))
end
end Mine
end
section
open PySem PySem.W PyProof.Rows PySem.Calls
namespace Mine
noncomputable def boot1 (P : Params) : Frag := [(13, code13 181), (12, code12), (11, code11)] ++ boot0 P
theorem mod_ev (P : Params) : ev ⟨pg, P⟩ 181 (moduleCode pg.main) (boot0 P) 11 0 = some (Value.ref 13, boot1 P, 14, 6) := by kernel_rfl
theorem frame_ev (P : Params) : ev ⟨pg, P⟩ 181 (newBodyFrame (Value.ref 13) mainNs mainNs) (boot1 P) 14 6 = some (14, known0 P, 15, 6) := by kernel_rfl
theorem behind_all : behindTheImports pg = pg.main.body := by kernel_rfl
theorem no_anns : hasAnns pg.main.body = false := by kernel_rfl
theorem no_doc : docOf pg.main.body = none := by kernel_rfl
/-- what the top leaves -/
def LeftBy (w : World) (s₁ : Shared) : Prop := ∃ oD items t0 t1 t2 ta tb u v T', items.toList.map strOf = (setAll marks pairs).map some ∧ At T' s₁ (ended w.params t0 t1 t2 ta tb u v T' oD (listOf items 268)) 679 59
theorem body_any : ∃ B, behindTheImports pg = B ∧ hasAnns B = false ∧ docOf B = none ∧ ∀ {w : World} {A : Around} {E : Value → Shared → Prop} {s : Shared} {T k : Nat} {Q : Flow → Shared → Prop}, A.handled = none → At T s (known0 w.params) 15 k →
    (∀ s', LeftBy w s' → Onward s s' → Q .next s') → wpAny (model pg w) A (execs B env0) Q E s :=
  ⟨pg.main.body, behind_all, no_anns, no_doc, fun {w A E s T k Q} hh hA hQ => @top_body w A E s T k Q hh hA fun s₃ oD items t0 t1 t2 ta tb u v T' hi hA₃ ho₃ => hQ s₃ ⟨oD, items, t0, t1, t2, ta, tb, u, v, T', hi, hA₃⟩ ho₃⟩
theorem stub_any {w : World} {s : Shared} (hA : At 181 s (boot0 w.params) 11 0) :
    wpAny (model pg w) callerA (topStub pg).cur (fun fin s' => ∃ f, fin = .done f ∧ LeftBy w s' ∧ Onward s s') (fun _ _ => False) s := by
  unfold topStub
  dsimp only
  obtain ⟨B, hB, h1, h2, hT⟩ := body_any
  rw [hB]
  clear hB
  refine wpAny_bind (wpAny_ev hA (mod_ev w.params) fun s₁ hA₁ hG₁ => ?_)
  refine wpAny_bind (wpAny_ev hA₁ (frame_ev w.params) fun s₂ hA₂ hG₂ => ?_)
  refine wpAny_bind (wpAny_run ?_)
  refine codeAny_body (env := env0) h1 h2 ?_
  refine hT rfl hA₂ fun s₃ hL ho₃ => ?_
  exact wpAny_pure ⟨_, rfl, hL, (hG₁.onward.trans hG₂.onward).trans ho₃⟩
theorem top_runs {w : World} {s : Shared} (hA : At 181 s (boot0 w.params) 11 0) (hg : s.gens = #[]) (hz : s.asleep) :
    ∃ s₁, (∃ n t, schedN (denote table) pg w n (.single s (topStub pg)) = .running (.single s₁ t) ∧ through t = true) ∧ s₁.heap.life = s.heap.life ∧ Onward s s₁ ∧ LeftBy w s₁ := by
  have h := stub_any hA
  -- the whole run ends
  have h' := wp_of_wpAny_done (R := fun r s' => (∃ f, r = .ok f) ∧ leftWithCleanup s'.gens = false) caller_in
    (wpAny_mono h (fun _ _ ⟨f, e, _, ho⟩ => ⟨f, e, ⟨f, rfl⟩, by obtain ⟨h2, k2, rfl⟩ := ho; show leftWithCleanup s.gens = false; rw [hg]; simp [leftWithCleanup]⟩) fun _ _ q => q.elim) default
  obtain ⟨n, r, s₂, hn, _⟩ := (wp_iff_halts (M := model pg w) (R := fun r s' => ∃ f, r = .ok f) ..).mp h'
  obtain ⟨s₃, hr, hf, hc⟩ := runNI_real _ _ _ hn (outcomeOf_ends r)
  have hne : ∀ k s₂, runN (denote table) pg w k s (topStub pg) ≠ .halted (.unsupported "lifetime:generator-with-cleanup-left-suspended") s₂ := by
    intro k s₂ hk
    have a := runN_mono (denote table) pg w n k s _ _ s₃ hr
    have b := runN_mono (denote table) pg w k n s _ _ s₂ hk
    rw [Nat.add_comm] at a
    have c := a.symm.trans b
    injection c with a1 _
    have := outcomeOf_ends r
    rw [a1] at this
    exact absurd this (by simp [Outcome.ends])
  -- it comes to the leaf
  obtain ⟨m, s', σ, p', leaf, hm, hσ, hl⟩ := wp_reaches (c := .builtin "claim.caller" {}) (h _ default caller_in)
  rcases hl with ⟨a, rfl, f, rfl, hL, ho⟩ | ⟨e, _, hx⟩
  · have hgs : s'.gens = #[] := by obtain ⟨h2, k2, rfl⟩ := ho; exact hg
    obtain rfl : σ = s' := Shared.eq_of_forget_eq hσ hgs
    refine ⟨σ, ⟨m, _, (schedN_eq_runN (denote table) pg w s (topStub pg) hz ⟨hc, hne⟩ m).trans (congrArg Run.lift hm), rfl⟩, runN_life_running hm, ho, hL⟩
  · exact hx.elim
end Mine
end
section
open PySem PySem.W PyProof.Rows PySem.Calls
namespace Mine
def heapOf (K : Frag) (junk : Nat → Obj) (n : Nat) (l : Life) : Heap := ⟨((List.range n).map fun i => (look i K).getD (junk i)).toArray, l⟩
theorem heap_is {T n k : Nat} {s : Shared} {K : Frag} (hA : At T s K n k) : s.heap = heapOf K (fun i => (s.heap.objs[i]?).getD default) n s.heap.life := by
  obtain ⟨⟨objs, l⟩, g, d, tk, os⟩ := s
  have hz : objs.size = n := hA.size
  have hh : ∀ a o, look a K = some o → objs[a]? = some o := fun a o e => (Heap.get?_some_iff.mp (hA.has a o e)).1
  unfold heapOf
  dsimp only
  congr 1
  apply Array.ext
  · simp [hz]
  · intro i h1 h2
    simp only [List.getElem_toArray, List.getElem_map, List.getElem_range]
    cases e : look i K with
    | none => simp [Array.getElem?_eq_getElem h1]
    | some o =>
      have := hh i o e
      rw [Array.getElem?_eq_getElem h1] at this
      simpa using this
noncomputable def qv : Program := view pg [5, 7, 8, 9, 10, 11]
def loose : List Str := ["opmap", "opname", "op", "i"]
noncomputable def stateOf (P : Params) (junk : Nat → Obj) (l : Life) (os : OsState) (t0 t1 t2 ta tb u v T : Nat) (oD oL : Obj) : Shared := ⟨heapOf (ended P t0 t1 t2 ta tb u v T oD oL) junk 679 l, #[], boot_drawn, T + 59, os⟩
theorem looks (P : Params) (junk : Nat → Obj) (l : Life) (os : OsState) (t0 t1 t2 ta tb u v T : Nat) (oD : Obj) (items : Array Value) :
    openSeen qv loose [] (fun s => xlAt qv [] s) true (stateOf P junk l os t0 t1 t2 ta tb u v T oD (listOf items 268)) = openGood qv loose := by kernel_rfl
end Mine
end
section
open PySem PySem.W PyProof.Rows PySem.Calls
namespace Mine
theorem opening_ends (w : World) : (importEnds treeTable (opening pg) w 600 (start (opening pg)).1 (start (opening pg)).2).map (fun s => (s.heap, s.gens, s.drawn, s.toks)) = some (boot_heap w.params, #[], boot_drawn, boot_toks) := by kernel_rfl
theorem fence_none (s : Shared) : fenceModules? pg s = some s := by kernel_rfl
theorem no_mods : importedModules pg.main.body = [] := by kernel_rfl
theorem chains_ok : chainsOk qv = true := by kernel_rfl
theorem boot_has (P : Params) : ∀ a o, look a (boot0 P) = some o → (boot_heap P).get? a = some o := by
  intro a o h
  have key : ∀ K : Frag, (∀ p ∈ K, (boot_heap P).get? p.1 = some p.2) → look a K = some o → (boot_heap P).get? a = some o := by
    intro K
    induction K with
    | nil => intro _ h; cases h
    | cons p K ih =>
      obtain ⟨b, x⟩ := p
      intro hk h
      unfold look at h
      cases hb : Nat.beq a b with
      | true =>
        rw [hb] at h
        obtain rfl := Option.some.inj h
        rw [Nat.eq_of_beq_eq_true hb]
        exact hk _ (List.mem_cons_self ..)
      | false => rw [hb] at h; exact ih (fun p hp => hk p (List.mem_cons_of_mem _ hp)) h
  refine key _ ?_ h
  unfold boot0
  repeat (refine List.forall_mem_cons.mpr ⟨by kernel_rfl, ?_⟩)
  exact fun _ h => nomatch h
theorem boot_size (P : Params) : (boot_heap P).objs.size = 11 := by kernel_rfl
theorem boot_at {w : World} {s : Shared} (h1 : s.heap = boot_heap w.params) (h2 : s.toks = boot_toks) : At 181 s (boot0 w.params) 11 0 :=
  ⟨fun a o e => by rw [h1]; exact boot_has _ a o e, by rw [h1]; exact boot_size _, by rw [h2]; rfl⟩
theorem statics_end (P : Params) (junk : Nat → Obj) (l : Life) (t0 t1 t2 ta tb u v T : Nat) (oD : Obj) (items : Array Value) :
    staticsOk [] (boot_heap P) (heapOf (ended P t0 t1 t2 ta tb u v T oD (listOf items 268)) junk 679 l) = true := by kernel_rfl
theorem bound_end (P : Params) (junk : Nat → Obj) (l : Life) (t0 t1 t2 ta tb u v T : Nat) (oD : Obj) (items : Array Value) :
    namesBound pg (heapOf (ended P t0 t1 t2 ta tb u v T oD (listOf items 268)) junk 679 l) = true := by kernel_rfl
/-- the start-up's objects, but the module's names, stand at the end as they stood -/
theorem old_kept (P : Params) (t0 t1 t2 ta tb u v T : Nat) (oD oL : Obj) : (boot0 P).tail.map (fun p => look p.1 (ended P t0 t1 t2 ta tb u v T oD oL)) = (boot0 P).tail.map (fun p => some p.2) := by kernel_rfl
def laidVals (h : Heap) : List (Option Value) := laidNames.map fun x => h.nsMap mainGlobals x
theorem laid_vals (P : Params) (junk : Nat → Obj) (l : Life) (t0 t1 t2 ta tb u v T : Nat) (oD : Obj) (items : Array Value) :
    laidVals (heapOf (ended P t0 t1 t2 ta tb u v T oD (listOf items 268)) junk 679 l) = laidVals (boot_heap P) := by kernel_rfl
theorem boot_isNs (P : Params) : (boot_heap P).isNs mainGlobals = true := by kernel_rfl
end Mine
end
section
open PySem PySem.W PyProof.Rows PySem.Calls
namespace Mine
theorem look_lt {K : Frag} {T n k : Nat} {s : Shared} (hA : At T s K n k) {b : Addr} {o : Obj} (h : look b K = some o) : b < n := hA.size ▸ Heap.lt_size (hA.has b o h)
theorem small_cases (b : Nat) (h : b < 11) (h3 : b ≠ 3) : b = 0 ∨ b = 1 ∨ b = 2 ∨ b = 4 ∨ b = 5 ∨ b = 6 ∨ b = 7 ∨ b = 8 ∨ b = 9 ∨ b = 10 := by omega
/-- the top, run: what stands behind it -/
theorem behind (w : World) : (∃ s, AfterRun (opening pg) w s) ∧ ∀ s, AfterRun (opening pg) w s → ∃ s₀, fenceModules? pg s = some s₀ ∧ s₀.gens = #[] ∧ ∃ s₁, TopRan pg w s₀ s₁ ∧ s₁.asleep ∧ s₁.gens = #[] ∧ s₁.heap.isNs mainGlobals = true ∧
      Ground qv loose [] (XL qv []) w s₁ (s₁.heap.nsMap mainGlobals) (s₁.heap.nsMap builtinsNs) s₁.heap ∧ LeftBy w s₁ := by
  have h := opening_ends w
  rw [← table_eq_tree] at h
  obtain ⟨s, h4, e⟩ := Option.map_eq_some_iff.mp h
  have A := AfterImport.of_importEnds h4
  refine ⟨⟨s, A⟩, fun s' hs' => ?_⟩
  obtain rfl : s' = s := AfterImport.unique hs' A
  have z : s'.asleep := A.life
  obtain ⟨heap, gens, drawn, toks, os⟩ := s'
  simp only [Prod.mk.injEq] at e
  obtain ⟨e1, e2, e3, e4⟩ := e
  subst e1 e2 e3 e4
  refine ⟨_, fence_none _, rfl, ?_⟩
  obtain ⟨s₁, hrun, hlife, ⟨h₁, tk₁, rfl⟩, hL⟩ := top_runs (w := w) (boot_at rfl rfl) rfl z
  obtain ⟨oD, items, t0, t1, t2, ta, tb, u, v, T', hi, hA⟩ := id hL
  have hh := heap_is hA
  have ht : tk₁ = T' + 59 := hA.toks
  dsimp only at hh hlife
  generalize (fun i : Nat => ((h₁.objs[i]?).getD default : Obj)) = junk at hh
  subst ht
  have hs₁ : (⟨h₁, #[], boot_drawn, T' + 59, os⟩ : Shared) = stateOf w.params junk h₁.life os t0 t1 t2 ta tb u v T' oD (listOf items 268) := by
    unfold stateOf; rw [← hh]
  have hlook := looks w.params junk h₁.life os t0 t1 t2 ta tb u v T' oD items
  rw [← hs₁] at hlook
  obtain ⟨G, g0, g1, g2, g3, g4, g5⟩ := ground_of_open (w := w) (XP := XL qv []) (fun s e => xl_of s e) chains_ok hlook
  have hst := statics_end w.params junk h₁.life t0 t1 t2 ta tb u v T' oD items
  have hnb := bound_end w.params junk h₁.life t0 t1 t2 ta tb u v T' oD items
  have hlv := laid_vals w.params junk h₁.life t0 t1 t2 ta tb u v T' oD items
  rw [← hh] at hst hnb hlv
  refine ⟨_, ⟨hrun, hlife, Shared.rest_eq rfl, ?_, by rw [no_mods]; exact g2, by rw [no_mods]; exact statics_of_ok hst, g3, g4, g5, ?_, names_of_bound hnb, ?_⟩, Shared.asleep_of_life hlife z, rfl, g1, G, hL⟩
  · intro b o hb hn
    have hb3 : b ≠ 3 := fun q => hn (.inl q)
    have hlt : b < 11 := by have := Heap.lt_size hb; rwa [boot_size] at this
    -- every start-up object but the names
    have key : ∀ K : Frag, K.map (fun p => look p.1 (ended w.params t0 t1 t2 ta tb u v T' oD (listOf items 268))) = K.map (fun p => some p.2) → ∀ x, look b K = some x → look b (ended w.params t0 t1 t2 ta tb u v T' oD (listOf items 268)) = some x := by
      intro K
      induction K with
      | nil => intro _ x hx; cases hx
      | cons p K ih =>
        obtain ⟨c, y⟩ := p
        intro hm x hx
        simp only [List.map_cons, List.cons.injEq] at hm
        unfold look at hx
        cases hc : Nat.beq b c with
        | true =>
          rw [hc] at hx
          obtain rfl := Option.some.inj hx
          rw [Nat.eq_of_beq_eq_true hc]; exact hm.1
        | false => rw [hc] at hx; exact ih hm.2 x hx
    have there : ∃ x, look b (boot0 w.params).tail = some x := by
      have : b = 0 ∨ b = 1 ∨ b = 2 ∨ b = 4 ∨ b = 5 ∨ b = 6 ∨ b = 7 ∨ b = 8 ∨ b = 9 ∨ b = 10 := by
        exact small_cases b hlt hb3
      rcases this with rfl | rfl | rfl | rfl | rfl | rfl | rfl | rfl | rfl | rfl <;> exact ⟨_, rfl⟩
    obtain ⟨x, hx⟩ := there
    have hbo : (boot_heap w.params).get? b = some x := boot_has w.params b x (by
      show look b ((3, boot_o_3 w.params) :: (boot0 w.params).tail) = some x
      unfold look
      have : Nat.beq b 3 = false := by
        cases hc : Nat.beq b 3 with
        | false => rfl
        | true => exact absurd (Nat.eq_of_beq_eq_true hc) hb3
      rw [this]; exact hx)
    obtain rfl : x = o := Option.some.inj (hbo.symm.trans hb)
    exact hA.has b x (key _ (old_kept ..) x hx)
  · intro g hg
    simp at hg
  · intro x hx
    have hq : ∀ l : List Str, (l.map fun x => h₁.nsMap mainGlobals x) = (l.map fun x => (boot_heap w.params).nsMap mainGlobals x) → x ∈ l → h₁.nsMap mainGlobals x = (boot_heap w.params).nsMap mainGlobals x := by
      intro l
      induction l with
      | nil => intro _ h; cases h
      | cons y l ih =>
        intro hm hx
        simp only [List.map_cons, List.cons.injEq] at hm
        rcases List.mem_cons.mp hx with rfl | hx
        · exact hm.1
        · exact ih hm.2 hx
    rw [Pin.globalOf_eq g1, Pin.globalOf_eq (boot_isNs w.params)]
    exact hq laidNames hlv hx
end Mine
end
section
open PySem PySem.W PyProof.Rows PySem.Calls
namespace Mine
/-- what a top must leave for a law without tables -/
abbrev BehindO (p q : Program) (loose : List Str) (XP : (Str → Option Value) → Heap → Prop) (YP : World → Heap → Prop) : Prop :=
  ∀ w : World, (∃ s, AfterRun (opening p) w s) ∧ ∀ s, AfterRun (opening p) w s → ∃ s₀, fenceModules? p s = some s₀ ∧ s₀.gens = #[] ∧ ∃ s₁, TopRan p w s₀ s₁ ∧ s₁.asleep ∧ s₁.gens = #[] ∧ s₁.heap.isNs mainGlobals = true ∧
      Ground q loose [] XP w s₁ (s₁.heap.nsMap mainGlobals) (s₁.heap.nsMap builtinsNs) s₁.heap ∧ YP w s₁.heap
theorem open_own {r : RowW} {run : Value → List Value → Sem Value} {tree : List Value → Sem Fin} {q : Program} {loose defs kps : List Str} {writes : Bool} {XP : (Str → Option Value) → Heap → Prop} {YP : World → Heap → Prop}
    (bh : BehindO r.prog q loose XP YP) (hYk : ∀ w h h', YP w h → (∀ b o, h.get? b = some o → h'.get? b = some o) → YP w h') (hXk : ∀ mg h h', XP mg h → (∀ b o, h.get? b = some o → h'.get? b = some o) → XP mg h')
    (hnil : r.records = []) (ok : (chainsOk q && opensWell r.prog && (frees r && r.within.isEmpty)) = true) (hb : r.prog.bare) (hw : r.promised)
    (ht : ∀ vs (w : World) (s : Shared) mg f (Q : Fin → Shared → Prop) (E : Value → Shared → Prop), s.heap.Ns mainGlobals mg → mg r.name = some f → wpAny (model r.prog w) callerA (run f vs) (fun v s' => Q (.done (.ret v)) s') E s → wpAny (model r.prog w) callerA (tree vs) Q E s)
    (pin : ∀ w s, s.heap.isNs mainGlobals = true → Ground q loose [] XP w s (s.heap.nsMap mainGlobals) (s.heap.nsMap builtinsNs) s.heap → ∀ n ∈ defs, isTheDefsW r.prog s.heap n)
    (call : ∀ (w : World) (s₀ s₁ : Shared) (mg mb : Str → Option Value), Ground q loose r.records XP w s₀ mg mb s₁.heap → YP w s₁.heap → ∀ (args : List WData) (vs : List Value) (as : List Addr),
      r.claim.pre args = true → WData.layableAll args = true → Laid r.records w s₀ s₁ args vs as → sysModules < s₀.heap.objs.size → ∃ f, mg r.name = some f ∧
        wpAny (model r.prog w) callerA (run f vs) (fun v s' => GoodWG r.claim (classAt s₀.heap) (ExcName.means s₀.heap) args s₁ (.ok (.ret v)) s')
          (fun e s' => GoodWG r.claim (classAt s₀.heap) (ExcName.means s₀.heap) args s₁ (.error e) s') s₁) : r.claim.HoldsOpenBy (fun vs => ⟨tree vs, .builtin "claim.caller" {}, default, []⟩) defs kps writes := by
  obtain ⟨ok, k5⟩ := Bool.and_eq_true_iff.mp ok
  obtain ⟨hch, o1⟩ := Bool.and_eq_true_iff.mp ok
  obtain ⟨k5, k6⟩ := Bool.and_eq_true_iff.mp k5
  obtain ⟨hsame, hu, ha, hap, hm⟩ := frees_parts k5
  refine ⟨⟨hb, o1, by show r.makers.map _ = []; rw [hm]; rfl⟩, hw.witness, fun w => ⟨(bh w).1, fun s' hs' => ?_⟩⟩
  obtain ⟨s₀, hf, hg0, s, hT, hz, hgens, hg, G0, y⟩ := (bh w).2 s' hs'
  have RF : RecFacts r.records s.heap := recFacts_nil hnil
  have hT' := hT
  refine ⟨s₀, hf, hg0, s, hT, pin w s hg G0, RF.1, RF.2.1, ?_⟩
  have G : Ground q loose r.records XP w s _ _ s.heap := RF.ground G0
  refine ClaimW.callFrom_of_specG (c := r.claim) hz hgens fun args hpre hlay ord hord => ?_
  obtain ⟨⟨vs, s₁⟩, hlaid⟩ := Option.isSome_iff_exists.mp (layAllW_isSome (P := w.params) (ord := ord) G.has args r.args s (pre_splitW hpre).1)
  have keeps := layAllW_keeps _ _ _ hlaid
  have hal := layAllW_rest _ _ _ hlaid
  obtain ⟨as, hrd, hin, hold⟩ := reads_layAllW hord _ _ _ hlaid hlay s₁.heap (fun _ _ e => e)
  have L : Laid r.records w s s₁ args vs as := ⟨⟨ord, hord, hlaid⟩, hrd, hin, hold, keeps, hal.1.trans hgens, hal.2.2.1⟩
  have G₁ := G.keeps hXk keeps
  obtain ⟨f, hf, h⟩ := call w s s₁ _ _ G₁ (hYk _ _ _ y keeps) args vs as hpre hlay L G.low
  have hi := ident_freeW hu ha hap
  have hwi : r.claim.within = [] := List.isEmpty_iff.mp k6
  have hwr : (!writes || r.records.isEmpty) = true := by rw [hnil]; simp
  exact ⟨vs, s₁, hlaid, ht vs w s₁ _ f _ _ G₁.T.g hf (wpAny_mono h (fun v s' g => ⟨_, rfl, have z := g.laid (c := r.claim) hsame hwi hi L; ⟨z.1, z.2.1, z.2.2, fun q => ⟨namesKept_of hT' hg kps keeps g.2.1.old, noTable hwr q⟩⟩⟩) fun e s' g => have z := g.laid (c := r.claim) hsame hwi hi L; ⟨z.1, z.2.1, z.2.2, fun q => ⟨namesKept_of hT' hg kps keeps g.2.1.old, noTable hwr q⟩⟩)⟩
theorem holds_own {r : OpenRow} {q : Program} {loose : List Str} {XP : (Str → Option Value) → Heap → Prop} {YP : World → Heap → Prop} {d : DefRec} {kwd : List (Str × Expr)}
    (bh : BehindO r.prog q loose XP YP) (hYk : ∀ w h h', YP w h → (∀ b o, h.get? b = some o → h'.get? b = some o) → YP w h') (hXk : ∀ mg h h', XP mg h → (∀ b o, h.get? b = some o → h'.get? b = some o) → XP mg h')
    (hdef : defOf q r.name = some (d, kwd)) (hp : r.prog.theDef r.name = some (d.params, d.body, d.scope)) (hk : kwWritten? d.params.kwonlyargs d.params.kw_defaults = some kwd) (hnil : r.toRowW.records = [])
    (k1 : r.wellSaid = true) (ok : (chainsOk q && opensWell r.prog && (frees r.toRowW && r.within.isEmpty)) = true) (hb : r.prog.bare) (hw : r.toRowW.promised)
    (call : WalkO q loose XP YP r.toRowW d kwd fun f vs => PySem.call f vs) : r.Holds := by
  refine ⟨k1, hw, open_own (r := r.toRowW) (run := fun f vs => PySem.call f vs) (tree := fun vs => do match ← nsGet mainNs r.name with
      | some f => do ret (← PySem.call f vs)
      | none => unsupported "claim.caller:no-such-global") bh hYk hXk hnil ok hb hw
    (fun vs w s mg f Q E hg hf h => wpAny_bind (wpAny_nsGet hg (by rw [hf]; exact wpAny_bind (wpAny_mono h (fun _ _ x => wpAny_pure x) fun _ _ x => x))))
    (fun w s hg G n hn => ?_) fun w s₀ s₁ mg mb G Y args vs as hpre hlay L low => ?_⟩
  · obtain rfl : n = r.name := by split at hn <;> simp_all
    exact pinned_of_view hg G hdef hp hk
  · obtain ⟨a, o, pm, cd, doc, dV, kV, h1, h2, h3, h4, h5⟩ := G.fn hdef
    exact ⟨.ref a, h1, call w s₀ s₁ mg mb G Y a o pm cd doc dV kV h2 h3 h4 h5 (defOf_name hdef ▸ h1) L.gens args vs as hpre hlay L.reads L.well (L.low low)⟩
end Mine
end
section
open PySem PySem.W PyProof.Rows PySem.Calls
namespace Mine
/-- the objects that the law's walk reads; their late tokens are letters -/
noncomputable def Kw : Params → Frag := fun P =>
  (fun (n5 : Str) (p5 : Arguments) (s50 : Stmt) (c5 : Scope) (b5 : Str) (q5 : Pos)
    (n7 : Str) (p7 : Arguments) (s70 s71 s72 : Stmt) (c7 : Scope) (b7 : Str) (q7 : Pos)
    (n8 : Str) (p8 : Arguments) (s80 s81 s82 : Stmt) (c8 : Scope) (b8 : Str) (q8 : Pos)
    (n9 : Str) (p9 : Arguments) (s90 s91 s92 : Stmt) (c9 : Scope) (b9 : Str) (q9 : Pos)
    (n10 : Str) (p10 : Arguments) (s100 s101 s102 : Stmt) (c10 : Scope) (b10 : Str) (q10 : Pos)
    (n11 : Str) (p11 : Arguments) (s110 s111 s112 s113 s114 s115 : Stmt) (c11 : Scope) (b11 : Str) (q11 : Pos)
    (_ : (pg.main.body.drop 5).head? = some (.FunctionDef n5 p5 [s50] [] none [] c5 none b5 q5))
    (_ : (pg.main.body.drop 7).head? = some (.FunctionDef n7 p7 [s70, s71, s72] [] none [] c7 none b7 q7))
    (_ : (pg.main.body.drop 8).head? = some (.FunctionDef n8 p8 [s80, s81, s82] [] none [] c8 none b8 q8))
    (_ : (pg.main.body.drop 9).head? = some (.FunctionDef n9 p9 [s90, s91, s92] [] none [] c9 none b9 q9))
    (_ : (pg.main.body.drop 10).head? = some (.FunctionDef n10 p10 [s100, s101, s102] [] none [] c10 none b10 q10))
    (_ : (pg.main.body.drop 11).head? = some (.FunctionDef n11 p11 [s110, s111, s112, s113, s114, s115] [] none [] c11 none b11 q11)) => ([
    (nat_lit 2, (PySem.Obj.mk PySem.Value.none none (PySem.Data.dict #[] 0) #[])),
    (nat_lit 3, (PySem.Obj.mk (PySem.Value.type "dict") none (PySem.Data.dict #[(PySem.DictEntry.mk (PyData.keyHash P (Str.ofString "__name__")) (PySem.Value.str (Str.ofString "__name__") 165) (PySem.Value.str (Str.ofString "law_rs0004_01") ((P.mergeTok 7) + 9))), (PySem.DictEntry.mk (PyData.keyHash P (Str.ofString "__doc__")) (PySem.Value.str (Str.ofString "__doc__") 166) PySem.Value.none), (PySem.DictEntry.mk (PyData.keyHash P (Str.ofString "__package__")) (PySem.Value.str (Str.ofString "__package__") 167) PySem.Value.none), (PySem.DictEntry.mk (PyData.keyHash P (Str.ofString "__loader__")) (PySem.Value.str (Str.ofString "__loader__") 168) (PySem.Value.builtin "__main__.__loader__#opaque")), (PySem.DictEntry.mk (PyData.keyHash P (Str.ofString "__spec__")) (PySem.Value.str (Str.ofString "__spec__") 169) PySem.Value.none), (PySem.DictEntry.mk (PyData.keyHash P (Str.ofString "__annotations__")) (PySem.Value.str (Str.ofString "__annotations__") 170) (PySem.Value.ref 6)), (PySem.DictEntry.mk (PyData.keyHash P (Str.ofString "__builtins__")) (PySem.Value.str (Str.ofString "__builtins__") 171) (PySem.Value.ref 4)), (PySem.DictEntry.mk (PyData.keyHash P (Str.ofString "__file__")) (PySem.Value.str (Str.ofString "__file__") 173) (PySem.Value.str (Str.ofString "/claim/cut.py") 172)), (PySem.DictEntry.mk (PyData.keyHash P (Str.ofString "__cached__")) (PySem.Value.str (Str.ofString "__cached__") 174) PySem.Value.none), (PySem.DictEntry.mk (PyData.keyHash P (Str.ofString "opmap")) (PySem.Value.str (Str.ofString "opmap") (P.mergeTok 1)) (PySem.Value.ref 15)), (PySem.DictEntry.mk (PyData.keyHash P (Str.ofString "opname")) (PySem.Value.str (Str.ofString "opname") (P.mergeTok 2)) (PySem.Value.ref 31)), (PySem.DictEntry.mk (PyData.keyHash P (Str.ofString "op")) (PySem.Value.str (Str.ofString "op") (P.mergeTok 3)) (PySem.Value.str (Str.ofString "STORE_FAST_MAYBE_NULL") (P.mergeTok 5))), (PySem.DictEntry.mk (PyData.keyHash P (Str.ofString "i")) (PySem.Value.str (Str.ofString "i") (P.mergeTok 4)) (PySem.Value.int 267 (P.mergeTok 6))), (PySem.DictEntry.mk (PyData.keyHash P (Str.ofString "_is_backward_jump")) (PySem.Value.str (Str.ofString "_is_backward_jump") ((P.mergeTok 7) + 8)) (PySem.Value.ref 645)), (PySem.DictEntry.mk (PyData.keyHash P (Str.ofString "_law_ring")) (PySem.Value.str (Str.ofString "_law_ring") ((P.mergeTok 7) + 19)) (PySem.Value.ref 652)), (PySem.DictEntry.mk (PyData.keyHash P (Str.ofString "_law_steps_told")) (PySem.Value.str (Str.ofString "_law_steps_told") ((P.mergeTok 7) + 29)) (PySem.Value.ref 659)), (PySem.DictEntry.mk (PyData.keyHash P (Str.ofString "_law_never_back")) (PySem.Value.str (Str.ofString "_law_never_back") ((P.mergeTok 7) + 41)) (PySem.Value.ref 666)), (PySem.DictEntry.mk (PyData.keyHash P (Str.ofString "_law_places")) (PySem.Value.str (Str.ofString "_law_places") ((P.mergeTok 7) + 52)) (PySem.Value.ref 673)), (PySem.DictEntry.mk (PyData.keyHash P (Str.ofString "law")) (PySem.Value.str (Str.ofString "law") ((P.mergeTok 7) + 58)) (PySem.Value.ref 678))] 19) #[])),
    (nat_lit 6, (PySem.Obj.mk (PySem.Value.type "dict") none (PySem.Data.dict #[] 0) #[])),
    (nat_lit 31, listOf #[Value.str (Str.ofString "CACHE") (P.mergeTok 8), Value.str (Str.ofString "BEFORE_ASYNC_WITH") (P.mergeTok 9), Value.str (Str.ofString "BEFORE_WITH") (P.mergeTok 10), Value.str (Str.ofString "<3>") (P.mergeTok 11), Value.str (Str.ofString "BINARY_SLICE") (P.mergeTok 12), Value.str (Str.ofString "BINARY_SUBSCR") (P.mergeTok 13), Value.str (Str.ofString "CHECK_EG_MATCH") (P.mergeTok 14), Value.str (Str.ofString "CHECK_EXC_MATCH") (P.mergeTok 15), Value.str (Str.ofString "CLEANUP_THROW") (P.mergeTok 16), Value.str (Str.ofString "DELETE_SUBSCR") (P.mergeTok 17), Value.str (Str.ofString "END_ASYNC_FOR") (P.mergeTok 18), Value.str (Str.ofString "END_FOR") (P.mergeTok 19), Value.str (Str.ofString "END_SEND") (P.mergeTok 20), Value.str (Str.ofString "EXIT_INIT_CHECK") (P.mergeTok 21), Value.str (Str.ofString "FORMAT_SIMPLE") (P.mergeTok 22), Value.str (Str.ofString "FORMAT_WITH_SPEC") (P.mergeTok 23), Value.str (Str.ofString "GET_AITER") (P.mergeTok 24), Value.str (Str.ofString "RESERVED") (P.mergeTok 25), Value.str (Str.ofString "GET_ANEXT") (P.mergeTok 26), Value.str (Str.ofString "GET_ITER") (P.mergeTok 27), Value.str (Str.ofString "GET_LEN") (P.mergeTok 28), Value.str (Str.ofString "GET_YIELD_FROM_ITER") (P.mergeTok 29), Value.str (Str.ofString "INTERPRETER_EXIT") (P.mergeTok 30), Value.str (Str.ofString "LOAD_ASSERTION_ERROR") (P.mergeTok 31), Value.str (Str.ofString "LOAD_BUILD_CLASS") (P.mergeTok 32), Value.str (Str.ofString "LOAD_LOCALS") (P.mergeTok 33), Value.str (Str.ofString "MAKE_FUNCTION") (P.mergeTok 34), Value.str (Str.ofString "MATCH_KEYS") (P.mergeTok 35), Value.str (Str.ofString "MATCH_MAPPING") (P.mergeTok 36), Value.str (Str.ofString "MATCH_SEQUENCE") (P.mergeTok 37), Value.str (Str.ofString "NOP") (P.mergeTok 38), Value.str (Str.ofString "POP_EXCEPT") (P.mergeTok 39), Value.str (Str.ofString "POP_TOP") (P.mergeTok 40), Value.str (Str.ofString "PUSH_EXC_INFO") (P.mergeTok 41), Value.str (Str.ofString "PUSH_NULL") (P.mergeTok 42), Value.str (Str.ofString "RETURN_GENERATOR") (P.mergeTok 43), Value.str (Str.ofString "RETURN_VALUE") (P.mergeTok 44), Value.str (Str.ofString "SETUP_ANNOTATIONS") (P.mergeTok 45), Value.str (Str.ofString "STORE_SLICE") (P.mergeTok 46), Value.str (Str.ofString "STORE_SUBSCR") (P.mergeTok 47), Value.str (Str.ofString "TO_BOOL") (P.mergeTok 48), Value.str (Str.ofString "UNARY_INVERT") (P.mergeTok 49), Value.str (Str.ofString "UNARY_NEGATIVE") (P.mergeTok 50), Value.str (Str.ofString "UNARY_NOT") (P.mergeTok 51), Value.str (Str.ofString "WITH_EXCEPT_START") (P.mergeTok 52), Value.str (Str.ofString "BINARY_OP") (P.mergeTok 53), Value.str (Str.ofString "BUILD_CONST_KEY_MAP") (P.mergeTok 54), Value.str (Str.ofString "BUILD_LIST") (P.mergeTok 55), Value.str (Str.ofString "BUILD_MAP") (P.mergeTok 56), Value.str (Str.ofString "BUILD_SET") (P.mergeTok 57), Value.str (Str.ofString "BUILD_SLICE") (P.mergeTok 58), Value.str (Str.ofString "BUILD_STRING") (P.mergeTok 59), Value.str (Str.ofString "BUILD_TUPLE") (P.mergeTok 60), Value.str (Str.ofString "CALL") (P.mergeTok 61), Value.str (Str.ofString "CALL_FUNCTION_EX") (P.mergeTok 62), Value.str (Str.ofString "CALL_INTRINSIC_1") (P.mergeTok 63), Value.str (Str.ofString "CALL_INTRINSIC_2") (P.mergeTok 64), Value.str (Str.ofString "CALL_KW") (P.mergeTok 65), Value.str (Str.ofString "COMPARE_OP") (P.mergeTok 66), Value.str (Str.ofString "CONTAINS_OP") (P.mergeTok 67), Value.str (Str.ofString "CONVERT_VALUE") (P.mergeTok 68), Value.str (Str.ofString "COPY") (P.mergeTok 69), Value.str (Str.ofString "COPY_FREE_VARS") (P.mergeTok 70), Value.str (Str.ofString "DELETE_ATTR") (P.mergeTok 71), Value.str (Str.ofString "DELETE_DEREF") (P.mergeTok 72), Value.str (Str.ofString "DELETE_FAST") (P.mergeTok 73), Value.str (Str.ofString "DELETE_GLOBAL") (P.mergeTok 74), Value.str (Str.ofString "DELETE_NAME") (P.mergeTok 75), Value.str (Str.ofString "DICT_MERGE") (P.mergeTok 76), Value.str (Str.ofString "DICT_UPDATE") (P.mergeTok 77), Value.str (Str.ofString "ENTER_EXECUTOR") (P.mergeTok 78), Value.str (Str.ofString "EXTENDED_ARG") (P.mergeTok 79), Value.str (Str.ofString "FOR_ITER") (P.mergeTok 80), Value.str (Str.ofString "GET_AWAITABLE") (P.mergeTok 81), Value.str (Str.ofString "IMPORT_FROM") (P.mergeTok 82), Value.str (Str.ofString "IMPORT_NAME") (P.mergeTok 83), Value.str (Str.ofString "IS_OP") (P.mergeTok 84), Value.str (Str.ofString "JUMP_BACKWARD") (P.mergeTok 85), Value.str (Str.ofString "JUMP_BACKWARD_NO_INTERRUPT") (P.mergeTok 86), Value.str (Str.ofString "JUMP_FORWARD") (P.mergeTok 87), Value.str (Str.ofString "LIST_APPEND") (P.mergeTok 88), Value.str (Str.ofString "LIST_EXTEND") (P.mergeTok 89), Value.str (Str.ofString "LOAD_ATTR") (P.mergeTok 90), Value.str (Str.ofString "LOAD_CONST") (P.mergeTok 91), Value.str (Str.ofString "LOAD_DEREF") (P.mergeTok 92), Value.str (Str.ofString "LOAD_FAST") (P.mergeTok 93), Value.str (Str.ofString "LOAD_FAST_AND_CLEAR") (P.mergeTok 94), Value.str (Str.ofString "LOAD_FAST_CHECK") (P.mergeTok 95), Value.str (Str.ofString "LOAD_FAST_LOAD_FAST") (P.mergeTok 96), Value.str (Str.ofString "LOAD_FROM_DICT_OR_DEREF") (P.mergeTok 97), Value.str (Str.ofString "LOAD_FROM_DICT_OR_GLOBALS") (P.mergeTok 98), Value.str (Str.ofString "LOAD_GLOBAL") (P.mergeTok 99), Value.str (Str.ofString "LOAD_NAME") (P.mergeTok 100), Value.str (Str.ofString "LOAD_SUPER_ATTR") (P.mergeTok 101), Value.str (Str.ofString "MAKE_CELL") (P.mergeTok 102), Value.str (Str.ofString "MAP_ADD") (P.mergeTok 103), Value.str (Str.ofString "MATCH_CLASS") (P.mergeTok 104), Value.str (Str.ofString "POP_JUMP_IF_FALSE") (P.mergeTok 105), Value.str (Str.ofString "POP_JUMP_IF_NONE") (P.mergeTok 106), Value.str (Str.ofString "POP_JUMP_IF_NOT_NONE") (P.mergeTok 107), Value.str (Str.ofString "POP_JUMP_IF_TRUE") (P.mergeTok 108), Value.str (Str.ofString "RAISE_VARARGS") (P.mergeTok 109), Value.str (Str.ofString "RERAISE") (P.mergeTok 110), Value.str (Str.ofString "RETURN_CONST") (P.mergeTok 111), Value.str (Str.ofString "SEND") (P.mergeTok 112), Value.str (Str.ofString "SET_ADD") (P.mergeTok 113), Value.str (Str.ofString "SET_FUNCTION_ATTRIBUTE") (P.mergeTok 114), Value.str (Str.ofString "SET_UPDATE") (P.mergeTok 115), Value.str (Str.ofString "STORE_ATTR") (P.mergeTok 116), Value.str (Str.ofString "STORE_DEREF") (P.mergeTok 117), Value.str (Str.ofString "STORE_FAST") (P.mergeTok 118), Value.str (Str.ofString "STORE_FAST_LOAD_FAST") (P.mergeTok 119), Value.str (Str.ofString "STORE_FAST_STORE_FAST") (P.mergeTok 120), Value.str (Str.ofString "STORE_GLOBAL") (P.mergeTok 121), Value.str (Str.ofString "STORE_NAME") (P.mergeTok 122), Value.str (Str.ofString "SWAP") (P.mergeTok 123), Value.str (Str.ofString "UNPACK_EX") (P.mergeTok 124), Value.str (Str.ofString "UNPACK_SEQUENCE") (P.mergeTok 125), Value.str (Str.ofString "YIELD_VALUE") (P.mergeTok 126), Value.str (Str.ofString "<119>") (P.mergeTok 127), Value.str (Str.ofString "<120>") (P.mergeTok 128), Value.str (Str.ofString "<121>") (P.mergeTok 129), Value.str (Str.ofString "<122>") (P.mergeTok 130), Value.str (Str.ofString "<123>") (P.mergeTok 131), Value.str (Str.ofString "<124>") (P.mergeTok 132), Value.str (Str.ofString "<125>") (P.mergeTok 133), Value.str (Str.ofString "<126>") (P.mergeTok 134), Value.str (Str.ofString "<127>") (P.mergeTok 135), Value.str (Str.ofString "<128>") (P.mergeTok 136), Value.str (Str.ofString "<129>") (P.mergeTok 137), Value.str (Str.ofString "<130>") (P.mergeTok 138), Value.str (Str.ofString "<131>") (P.mergeTok 139), Value.str (Str.ofString "<132>") (P.mergeTok 140), Value.str (Str.ofString "<133>") (P.mergeTok 141), Value.str (Str.ofString "<134>") (P.mergeTok 142), Value.str (Str.ofString "<135>") (P.mergeTok 143), Value.str (Str.ofString "<136>") (P.mergeTok 144), Value.str (Str.ofString "<137>") (P.mergeTok 145), Value.str (Str.ofString "<138>") (P.mergeTok 146), Value.str (Str.ofString "<139>") (P.mergeTok 147), Value.str (Str.ofString "<140>") (P.mergeTok 148), Value.str (Str.ofString "<141>") (P.mergeTok 149), Value.str (Str.ofString "<142>") (P.mergeTok 150), Value.str (Str.ofString "<143>") (P.mergeTok 151), Value.str (Str.ofString "<144>") (P.mergeTok 152), Value.str (Str.ofString "<145>") (P.mergeTok 153), Value.str (Str.ofString "<146>") (P.mergeTok 154), Value.str (Str.ofString "<147>") (P.mergeTok 155), Value.str (Str.ofString "<148>") (P.mergeTok 156), Value.str (Str.ofString "RESUME") (P.mergeTok 157), Value.str (Str.ofString "<150>") (P.mergeTok 158), Value.str (Str.ofString "<151>") (P.mergeTok 159), Value.str (Str.ofString "<152>") (P.mergeTok 160), Value.str (Str.ofString "<153>") (P.mergeTok 161), Value.str (Str.ofString "<154>") (P.mergeTok 162), Value.str (Str.ofString "<155>") (P.mergeTok 163), Value.str (Str.ofString "<156>") (P.mergeTok 164), Value.str (Str.ofString "<157>") (P.mergeTok 165), Value.str (Str.ofString "<158>") (P.mergeTok 166), Value.str (Str.ofString "<159>") (P.mergeTok 167), Value.str (Str.ofString "<160>") (P.mergeTok 168), Value.str (Str.ofString "<161>") (P.mergeTok 169), Value.str (Str.ofString "<162>") (P.mergeTok 170), Value.str (Str.ofString "<163>") (P.mergeTok 171), Value.str (Str.ofString "<164>") (P.mergeTok 172), Value.str (Str.ofString "<165>") (P.mergeTok 173), Value.str (Str.ofString "<166>") (P.mergeTok 174), Value.str (Str.ofString "<167>") (P.mergeTok 175), Value.str (Str.ofString "<168>") (P.mergeTok 176), Value.str (Str.ofString "<169>") (P.mergeTok 177), Value.str (Str.ofString "<170>") (P.mergeTok 178), Value.str (Str.ofString "<171>") (P.mergeTok 179), Value.str (Str.ofString "<172>") (P.mergeTok 180), Value.str (Str.ofString "<173>") (P.mergeTok 181), Value.str (Str.ofString "<174>") (P.mergeTok 182), Value.str (Str.ofString "<175>") (P.mergeTok 183), Value.str (Str.ofString "<176>") (P.mergeTok 184), Value.str (Str.ofString "<177>") (P.mergeTok 185), Value.str (Str.ofString "<178>") (P.mergeTok 186), Value.str (Str.ofString "<179>") (P.mergeTok 187), Value.str (Str.ofString "<180>") (P.mergeTok 188), Value.str (Str.ofString "<181>") (P.mergeTok 189), Value.str (Str.ofString "<182>") (P.mergeTok 190), Value.str (Str.ofString "<183>") (P.mergeTok 191), Value.str (Str.ofString "<184>") (P.mergeTok 192), Value.str (Str.ofString "<185>") (P.mergeTok 193), Value.str (Str.ofString "<186>") (P.mergeTok 194), Value.str (Str.ofString "<187>") (P.mergeTok 195), Value.str (Str.ofString "<188>") (P.mergeTok 196), Value.str (Str.ofString "<189>") (P.mergeTok 197), Value.str (Str.ofString "<190>") (P.mergeTok 198), Value.str (Str.ofString "<191>") (P.mergeTok 199), Value.str (Str.ofString "<192>") (P.mergeTok 200), Value.str (Str.ofString "<193>") (P.mergeTok 201), Value.str (Str.ofString "<194>") (P.mergeTok 202), Value.str (Str.ofString "<195>") (P.mergeTok 203), Value.str (Str.ofString "<196>") (P.mergeTok 204), Value.str (Str.ofString "<197>") (P.mergeTok 205), Value.str (Str.ofString "<198>") (P.mergeTok 206), Value.str (Str.ofString "<199>") (P.mergeTok 207), Value.str (Str.ofString "<200>") (P.mergeTok 208), Value.str (Str.ofString "<201>") (P.mergeTok 209), Value.str (Str.ofString "<202>") (P.mergeTok 210), Value.str (Str.ofString "<203>") (P.mergeTok 211), Value.str (Str.ofString "<204>") (P.mergeTok 212), Value.str (Str.ofString "<205>") (P.mergeTok 213), Value.str (Str.ofString "<206>") (P.mergeTok 214), Value.str (Str.ofString "<207>") (P.mergeTok 215), Value.str (Str.ofString "<208>") (P.mergeTok 216), Value.str (Str.ofString "<209>") (P.mergeTok 217), Value.str (Str.ofString "<210>") (P.mergeTok 218), Value.str (Str.ofString "<211>") (P.mergeTok 219), Value.str (Str.ofString "<212>") (P.mergeTok 220), Value.str (Str.ofString "<213>") (P.mergeTok 221), Value.str (Str.ofString "<214>") (P.mergeTok 222), Value.str (Str.ofString "<215>") (P.mergeTok 223), Value.str (Str.ofString "<216>") (P.mergeTok 224), Value.str (Str.ofString "<217>") (P.mergeTok 225), Value.str (Str.ofString "<218>") (P.mergeTok 226), Value.str (Str.ofString "<219>") (P.mergeTok 227), Value.str (Str.ofString "<220>") (P.mergeTok 228), Value.str (Str.ofString "<221>") (P.mergeTok 229), Value.str (Str.ofString "<222>") (P.mergeTok 230), Value.str (Str.ofString "<223>") (P.mergeTok 231), Value.str (Str.ofString "<224>") (P.mergeTok 232), Value.str (Str.ofString "<225>") (P.mergeTok 233), Value.str (Str.ofString "<226>") (P.mergeTok 234), Value.str (Str.ofString "<227>") (P.mergeTok 235), Value.str (Str.ofString "<228>") (P.mergeTok 236), Value.str (Str.ofString "<229>") (P.mergeTok 237), Value.str (Str.ofString "<230>") (P.mergeTok 238), Value.str (Str.ofString "<231>") (P.mergeTok 239), Value.str (Str.ofString "<232>") (P.mergeTok 240), Value.str (Str.ofString "<233>") (P.mergeTok 241), Value.str (Str.ofString "<234>") (P.mergeTok 242), Value.str (Str.ofString "<235>") (P.mergeTok 243), Value.str (Str.ofString "INSTRUMENTED_RESUME") (P.mergeTok 244), Value.str (Str.ofString "INSTRUMENTED_END_FOR") (P.mergeTok 245), Value.str (Str.ofString "INSTRUMENTED_END_SEND") (P.mergeTok 246), Value.str (Str.ofString "INSTRUMENTED_RETURN_VALUE") (P.mergeTok 247), Value.str (Str.ofString "INSTRUMENTED_RETURN_CONST") (P.mergeTok 248), Value.str (Str.ofString "INSTRUMENTED_YIELD_VALUE") (P.mergeTok 249), Value.str (Str.ofString "INSTRUMENTED_LOAD_SUPER_ATTR") (P.mergeTok 250), Value.str (Str.ofString "INSTRUMENTED_FOR_ITER") (P.mergeTok 251), Value.str (Str.ofString "INSTRUMENTED_CALL") (P.mergeTok 252), Value.str (Str.ofString "INSTRUMENTED_CALL_KW") (P.mergeTok 253), Value.str (Str.ofString "INSTRUMENTED_CALL_FUNCTION_EX") (P.mergeTok 254), Value.str (Str.ofString "INSTRUMENTED_INSTRUCTION") (P.mergeTok 255), Value.str (Str.ofString "INSTRUMENTED_JUMP_FORWARD") (P.mergeTok 256), Value.str (Str.ofString "INSTRUMENTED_JUMP_BACKWARD") (P.mergeTok 257), Value.str (Str.ofString "INSTRUMENTED_POP_JUMP_IF_TRUE") (P.mergeTok 258), Value.str (Str.ofString "INSTRUMENTED_POP_JUMP_IF_FALSE") (P.mergeTok 259), Value.str (Str.ofString "INSTRUMENTED_POP_JUMP_IF_NONE") (P.mergeTok 260), Value.str (Str.ofString "INSTRUMENTED_POP_JUMP_IF_NOT_NONE") (P.mergeTok 261), Value.str (Str.ofString "INSTRUMENTED_LINE") (P.mergeTok 262), Value.str (Str.ofString "<255>") (P.mergeTok 263), Value.str (Str.ofString "JUMP") (P.mergeTok 264), Value.str (Str.ofString "JUMP_NO_INTERRUPT") (P.mergeTok 265), Value.str (Str.ofString "LOAD_CLOSURE") (P.mergeTok 266), Value.str (Str.ofString "LOAD_METHOD") (P.mergeTok 267), Value.str (Str.ofString "LOAD_SUPER_METHOD") (P.mergeTok 268), Value.str (Str.ofString "LOAD_ZERO_SUPER_ATTR") (P.mergeTok 269), Value.str (Str.ofString "LOAD_ZERO_SUPER_METHOD") (P.mergeTok 270), Value.str (Str.ofString "POP_BLOCK") (P.mergeTok 271), Value.str (Str.ofString "SETUP_CLEANUP") (P.mergeTok 272), Value.str (Str.ofString "SETUP_FINALLY") (P.mergeTok 273), Value.str (Str.ofString "SETUP_WITH") (P.mergeTok 274), Value.str (Str.ofString "STORE_FAST_MAYBE_NULL") (P.mergeTok 275)] 268),
    (nat_lit 644, (PySem.Obj.mk (PySem.Value.type "code") none (PySem.Data.fields #[(PySem.Value.str (Str.ofString "_is_backward_jump") ((P.mergeTok 7) + 2)), (PySem.Value.str (Str.ofString "_is_backward_jump") ((P.mergeTok 7) + 3)), (PySem.Value.str (Str.ofString "/claim/cut.py") ((P.mergeTok 7) + 4)), (PySem.Value.int 7 0), (PySem.Value.int 1 0), (PySem.Value.int 0 0), (PySem.Value.int 0 0), (PySem.Value.int 3 0), (PySem.Value.ref 639), (PySem.Value.bool true), (PySem.Value.int 181 0), (PySem.Value.ref 640), PySem.Value.none, (PySem.Value.ref 641), (PySem.Value.ref 642), (PySem.Value.ref 643), (PySem.Value.int (Int.ofNat ((P.mergeTok 7) + 6)) 0), (PySem.Value.int 7 0), (PySem.Value.str (Str.ofString "/claim/cut.py") ((P.mergeTok 7) + 7))]) #[])),
    (nat_lit 645, (PySem.Obj.mk (PySem.Value.type "function") none (PySem.Data.func (PySem.FuncData.mk (Str.ofString "_is_backward_jump") (Str.ofString "_is_backward_jump") p5 (.stmts [s50]) c5 3 [] PySem.Value.none PySem.Value.none PySem.Value.none (PySem.Value.str (Str.ofString "cpy313.dis") ((P.mergeTok 7) + 0)) none (PySem.Value.ref 644) PySem.Value.none 0)) #[])),
    (nat_lit 651, (PySem.Obj.mk (PySem.Value.type "code") none (PySem.Data.fields #[(PySem.Value.str (Str.ofString "_law_ring") ((P.mergeTok 7) + 11)), (PySem.Value.str (Str.ofString "_law_ring") ((P.mergeTok 7) + 12)), (PySem.Value.str (Str.ofString "/claim/cut.py") ((P.mergeTok 7) + 13)), (PySem.Value.int 10 0), (PySem.Value.int 1 0), (PySem.Value.int 0 0), (PySem.Value.int 0 0), (PySem.Value.int 3 0), (PySem.Value.ref 646), (PySem.Value.bool true), (PySem.Value.int 181 0), (PySem.Value.ref 647), PySem.Value.none, (PySem.Value.ref 648), (PySem.Value.ref 649), (PySem.Value.ref 650), (PySem.Value.int (Int.ofNat ((P.mergeTok 7) + 17)) 0), (PySem.Value.int 10 0), (PySem.Value.str (Str.ofString "/claim/cut.py") ((P.mergeTok 7) + 18))]) #[])),
    (nat_lit 652, (PySem.Obj.mk (PySem.Value.type "function") none (PySem.Data.func (PySem.FuncData.mk (Str.ofString "_law_ring") (Str.ofString "_law_ring") p7 (.stmts [s70, s71, s72]) c7 3 [] PySem.Value.none PySem.Value.none PySem.Value.none (PySem.Value.str (Str.ofString "law_rs0004_01") ((P.mergeTok 7) + 9)) none (PySem.Value.ref 651) PySem.Value.none 0)) #[])),
    (nat_lit 658, (PySem.Obj.mk (PySem.Value.type "code") none (PySem.Data.fields #[(PySem.Value.str (Str.ofString "_law_steps_told") ((P.mergeTok 7) + 20)), (PySem.Value.str (Str.ofString "_law_steps_told") ((P.mergeTok 7) + 21)), (PySem.Value.str (Str.ofString "/claim/cut.py") ((P.mergeTok 7) + 22)), (PySem.Value.int 18 0), (PySem.Value.int 1 0), (PySem.Value.int 0 0), (PySem.Value.int 0 0), (PySem.Value.int 3 0), (PySem.Value.ref 653), (PySem.Value.bool true), (PySem.Value.int 181 0), (PySem.Value.ref 654), PySem.Value.none, (PySem.Value.ref 655), (PySem.Value.ref 656), (PySem.Value.ref 657), (PySem.Value.int (Int.ofNat ((P.mergeTok 7) + 27)) 0), (PySem.Value.int 18 0), (PySem.Value.str (Str.ofString "/claim/cut.py") ((P.mergeTok 7) + 28))]) #[])),
    (nat_lit 659, (PySem.Obj.mk (PySem.Value.type "function") none (PySem.Data.func (PySem.FuncData.mk (Str.ofString "_law_steps_told") (Str.ofString "_law_steps_told") p8 (.stmts [s80, s81, s82]) c8 3 [] PySem.Value.none PySem.Value.none PySem.Value.none (PySem.Value.str (Str.ofString "law_rs0004_01") ((P.mergeTok 7) + 9)) none (PySem.Value.ref 658) PySem.Value.none 0)) #[])),
    (nat_lit 665, (PySem.Obj.mk (PySem.Value.type "code") none (PySem.Data.fields #[(PySem.Value.str (Str.ofString "_law_never_back") ((P.mergeTok 7) + 30)), (PySem.Value.str (Str.ofString "_law_never_back") ((P.mergeTok 7) + 31)), (PySem.Value.str (Str.ofString "/claim/cut.py") ((P.mergeTok 7) + 32)), (PySem.Value.int 26 0), (PySem.Value.int 1 0), (PySem.Value.int 0 0), (PySem.Value.int 0 0), (PySem.Value.int 3 0), (PySem.Value.ref 660), (PySem.Value.bool true), (PySem.Value.int 181 0), (PySem.Value.ref 661), PySem.Value.none, (PySem.Value.ref 662), (PySem.Value.ref 663), (PySem.Value.ref 664), (PySem.Value.int (Int.ofNat ((P.mergeTok 7) + 39)) 0), (PySem.Value.int 26 0), (PySem.Value.str (Str.ofString "/claim/cut.py") ((P.mergeTok 7) + 40))]) #[])),
    (nat_lit 666, (PySem.Obj.mk (PySem.Value.type "function") none (PySem.Data.func (PySem.FuncData.mk (Str.ofString "_law_never_back") (Str.ofString "_law_never_back") p9 (.stmts [s90, s91, s92]) c9 3 [] PySem.Value.none PySem.Value.none PySem.Value.none (PySem.Value.str (Str.ofString "law_rs0004_01") ((P.mergeTok 7) + 9)) none (PySem.Value.ref 665) PySem.Value.none 0)) #[])),
    (nat_lit 672, (PySem.Obj.mk (PySem.Value.type "code") none (PySem.Data.fields #[(PySem.Value.str (Str.ofString "_law_places") ((P.mergeTok 7) + 42)), (PySem.Value.str (Str.ofString "_law_places") ((P.mergeTok 7) + 43)), (PySem.Value.str (Str.ofString "/claim/cut.py") ((P.mergeTok 7) + 44)), (PySem.Value.int 36 0), (PySem.Value.int 1 0), (PySem.Value.int 0 0), (PySem.Value.int 0 0), (PySem.Value.int 3 0), (PySem.Value.ref 667), (PySem.Value.bool true), (PySem.Value.int 181 0), (PySem.Value.ref 668), PySem.Value.none, (PySem.Value.ref 669), (PySem.Value.ref 670), (PySem.Value.ref 671), (PySem.Value.int (Int.ofNat ((P.mergeTok 7) + 50)) 0), (PySem.Value.int 36 0), (PySem.Value.str (Str.ofString "/claim/cut.py") ((P.mergeTok 7) + 51))]) #[])),
    (nat_lit 673, (PySem.Obj.mk (PySem.Value.type "function") none (PySem.Data.func (PySem.FuncData.mk (Str.ofString "_law_places") (Str.ofString "_law_places") p10 (.stmts [s100, s101, s102]) c10 3 [] PySem.Value.none PySem.Value.none PySem.Value.none (PySem.Value.str (Str.ofString "law_rs0004_01") ((P.mergeTok 7) + 9)) none (PySem.Value.ref 672) PySem.Value.none 0)) #[])),
    (nat_lit 677, (PySem.Obj.mk (PySem.Value.type "code") none (PySem.Data.fields #[(PySem.Value.str (Str.ofString "law") ((P.mergeTok 7) + 53)), (PySem.Value.str (Str.ofString "law") ((P.mergeTok 7) + 54)), (PySem.Value.str (Str.ofString "/claim/cut.py") ((P.mergeTok 7) + 55)), (PySem.Value.int 42 0), (PySem.Value.int 1 0), (PySem.Value.int 0 0), (PySem.Value.int 0 0), (PySem.Value.int 3 0), (PySem.Value.ref 674), (PySem.Value.bool true), (PySem.Value.int 181 0), (PySem.Value.ref 675), PySem.Value.none, PySem.Value.none, PySem.Value.none, (PySem.Value.ref 676), (PySem.Value.int (Int.ofNat ((P.mergeTok 7) + 56)) 0), (PySem.Value.int 42 0), (PySem.Value.str (Str.ofString "/claim/cut.py") ((P.mergeTok 7) + 57))]) #[])),
    (nat_lit 678, (PySem.Obj.mk (PySem.Value.type "function") none (PySem.Data.func (PySem.FuncData.mk (Str.ofString "law") (Str.ofString "law") p11 (.stmts [s110, s111, s112, s113, s114, s115]) c11 3 [] PySem.Value.none PySem.Value.none PySem.Value.none (PySem.Value.str (Str.ofString "law_rs0004_01") ((P.mergeTok 7) + 9)) none (PySem.Value.ref 677) PySem.Value.none 0)) #[]))] : List (Nat × Obj)))
    _ _ _ _ _ _ _ _ _ _ _ _ _ _ _ _ _ _ _ _ _ _ _ _ _ _ _ _ _ _ _ _ _ _ _ _ _ _ _ _ _ _ _ _ _ _ _ _ _ rfl rfl rfl rfl rfl rfl
end Mine
end
section
open PySem PySem.W PyProof.Rows PySem.Calls
namespace Mine
def tokAt (items : Array Value) (i : Nat) : Nat := match items[i]? with
  | some (.str _ t) => t
  | _ => 0
def tokf (t0 t1 t2 ta tb u v T : Nat) (f : Nat → Nat) : Nat → Nat
  | 0 => t0
  | 1 => t1
  | 2 => t2
  | 3 => ta
  | 4 => tb
  | 5 => u
  | 6 => v
  | 7 => T
  | n + 8 => f n
def finals : List Str := setAll marks pairs
noncomputable def paramsOf (P : Params) (t0 t1 t2 ta tb u v T : Nat) (f : Nat → Nat) : Params := { P with mergeTok := tokf t0 t1 t2 ta tb u v T f }
def itemsOf (f : Nat → Nat) : Array Value := ((List.range 268).map fun i => Value.str (finals.getD i Str.empty) (f i)).toArray
theorem items_are {items : Array Value} (h : items.toList.map strOf = finals.map some) : items = itemsOf (tokAt items) := by
  have hl : finals.length = 268 := by unfold finals; rw [setAll_length, marks_len]
  have hs : items.size = 268 := by
    have := congrArg List.length h
    simp only [List.length_map, hl] at this
    simpa using this
  apply Array.ext
  · unfold itemsOf; simp [hs]
  · intro i h1 h2
    have hi : i < finals.length := by rw [hl, ← hs]; exact h1
    have e : (items.toList.map strOf)[i]? = (finals.map some)[i]? := by rw [h]
    rw [List.getElem?_map, List.getElem?_map, List.getElem?_eq_getElem hi, Array.getElem?_toList, Array.getElem?_eq_getElem h1] at e
    simp only [Option.map_some, Option.some.injEq] at e
    unfold itemsOf
    simp only [List.getElem_toArray, List.getElem_map, List.getElem_range, List.getD_eq_getElem?_getD, List.getElem?_eq_getElem hi, Option.getD_some]
    unfold tokAt
    rw [Array.getElem?_eq_getElem h1]
    revert e
    cases items[i] with
    | str x t => intro e; rw [← Option.some.inj e]
    | _ => intro e; cases e
def addrs : List Addr := [2, 3, 6, 31, 644, 645, 651, 652, 658, 659, 665, 666, 672, 673, 677, 678]
theorem addrs_are (P : Params) : addrs = (Kw P).map (·.1) := by kernel_rfl
theorem objs_are (P : Params) (t0 t1 t2 ta tb u v T : Nat) (oD : Obj) (f : Nat → Nat) :
    addrs.map (fun a => look a (ended P t0 t1 t2 ta tb u v T oD (listOf (itemsOf f) 268))) = (Kw (paramsOf P t0 t1 t2 ta tb u v T f)).map (fun p => some p.2) := by kernel_rfl
/-- the objects that the walk reads stand -/
def KnownBy (_ : World) (h : Heap) : Prop := ∃ P, (Kw P).In h
theorem known_of {w : World} {s : Shared} (hL : LeftBy w s) : KnownBy w s.heap := by
  obtain ⟨oD, items, t0, t1, t2, ta, tb, u, v, T, hi, hA⟩ := hL
  have e := items_are hi
  refine ⟨paramsOf w.params t0 t1 t2 ta tb u v T (tokAt items), Frag.in_of (addrs_are _) ?_⟩
  rw [← objs_are w.params t0 t1 t2 ta tb u v T oD (tokAt items), ← e]
  have key : ∀ (as : List Addr) (os : List (Addr × Obj)), as.map (fun a => look a (ended w.params t0 t1 t2 ta tb u v T oD (listOf items 268))) = os.map (fun p => some p.2) → as.map s.heap.get? = as.map (fun a => look a (ended w.params t0 t1 t2 ta tb u v T oD (listOf items 268))) := by
    intro as
    induction as with
    | nil => intro _ _; rfl
    | cons a as ih =>
      intro os h
      cases os with
      | nil => cases h
      | cons p os =>
        simp only [List.map_cons, List.cons.injEq] at h ⊢
        exact ⟨by rw [h.1]; exact hA.has a p.2 h.1, ih os h.2⟩
  refine key _ (Kw (paramsOf w.params t0 t1 t2 ta tb u v T (tokAt items))) ?_
  have := objs_are w.params t0 t1 t2 ta tb u v T oD (tokAt items)
  rw [← e] at this
  exact this
theorem behindK : BehindO pg qv loose (XL qv []) KnownBy := fun w => ⟨(behind w).1, fun s hs => by
  obtain ⟨s₀, a, b, s₁, c, d, e, f, g, hL⟩ := (behind w).2 s hs
  exact ⟨s₀, a, b, s₁, c, d, e, f, g, known_of hL⟩⟩
theorem known_keeps (w : World) (h h' : Heap) (x : KnownBy w h) (k : ∀ b o, h.get? b = some o → h'.get? b = some o) : KnownBy w h' := let ⟨P, y⟩ := x; ⟨P, Frag.In.keeps y k⟩
end Mine
end
section
open PySem PySem.W PyProof.Rows PySem.Calls PyProof.V PySem.Spec
namespace Mine
section
variable {prog : Program} {w : World} {A : Around} {E : Value → Shared → Prop} {s : Shared} {env : Env} {h₀ : Heap} {target : Expr} {body : List Stmt} {Q : Flow → Shared → Prop}
/-- a loop with any target over a list of the call's own, by an invariant -/
theorem turns_list {l : Addr} {vs : List Value} {nn : Nat} {m₀ : Str → Option Value} {news : List (Addr × Obj)} (J : Nat → (Str → Option Value) → List (Addr × Obj) → Prop)
    (hh : A.handled = none) (hl : (l, W.listOf vs.toArray nn) ∈ news) (F : Fr h₀ env.locals s.heap m₀) (N : News h₀ env.locals s.heap news) (hj : J 0 m₀ news)
    (hkeep : ∀ i m nx, J i m nx → (l, W.listOf vs.toArray nn) ∈ nx)
    (turn : ∀ i v m₁ news₁ h tk own, vs[i]? = some v → OwnOff own (news₁.map (·.1)) → J i m₁ news₁ → Fr h₀ env.locals h m₁ → News h₀ env.locals h (news₁ ++ own) →
      wpAny (model prog w) A (assign target env v) (fun _ s₃ => wpAny (model prog w) A (execs body env) (InvPostG h₀ env.locals (J (i + 1)) own { s with heap := h, toks := tk } Q) E s₃) E { s with heap := h, toks := tk })
    (done : ∀ m₁ news₁ h tk, J vs.length m₁ news₁ → Fr h₀ env.locals h m₁ → News h₀ env.locals h news₁ → Q .next { s with heap := h, toks := tk }) :
    wpAny (model prog w) A (pyIter (.ref l)) (fun it s₂ => TurnsAt prog w A h₀ env target body Q E it s₂) E s := by
  have hol : s.heap.get? l = some (W.listOf vs.toArray nn) := (N _ hl).1
  have hls : s.heap.IsList l vs.toArray := ⟨_, hol, rfl, nn, rfl⟩
  have hne : l ≠ s.heap.objs.size := Nat.ne_of_lt (Heap.lt_size hol)
  refine wpAny_pyIter_list hls ?_
  have hlen : vs.toArray.size = vs.length := by simp
  have T := KTurns.ofWalks (target := target) (Walks.list (prog := prog) (w := w) hh s.heap.objs.size l hne vs.toArray) fun i v s Q E st q => letGo_listiter st.1 q
  rw [hlen] at T
  refine ⟨_, _, _, vs.length, _, _, _, m₀, news, J, rfl, T, ?_, ?_, ?_, ⟨⟨_, Heap.get?_push_size _ rfl, rfl, rfl⟩, hls.at fun o e => Heap.get?_push_of_some _ e⟩, F.push _, (fun p hp => ⟨Heap.get?_push_of_some _ (N p hp).1, (N p hp).2⟩), hj, ?_, ?_⟩
  · intro hm
    rcases List.mem_cons.mp hm with e | hm
    · exact absurd F.ns.lt (e ▸ Nat.lt_irrefl _)
    · exact (N _ hl).2.1 (List.mem_singleton.mp hm).symm
  · intro b hb
    rw [List.mem_singleton.mp hb]
    exact next_is_new F
  · intro p hp hI
    exact absurd (Heap.lt_size (N p hp).1) ((List.mem_singleton.mp hI) ▸ Nat.lt_irrefl _)
  · intro i v m₁ news₁ h₁ tk₁ own hin hP hJ hoff hown hget hall hst F₁ N₁
    have hP' : vs[i]? = some v := by simpa using hP
    have hI0 : h₀.get? s.heap.objs.size = none := next_is_new F
    obtain ⟨⟨oI, hoI, _⟩, _⟩ := id hst
    have hl₁ := hkeep _ _ _ hJ
    have hIo : (s.heap.objs.size, oI) ∈ own := hall _ (List.mem_cons.mpr (.inl rfl)) hI0 _ hoI
    -- the iterator alone is the turn's own; the list stays on the ledger
    have hIown : (s.heap.objs.size, oI) ∈ own.filter fun p => decide (p.1 = s.heap.objs.size) := List.mem_filter.mpr ⟨hIo, by simp⟩
    have hsep : OwnOff (own.filter fun p => decide (p.1 = s.heap.objs.size)) (news₁.map (·.1)) := by
      intro p hp b hb e
      obtain ⟨q, hq, rfl⟩ := List.mem_map.mp hb
      have h1 : p.1 = s.heap.objs.size := by simpa using (List.mem_filter.mp hp).2
      exact hoff q hq (List.mem_singleton.mpr (e ▸ h1))
    have N₂ : News h₀ env.locals h₁ (news₁ ++ own.filter fun p => decide (p.1 = s.heap.objs.size)) := fun p hp => N₁ p ((List.mem_append.mp hp).elim (fun h => List.mem_append.mpr (.inr h)) fun h => List.mem_append.mpr (.inl (List.mem_filter.mp h).1))
    have hlo : h₁.get? l = some (W.listOf vs.toArray nn) := (N₁ _ (List.mem_append.mpr (.inr hl₁))).1
    refine wpAny_mono (turn i v m₁ news₁ h₁ tk₁ _ hP' hsep hJ F₁ N₂) (fun _ s₃ q => wpAny_mono q (fun f s₂ p => ?_) fun _ _ e => e) fun _ _ e => e
    have fin : InvEndG h₀ env.locals (J (i + 1)) (own.filter fun p => decide (p.1 = s.heap.objs.size)) { s with heap := h₁, toks := tk₁ } s₂ →
        LoopStepU h₀ env.locals [s.heap.objs.size] own (J (i + 1)) { s with heap := h₁, toks := tk₁ } .next s₂ := by
      rintro ⟨h', tk, m', news', nx, e, F', N', hn, ho, ha, hm⟩
      refine ⟨rfl, h', tk, m', nx, e, F', fun p hp => ?_, fun p hp hq => ?_, hm⟩
      · rcases List.mem_append.mp hp with h | h
        · by_cases hI : p.1 = s.heap.objs.size
          · exact N' p (ho p (List.mem_filter.mpr ⟨h, by simpa using hI⟩))
          · have h1 : p.1 = l := by
              rcases List.mem_cons.mp (hown p h) with h2 | h2
              · exact absurd h2 hI
              · exact List.mem_singleton.mp h2
            have h2 : h₁.get? p.1 = some p.2 := hget p h
            rw [h1, hlo] at h2
            have h3 : p = (l, W.listOf vs.toArray nn) := Prod.ext h1 (Option.some.inj h2).symm
            rw [h3]
            exact N' _ (hn _ (hkeep _ _ _ hm))
        · exact N' p (hn p h)
      · exact ha _ hIown p.1 (List.mem_map.mpr ⟨p, hp, rfl⟩) (List.mem_singleton.mp hq).symm
    cases f with
    | ret v => exact LoopStepV.ret p
    | brk => exact LoopStepV.brk p
    | next => exact LoopStepV.next (fin p)
    | cont => exact LoopStepV.cont (fin p)
  · intro h' tk m' news' F' N' _ hJ
    exact done m' news' h' tk hJ F' N'
/-- what holds between two turns of a loop that fills one list of ints -/
def TupJ (l : Addr) (cst : List (Addr × Obj)) (x : Str) (stored : List Str) (m₀ : Str → Option Value) (P : List Dat → List Int → Prop) (pre : List Dat) (m : Str → Option Value) (nx : List (Addr × Obj)) : Prop :=
  ∃ us ns n, nx = (l, W.listOf us.toArray n) :: cst ∧ IntsAre us ns ∧ (∀ z, z ≠ x → stored.contains z = false → m z = m₀ z) ∧ P pre ns
theorem tup_end {L l : Addr} {cst own news' : List (Addr × Obj)} {x : Str} {stored : List Str} {m₀ m' : Str → Option Value} {P : List Dat → List Int → Prop} {pre : List Dat} {us : List Value} {ns : List Int} {n : Nat} {s₁ : Shared} {h' : Heap} {tk : Nat}
    (hoff : OwnOff own (l :: cst.map (·.1))) (F : Fr h₀ L h' m') (N : News h₀ L h' news') (hl : (l, W.listOf us.toArray n) ∈ news') (hc : ∀ p ∈ cst, p ∈ news') (ho : ∀ p ∈ own, p ∈ news') (hi : IntsAre us ns)
    (hm : ∀ z, z ≠ x → (∀ p ∈ ([] : List (Str × Value)), z ≠ p.1) → stored.contains z = false → m' z = m₀ z) (hp : P pre ns) : InvEndG h₀ L (TupJ l cst x stored m₀ P pre) own s₁ { s₁ with heap := h', toks := tk } :=
  ⟨h', tk, m', news', _, rfl, F, N, List.forall_mem_cons.mpr ⟨hl, hc⟩, ho, hoff, us, ns, n, rfl, hi, fun z a b => hm z a (fun _ h => nomatch h) b, hp⟩
/-- a turn's end: the list stands first, or behind one object of the turn's own -/
theorem tup_end0 {L l : Addr} {cst own : List (Addr × Obj)} {x : Str} {stored : List Str} {m₀ m' : Str → Option Value} {P : List Dat → List Int → Prop} {pre : List Dat} {us : List Value} {ns : List Int} {n : Nat} {s₁ : Shared} {h' : Heap} {tk : Nat}
    (N : News h₀ L h' ((l, W.listOf us.toArray n) :: (cst ++ own))) (hoff : OwnOff own (l :: cst.map (·.1))) (F : Fr h₀ L h' m') (hi : IntsAre us ns)
    (hm : ∀ z, z ≠ x → (∀ p ∈ ([] : List (Str × Value)), z ≠ p.1) → stored.contains z = false → m' z = m₀ z) (hp : P pre ns) : InvEndG h₀ L (TupJ l cst x stored m₀ P pre) own s₁ { s₁ with heap := h', toks := tk } :=
  tup_end hoff F N (List.mem_cons_self ..) (fun _ hp => List.mem_cons_of_mem _ (List.mem_append_left _ hp)) (fun _ hp => List.mem_cons_of_mem _ (List.mem_append_right _ hp)) hi hm hp
theorem tup_end1 {L l : Addr} {y : Addr × Obj} {cst own : List (Addr × Obj)} {x : Str} {stored : List Str} {m₀ m' : Str → Option Value} {P : List Dat → List Int → Prop} {pre : List Dat} {us : List Value} {ns : List Int} {n : Nat} {s₁ : Shared} {h' : Heap} {tk : Nat}
    (N : News h₀ L h' (y :: (l, W.listOf us.toArray n) :: (cst ++ own))) (hoff : OwnOff own (l :: cst.map (·.1))) (F : Fr h₀ L h' m') (hi : IntsAre us ns)
    (hm : ∀ z, z ≠ x → (∀ p ∈ ([] : List (Str × Value)), z ≠ p.1) → stored.contains z = false → m' z = m₀ z) (hp : P pre ns) : InvEndG h₀ L (TupJ l cst x stored m₀ P pre) own s₁ { s₁ with heap := h', toks := tk } :=
  tup_end0 (fun p hp => N p (List.mem_cons_of_mem _ hp)) hoff F hi hm hp
/-- a loop with any target over a list of data, that fills one list of ints (the newest object of the ledger) -/
theorem turns_data {r l : Addr} {us vs : List Value} {ns : List Int} {ds : List Dat} {nr nn : Nat} {m₀ : Str → Option Value} {cst : List (Addr × Obj)} {adr : List Addr} (x : Str) (stored : List Str) (P : List Dat → List Int → Prop)
    (hh : A.handled = none) (F : Fr h₀ env.locals s.heap m₀) (N : News h₀ env.locals s.heap ((l, W.listOf us.toArray nn) :: cst)) (hr : (r, W.listOf vs.toArray nr) ∈ cst) (hd : DatAll cst vs ds) (hi : IntsAre us ns)
    (hadr : l :: cst.map (·.1) = adr) (hp : P [] ns)
    (turn : ∀ us ns n pre d post v (u : Str → Option Value) h tk own, ds = pre ++ d :: post → d ∈ ds → DatIn cst v d → OwnOff own (l :: cst.map (·.1)) → OwnOff own adr → IntsAre us ns → P pre ns →
      Fr h₀ env.locals h (fun y => if y = x then u y else if stored.contains y then u y else m₀ y) → News h₀ env.locals h ((l, W.listOf us.toArray n) :: (cst ++ own)) →
      wpAny (model prog w) A (assign target env v) (fun _ s₃ => wpAny (model prog w) A (execs body env)
        (InvPostG h₀ env.locals (TupJ l cst x stored m₀ P (pre ++ [d])) own { s with heap := h, toks := tk } Q) E s₃) E { s with heap := h, toks := tk })
    (done : ∀ us ns n (u : Str → Option Value) h tk, IntsAre us ns → P ds ns → Fr h₀ env.locals h (fun y => if y = x then u y else if stored.contains y then u y else m₀ y) → News h₀ env.locals h ((l, W.listOf us.toArray n) :: cst) → Q .next { s with heap := h, toks := tk }) :
    wpAny (model prog w) A (pyIter (.ref r)) (fun it s₂ => TurnsAt prog w A h₀ env target body Q E it s₂) E s := by
  have hlen : vs.length = ds.length := hd.length
  have fr : ∀ {h : Heap} {m₁ : Str → Option Value}, (∀ z, z ≠ x → stored.contains z = false → m₁ z = m₀ z) → Fr h₀ env.locals h m₁ →
      Fr h₀ env.locals h (fun y => if y = x then m₁ y else if stored.contains y then m₁ y else m₀ y) := by
    intro h m₁ h2 F₁
    have e : (fun y => if y = x then m₁ y else if stored.contains y then m₁ y else m₀ y) = m₁ := by
      funext y
      by_cases hx : y = x
      · rw [if_pos hx]
      · rw [if_neg hx]
        cases hs : stored.contains y with
        | true => rfl
        | false => exact (h2 y hx hs).symm
    rw [e]; exact F₁
  refine turns_list (nn := nr) (vs := vs) (fun i m nx => TupJ l cst x stored m₀ P (ds.take i) m nx)
    hh (List.mem_cons_of_mem _ hr) F N ⟨us, ns, nn, rfl, hi, fun _ _ _ => rfl, by simpa using hp⟩ ?_ ?_ ?_
  · rintro i m nx ⟨us', ns', n', rfl, _⟩
    exact List.mem_cons_of_mem _ hr
  · rintro i v m₁ nx h tk own hv hoff ⟨us', ns', n', rfl, hf', h2, hp'⟩ F₁ N₁
    have hi' : i < ds.length := by rw [← hlen]; exact (List.getElem?_eq_some_iff.mp hv).1
    obtain ⟨v', hv', hD⟩ := hd.get hi'
    have ev : v' = v := by rw [hv] at hv'; exact (Option.some.inj hv').symm
    rw [ev] at hD
    have hs : ds.take (i + 1) = ds.take i ++ [ds[i]'hi'] := by rw [List.take_add_one, List.getElem?_eq_getElem hi'] <;> rfl
    have e : ds = ds.take i ++ (ds[i]'hi') :: ds.drop (i + 1) := by
      have h9 := List.take_append_drop (i + 1) ds
      rw [hs, List.append_assoc] at h9
      exact h9.symm
    rw [hs]
    exact turn us' ns' n' _ _ _ v m₁ h tk own e (List.getElem_mem hi') hD hoff (hadr ▸ hoff) hf' hp' (fr h2 F₁) N₁
  · rintro m₁ nx h tk ⟨us', ns', n', rfl, hf', h2, hp'⟩ F₁ N₁
    rw [hlen, List.take_length] at hp'
    exact done us' ns' n' m₁ h tk hf' hp' (fr h2 F₁) N₁
end
mutual
theorem datIn_turn {news news' : List (Addr × Obj)} (hs : ∀ p ∈ news, p ∈ news' ∨ ∃ v, p.2.data = .cell v) : ∀ {v : Value} {d : Dat}, DatIn news v d → DatIn news' v d
  | _, _, .none => .none
  | _, _, .bool b => .bool b
  | _, _, .int i t => .int i t
  | _, _, .str x t => .str x t
  | _, _, .bytes b t => .bytes b t
  | _, _, .tuple h r => (hs _ h).elim (fun q => .tuple q (datAll_turn hs r)) fun ⟨_, q⟩ => nomatch q
  | _, _, .list h r => (hs _ h).elim (fun q => .list q (datAll_turn hs r)) fun ⟨_, q⟩ => nomatch q
theorem datAll_turn {news news' : List (Addr × Obj)} (hs : ∀ p ∈ news, p ∈ news' ∨ ∃ v, p.2.data = .cell v) : ∀ {vs : List Value} {ds : List Dat}, DatAll news vs ds → DatAll news' vs ds
  | _, _, .nil => .nil
  | _, _, .cons h r => .cons (datIn_turn hs h) (datAll_turn hs r)
end
end Mine
end
section
namespace Mine
section
variable (a : List Int)
/-- the ring read on and on -/
def per (j : Nat) : Int := a.getD (j % a.length) 0
def lift : Nat → Int
  | 0 => 0
  | j + 1 => lift j + per a j
theorem lift_add (j : Nat) : lift a (j + a.length) = lift a j + lift a a.length := by
  induction j with
  | zero => simp [lift]
  | succ j ih =>
    have e : j + 1 + a.length = (j + a.length) + 1 := by omega
    rw [e]
    show lift a (j + a.length) + per a (j + a.length) = lift a j + per a j + lift a a.length
    rw [ih]
    unfold per
    rw [Nat.add_mod_right]
    omega
theorem lift_mul (j m : Nat) : lift a (j + m * a.length) = lift a j + m * lift a a.length := by
  induction m with
  | zero => simp
  | succ m ih =>
    have e : j + (m + 1) * a.length = (j + m * a.length) + a.length := by rw [Nat.add_mul]; omega
    rw [e, lift_add, ih]
    have : ((m + 1 : Nat) : Int) * lift a a.length = m * lift a a.length + lift a a.length := by
      rw [Int.natCast_add, Int.add_mul]; simp
    rw [this]; omega
theorem lift_take {k : Nat} (h : k ≤ a.length) : (a.take k).sum = lift a k := by
  induction k with
  | zero => rfl
  | succ k ih =>
    have hk : k < a.length := h
    rw [List.take_add_one, List.sum_append, ih (by omega)]
    show lift a k + (a[k]?.toList).sum = lift a k + per a k
    unfold per
    rw [Nat.mod_eq_of_lt hk, List.getElem?_eq_getElem hk]
    simp [hk]
theorem lift_rot {i k : Nat} (hi : i < a.length) (h : k ≤ a.length) : ((a.drop i ++ a.take i).take k).sum = lift a (i + k) - lift a i := by
  induction k with
  | zero => simp
  | succ k ih =>
    have hk : k < a.length := h
    rw [List.take_add_one, List.sum_append, ih (by omega)]
    have hg : (a.drop i ++ a.take i)[k]? = some (per a (i + k)) := by
      unfold per
      by_cases hlt : k < a.length - i
      · rw [List.getElem?_append_left (by simpa using hlt), List.getElem?_drop, Nat.mod_eq_of_lt (by omega)]
        simp [show i + k < a.length by omega]
      · have hm : (i + k) % a.length = i + k - a.length := by
          rw [Nat.mod_eq_sub_mod (by omega), Nat.mod_eq_of_lt (by omega)]
        rw [List.getElem?_append_right (by simp; omega), hm, List.length_drop, List.getElem?_take]
        have e : k - (a.length - i) = i + k - a.length := by omega
        rw [e, if_pos (by omega)]
        simp [show i + k - a.length < a.length by omega]
    rw [hg]
    show lift a (i + k) - lift a i + [per a (i + k)].sum = lift a (i + k) + per a (i + k) - lift a i
    simp
    omega
/-- behind i nothing comes back -/
def Ahead (i : Nat) : Prop := ∀ j, i < j → lift a i < lift a j
def Once (i : Nat) : Prop := ∀ k, 0 < k → k ≤ a.length → lift a i < lift a (i + k)
theorem ahead_of_once {i : Nat} (hn : 0 < a.length) (hG : 0 < lift a a.length) (h : Once a i) : Ahead a i := by
  intro j
  induction j using Nat.strongRecOn with
  | ind j ih =>
    intro hij
    by_cases hj : j ≤ i + a.length
    · have := h (j - i) (by omega) (by omega)
      rwa [show i + (j - i) = j by omega] at this
    · have h1 := ih (j - a.length) (by omega) (by omega)
      have h2 := lift_add a (j - a.length)
      rw [show j - a.length + a.length = j by omega] at h2
      omega
theorem none_once {i : Nat} (hn : 0 < a.length) (hG : lift a a.length ≤ 0) : ¬ Once a i := by
  intro h
  have h1 := h a.length hn (Nat.le_refl _)
  rw [lift_add] at h1
  omega
theorem ahead_shift {i : Nat} (h : Ahead a i) (m : Nat) : Ahead a (i + m * a.length) := by
  intro j hj
  have h1 : i < j - m * a.length := by omega
  have h2 := h _ h1
  have h3 := lift_mul a (j - m * a.length) m
  rw [show j - m * a.length + m * a.length = j by omega] at h3
  rw [lift_mul, h3]
  omega
theorem ahead_unique {i j : Nat} (hi : Ahead a i) (hj : Ahead a j) (e : lift a i = lift a j) : i = j := by
  rcases Nat.lt_trichotomy i j with h | h | h
  · have := hi j h; omega
  · exact h
  · have := hj i h; omega
theorem inj_mod {i j : Nat} (hn : 0 < a.length) (hG : 0 < lift a a.length) (hi : i < a.length) (hj : j < a.length) (ai : Ahead a i) (aj : Ahead a j) (e : lift a i % lift a a.length = lift a j % lift a a.length) : i = j := by
  have key : ∀ {i j : Nat}, i < a.length → j < a.length → Ahead a i → Ahead a j → lift a i % lift a a.length = lift a j % lift a a.length → lift a i / lift a a.length ≤ lift a j / lift a a.length → i = j := by
    intro i j hi hj ai aj e hle
    obtain ⟨m, hm⟩ := Int.eq_ofNat_of_zero_le (show 0 ≤ lift a j / lift a a.length - lift a i / lift a a.length by omega)
    have e1 := Int.mul_ediv_add_emod (lift a i) (lift a a.length)
    have e2 := Int.mul_ediv_add_emod (lift a j) (lift a a.length)
    have e3 : lift a (i + m * a.length) = lift a j := by
      rw [lift_mul]
      have : lift a j / lift a a.length = lift a i / lift a a.length + m := by omega
      rw [this, Int.mul_add] at e2
      have : (m : Int) * lift a a.length = lift a a.length * m := Int.mul_comm _ _
      omega
    have e4 := ahead_unique a (ahead_shift a ai m) aj e3
    cases m with
    | zero => simpa using e4
    | succ m =>
      have : a.length ≤ (m + 1) * a.length := by rw [Nat.add_mul]; omega
      omega
  rcases Int.le_total (lift a i / lift a a.length) (lift a j / lift a a.length) with h | h
  · exact key hi hj ai aj e h
  · exact (key hj hi aj ai e.symm h).symm
theorem last_below {P : Nat → Prop} (dec : ∀ j, P j ∨ ¬ P j) : ∀ N, (∃ j, j ≤ N ∧ P j) → ∃ j, j ≤ N ∧ P j ∧ ∀ j', j < j' → j' ≤ N → ¬ P j'
  | 0, ⟨j, hj, hP⟩ => ⟨j, hj, hP, fun j' h1 h2 => by omega⟩
  | N + 1, ⟨j, hj, hP⟩ => by
    rcases dec (N + 1) with h | h
    · exact ⟨N + 1, Nat.le_refl _, h, fun j' h1 h2 => by omega⟩
    · have hj' : j ≤ N := by
        rcases Nat.lt_or_ge j (N + 1) with q | q
        · omega
        · have : j = N + 1 := by omega
          exact absurd (this ▸ hP) h
      obtain ⟨j₁, h1, h2, h3⟩ := last_below dec N ⟨j, hj', hP⟩
      refine ⟨j₁, by omega, h2, fun j' h4 h5 => ?_⟩
      rcases Nat.lt_or_ge j' (N + 1) with q | q
      · exact h3 j' h4 (by omega)
      · have : j' = N + 1 := by omega
        rw [this]; exact h
theorem lift_low (c : Nat) (hc : ∀ x ∈ a, -(c : Int) ≤ x) : ∀ j, -((c * j : Nat) : Int) ≤ lift a j
  | 0 => by simp [lift]
  | j + 1 => by
    have h1 := lift_low c hc j
    have h2 : -(c : Int) ≤ per a j := by
      unfold per
      rw [List.getD_eq_getElem?_getD]
      cases e : a[j % a.length]? with
      | none => simp
      | some x => simpa using hc x (List.mem_of_getElem? e)
    show -((c * (j + 1) : Nat) : Int) ≤ lift a j + per a j
    rw [Nat.mul_add]
    omega
theorem surj_mod (hn : 0 < a.length) (hG : 0 < lift a a.length) (h1 : ∀ x ∈ a, x ≤ 1) (c : Nat) (hc : ∀ x ∈ a, -(c : Int) ≤ x) {r : Int} (hr0 : 0 ≤ r) (hr : r < lift a a.length) :
    ∃ i, i < a.length ∧ Ahead a i ∧ lift a i % lift a a.length = r := by
  -- from some place on the ring lies above r
  have far : ∃ N, ∀ j, N ≤ j → r < lift a j := by
    refine ⟨(r.toNat + c * a.length + 1) * a.length, fun j hj => ?_⟩
    have e := Nat.mod_add_div j a.length
    have hq : r.toNat + c * a.length + 1 ≤ j / a.length := (Nat.le_div_iff_mul_le hn).mpr hj
    have hs : j % a.length < a.length := Nat.mod_lt _ hn
    have e2 : j = j % a.length + (j / a.length) * a.length := by rw [Nat.mul_comm]; exact e.symm
    have h3 := lift_mul a (j % a.length) (j / a.length)
    rw [← e2] at h3
    have h4 := lift_low a c hc (j % a.length)
    have h5 : c * (j % a.length) ≤ c * a.length := Nat.mul_le_mul_left _ (by omega)
    have h6 : ((j / a.length : Nat) : Int) ≤ ((j / a.length : Nat) : Int) * lift a a.length := by
      have := Int.mul_le_mul_of_nonneg_left (show (1 : Int) ≤ lift a a.length by omega) (show (0 : Int) ≤ ((j / a.length : Nat) : Int) by omega)
      simpa using this
    omega
  obtain ⟨N, hN⟩ := far
  obtain ⟨j, hj, hP, hlast⟩ := last_below (P := fun j => lift a j ≤ r) (fun j => by omega) N ⟨0, Nat.zero_le _, hr0⟩
  have above : ∀ j', j < j' → r < lift a j' := fun j' h => by
    rcases Nat.lt_or_ge j' (N + 1) with q | q
    · have := hlast j' h (by omega); omega
    · exact hN j' (by omega)
  have hstep : lift a (j + 1) ≤ lift a j + 1 := by
    show lift a j + per a j ≤ lift a j + 1
    have : per a j ≤ 1 := by
      unfold per
      rw [List.getD_eq_getElem?_getD]
      cases e : a[j % a.length]? with
      | none => simp
      | some x => simpa using h1 x (List.mem_of_getElem? e)
    omega
  have hnext := above (j + 1) (by omega)
  have hv : lift a j = r := by omega
  have e := Nat.mod_add_div j a.length
  have e2 : j = j % a.length + (j / a.length) * a.length := by rw [Nat.mul_comm]; exact e.symm
  refine ⟨j % a.length, Nat.mod_lt _ hn, fun j' hj' => ?_, ?_⟩
  · have h2 := above (j' + (j / a.length) * a.length) (by omega)
    have h3 := lift_mul a j' (j / a.length)
    have h4 := lift_mul a (j % a.length) (j / a.length)
    rw [← e2] at h4
    omega
  · have h4 := lift_mul a (j % a.length) (j / a.length)
    rw [← e2, hv] at h4
    have h5 : lift a (j % a.length) = r + lift a a.length * (-((j / a.length : Nat) : Int)) := by
      have : ((j / a.length : Nat) : Int) * lift a a.length = lift a a.length * ((j / a.length : Nat) : Int) := Int.mul_comm _ _
      rw [Int.mul_neg]; omega
    rw [h5, Int.add_mul_emod_self_left, Int.emod_eq_of_lt hr0 hr]
end
end Mine
end
section
open PySem PySem.W PyProof.Rows
namespace Mine
def octI (x : Int) : Int := if x.fmod 4 = 3 then 77 + (x.fdiv 4).fmod 2 else (x.fdiv 4).fmod 268
def farI (x : Int) : Int := if x.fmod 4 = 3 then (x.fdiv 8).fmod 4 else (x.fdiv 1072).fmod 4
def datOf (x : Int) : Dat := Dat.tuple [Dat.int (octI x), Dat.int (farI x)]
def datInt : Dat → Int | .int i => i | _ => 0
def octD : Dat → Int | .tuple (a :: _) => datInt a | _ => 0
def farD : Dat → Int | .tuple (_ :: b :: _) => datInt b | _ => 0
def stepD (d : Dat) : Int := 1 - (if octD d = 77 ∨ octD d = 78 then farD d else 0)
def placesD (pre : List Dat) : List Int := pre.foldl (fun ps d => ps ++ [ps.getLastD 0 + stepD d]) [0]
def ShapeD (d : Dat) : Prop := ∃ a b, d = Dat.tuple [Dat.int a, Dat.int b] ∧ 0 ≤ a ∧ a < 268 ∧ 0 ≤ b ∧ b ≤ 3
abbrev RingP (pre : List Int) (ring : List Dat) : Prop := ring = pre.map datOf ∧ ring.length = pre.length ∧ ∀ d ∈ ring, ∃ a b, d = Dat.tuple [Dat.int a, Dat.int b] ∧ 0 ≤ a ∧ a < 268 ∧ 0 ≤ b ∧ b ≤ 3
theorem fm (a b : Int) (hb : 0 < b) : 0 ≤ a.fmod b ∧ a.fmod b < b := ⟨Int.fmod_nonneg_of_pos _ hb, Int.fmod_lt_of_pos _ hb⟩
theorem datOf_shape (x : Int) : ∃ a b, datOf x = Dat.tuple [Dat.int a, Dat.int b] ∧ 0 ≤ a ∧ a < 268 ∧ 0 ≤ b ∧ b ≤ 3 := by
  refine ⟨_, _, rfl, ?_⟩
  unfold octI farI
  have h1 := fm (x.fdiv 4) 2 (by decide)
  have h2 := fm (x.fdiv 4) 268 (by decide)
  have h3 := fm (x.fdiv 8) 4 (by decide)
  have h4 := fm (x.fdiv 1072) 4 (by decide)
  split <;> omega
theorem ring_start : RingP [] [] := ⟨rfl, rfl, fun _ h => nomatch h⟩
theorem ring_step {pre : List Int} {x a b : Int} (ha : octI x = a) (hb : farI x = b) : RingP (pre ++ [x]) (pre.map datOf ++ [Dat.tuple [Dat.int a, Dat.int b]]) := by
  have e : Dat.tuple [Dat.int a, Dat.int b] = datOf x := by rw [← ha, ← hb]; rfl
  rw [e]
  refine ⟨by rw [List.map_append]; rfl, by simp, fun d hd => ?_⟩
  rcases List.mem_append.mp hd with hd | hd
  · obtain ⟨y, _, rfl⟩ := List.mem_map.mp hd; exact datOf_shape y
  · rw [List.mem_singleton.mp hd]; exact datOf_shape x
theorem oct3 {x : Int} (h : x.fmod 4 = 3) : octI x = 77 + (x.fdiv 4).fmod 2 := if_pos h
theorem far3 {x : Int} (h : x.fmod 4 = 3) : farI x = (x.fdiv 8).fmod 4 := if_pos h
theorem octN {x : Int} (h : x.fmod 4 ≠ 3) : octI x = (x.fdiv 4).fmod 268 := if_neg h
theorem farN {x : Int} (h : x.fmod 4 ≠ 3) : farI x = (x.fdiv 1072).fmod 4 := if_neg h
theorem placesD_snoc (pre : List Dat) (d : Dat) : placesD (pre ++ [d]) = placesD pre ++ [(placesD pre).getLastD 0 + stepD d] := by
  unfold placesD
  rw [List.foldl_append]; rfl
theorem getD_last (ns : List Int) (h : ns ≠ []) : ns.getD (-1 + (ns.length : Int)).toNat 0 = ns.getLastD 0 := by
  have hl : 0 < ns.length := List.length_pos_iff.mpr h
  have e : (-1 + (ns.length : Int)).toNat = ns.length - 1 := by omega
  rw [e, List.getD_eq_getElem?_getD, List.getLastD_eq_getLast?, List.getLast?_eq_getElem?]
theorem stepD_in {a b : Int} (hc : ([77, 78].any fun x => x == a) = true) : stepD (Dat.tuple [Dat.int a, Dat.int b]) = 1 - b := by
  have : a = 77 ∨ a = 78 := by
    simp only [List.any_cons, List.any_nil, Bool.or_false, Bool.or_eq_true, beq_iff_eq] at hc
    rcases hc with h | h
    · exact .inl h.symm
    · exact .inr h.symm
  show 1 - (if a = 77 ∨ a = 78 then b else 0) = 1 - b
  rw [if_pos this]
theorem stepD_out {a b : Int} (hc : ([77, 78].any fun x => x == a) = false) : stepD (Dat.tuple [Dat.int a, Dat.int b]) = 1 := by
  have : ¬ (a = 77 ∨ a = 78) := by
    rintro (rfl | rfl) <;> cases hc
  show 1 - (if a = 77 ∨ a = 78 then b else 0) = 1
  rw [if_neg this]; rfl
theorem places_step {ns : List Int} {pre : List Dat} {d : Dat} {v : Int} (h1 : ns = placesD pre) (h2 : ns.length = pre.length + 1) (hv : v = ns.getLastD 0 + stepD d) :
    ns ++ [v] = placesD (pre ++ [d]) ∧ (ns ++ [v]).length = (pre ++ [d]).length + 1 := by
  subst hv h1
  exact ⟨(placesD_snoc _ _).symm, by simp [h2]⟩
theorem places_in {ns : List Int} {pre : List Dat} {a b : Int} (h1 : ns = placesD pre) (h2 : ns.length = pre.length + 1) (hc : ([77, 78].any fun x => x == a) = true) :
    ns ++ [ns.getD (-1 + (ns.length : Int)).toNat 0 + 1 - b] = placesD (pre ++ [Dat.tuple [Dat.int a, Dat.int b]]) ∧ (ns ++ [ns.getD (-1 + (ns.length : Int)).toNat 0 + 1 - b]).length = (pre ++ [Dat.tuple [Dat.int a, Dat.int b]]).length + 1 := by
  refine places_step h1 h2 ?_
  rw [getD_last ns (by intro e; rw [e] at h2; cases h2), stepD_in hc]; omega
theorem places_out {ns : List Int} {pre : List Dat} {a b : Int} (h1 : ns = placesD pre) (h2 : ns.length = pre.length + 1) (hc : ([77, 78].any fun x => x == a) = false) :
    ns ++ [ns.getD (-1 + (ns.length : Int)).toNat 0 + 1 - 0] = placesD (pre ++ [Dat.tuple [Dat.int a, Dat.int b]]) ∧ (ns ++ [ns.getD (-1 + (ns.length : Int)).toNat 0 + 1 - 0]).length = (pre ++ [Dat.tuple [Dat.int a, Dat.int b]]).length + 1 := by
  refine places_step h1 h2 ?_
  rw [getD_last ns (by intro e; rw [e] at h2; cases h2), stepD_out hc]; omega
theorem places_start : [0] = placesD [] := rfl
def stepsD (pre : List Dat) : List Int := pre.map stepD
def tableOk (l : List Str) : Bool := (List.range 268).all fun i => ([Str.ofString "JUMP_BACKWARD", Str.ofString "JUMP_BACKWARD_NO_INTERRUPT"].any fun x => x == l.getD i PySem.Str.empty) == (i == 77 || i == 78)
theorem table_at {l : List Str} (ok : tableOk l = true) {i : Nat} (h : i < 268) : ([Str.ofString "JUMP_BACKWARD", Str.ofString "JUMP_BACKWARD_NO_INTERRUPT"].any fun x => x == l.getD i PySem.Str.empty) = (i == 77 || i == 78) :=
  beq_iff_eq.mp (List.all_eq_true.mp ok i (List.mem_range.mpr h))
theorem stepsD_snoc (pre : List Dat) (d : Dat) : stepsD (pre ++ [d]) = stepsD pre ++ [stepD d] := by
  unfold stepsD; rw [List.map_append]; rfl
def isBack (a : Int) : Bool := a == 77 || a == 78
theorem back_table {l : List Str} {a : Int} (ha : 0 ≤ a) (ha' : a < 268) (ok : tableOk l = true) : ([Str.ofString "JUMP_BACKWARD", Str.ofString "JUMP_BACKWARD_NO_INTERRUPT"].any fun x => x == l.getD a.toNat PySem.Str.empty) = isBack a := by
  rw [table_at ok (i := a.toNat) (by omega)]
  obtain ⟨n, rfl⟩ := Int.eq_ofNat_of_zero_le ha
  unfold isBack
  rw [Bool.eq_iff_iff]
  simp only [Bool.or_eq_true, beq_iff_eq]
  omega
theorem steps_in {a b : Int} {ns : List Int} {pre : List Dat} (h1 : ns = stepsD pre) (h2 : ns.length = pre.length) (hc : isBack a = true) :
    ns ++ [1 - b] = stepsD (pre ++ [Dat.tuple [Dat.int a, Dat.int b]]) ∧ (ns ++ [1 - b]).length = (pre ++ [Dat.tuple [Dat.int a, Dat.int b]]).length := by
  have q : stepD (Dat.tuple [Dat.int a, Dat.int b]) = 1 - b := by
    refine stepD_in ?_
    simp only [isBack, Bool.or_eq_true, beq_iff_eq] at hc
    simp only [List.any_cons, List.any_nil, Bool.or_false, Bool.or_eq_true, beq_iff_eq]
    omega
  rw [stepsD_snoc, q, h1]
  exact ⟨rfl, by rw [← h1]; simp [h2]⟩
theorem steps_out {a b : Int} {ns : List Int} {pre : List Dat} (h1 : ns = stepsD pre) (h2 : ns.length = pre.length) (hc : isBack a = false) :
    ns ++ [1] = stepsD (pre ++ [Dat.tuple [Dat.int a, Dat.int b]]) ∧ (ns ++ [1]).length = (pre ++ [Dat.tuple [Dat.int a, Dat.int b]]).length := by
  have q : stepD (Dat.tuple [Dat.int a, Dat.int b]) = 1 := by
    refine stepD_out ?_
    simp only [isBack, Bool.or_eq_false_iff, beq_eq_false_iff_ne] at hc
    simp only [List.any_cons, List.any_nil, Bool.or_false, Bool.or_eq_false_iff, beq_eq_false_iff_ne]
    omega
  rw [stepsD_snoc, q, h1]
  exact ⟨rfl, by rw [← h1]; simp [h2]⟩
def scanP (pre : List Int) : Int × Int := pre.foldl (fun a x => (a.1 + x, min a.2 (a.1 + x))) (0, 1)
def goodAt (steps : List Int) (i : Int) : Bool := decide (0 < (scanP (steps.drop i.toNat ++ steps.take i.toNat)).2)
theorem mem_rangeKs {k : Int} {n : Nat} (h : k ∈ rangeKs 0 n) : 0 ≤ k ∧ k < n := by
  unfold rangeKs at h
  obtain ⟨i, hi, rfl⟩ := List.mem_map.mp h
  have := List.mem_range.mp hi
  omega
theorem first_bound {steps fst : List Int} {k : Int} (h : fst = List.filter (goodAt steps) (rangeKs 0 ((steps.length : Int) - 0).toNat)) (hm : k ∈ fst) : 0 ≤ k ∧ k < steps.length := by
  rw [h] at hm
  have := mem_rangeKs (List.mem_filter.mp hm).1
  omega
theorem few_firsts {steps fst : List Int} {f : Int → Int} (h : fst = List.filter (goodAt steps) (rangeKs 0 ((steps.length : Int) - 0).toNat)) (hl : steps.length < 64) : (List.map f fst).length < 64 := by
  rw [List.length_map, h]
  refine Nat.lt_of_le_of_lt (List.length_filter_le _ _) ?_
  rw [rangeKs_length]; omega
theorem stepD_le (x : Int) : -2 ≤ stepD (datOf x) ∧ stepD (datOf x) ≤ 1 := by
  obtain ⟨a, b, e, h1, h2, h3, h4⟩ := datOf_shape x
  rw [e]
  show -2 ≤ 1 - (if a = 77 ∨ a = 78 then b else 0) ∧ 1 - (if a = 77 ∨ a = 78 then b else 0) ≤ 1
  split <;> omega
theorem placesD_ne (R : List Dat) : placesD R ≠ [] := by
  intro e
  have : ∀ (R : List Dat) (ps : List Int), ps ≠ [] → R.foldl (fun ps d => ps ++ [ps.getLastD 0 + stepD d]) ps ≠ [] := by
    intro R
    induction R with
    | nil => intro ps h; exact h
    | cons d R ih => intro ps _; exact ih _ (by simp)
  exact this R [0] (by simp) e
theorem last_bound (l : List Int) : -2 * (l.length : Int) ≤ (placesD (l.map datOf)).getLastD 0 ∧ (placesD (l.map datOf)).getLastD 0 ≤ l.length := by
  have snoc : ∀ (r l : List Int), l.reverse = r → -2 * (l.length : Int) ≤ (placesD (l.map datOf)).getLastD 0 ∧ (placesD (l.map datOf)).getLastD 0 ≤ l.length := by
    intro r
    induction r with
    | nil => intro l h; rw [List.reverse_eq_nil_iff.mp h]; exact ⟨by decide, by decide⟩
    | cons x r ih =>
      intro l h
      have e : l = r.reverse ++ [x] := by rw [← List.reverse_reverse l, h, List.reverse_cons]
      have := ih r.reverse (List.reverse_reverse r)
      have hx := stepD_le x
      rw [e, List.map_append, List.map_cons, List.map_nil, placesD_snoc]
      simp only [List.getLastD_concat, List.length_append, List.length_cons, List.length_nil]
      omega
  exact snoc _ l rfl
theorem gain_bound {ns xs : List Int} {k : Nat} (h : ns = placesD (List.map datOf (List.take 12 xs ++ [4212, 23, 3532, 0, 19, 4240, 1]))) (_ : ns.length = k) : -38 ≤ ns.getD (-1 + (ns.length : Int)).toNat 0 ∧ ns.getD (-1 + (ns.length : Int)).toNat 0 ≤ 19 := by
  rw [getD_last ns (by rw [h]; exact placesD_ne _), h]
  have := last_bound (List.take 12 xs ++ [4212, 23, 3532, 0, 19, 4240, 1])
  simp only [List.length_append, List.length_take, List.length_cons, List.length_nil] at this
  omega
end Mine
end
section
open PySem PySem.W PyProof.Rows
namespace Mine
theorem snoc_ind {α : Type} {P : List α → Prop} (h0 : P []) (hs : ∀ l x, P l → P (l ++ [x])) : ∀ l, P l := by
  intro l
  rw [← l.reverse_reverse]
  induction l.reverse with
  | nil => exact h0
  | cons x r ih => rw [List.reverse_cons]; exact hs _ _ ih
theorem places_at (R : List Dat) : (placesD R).length = R.length + 1 ∧ ∀ k, k ≤ R.length → (placesD R).getD k 0 = ((R.map stepD).take k).sum := by
  refine snoc_ind (P := fun R => (placesD R).length = R.length + 1 ∧ ∀ k, k ≤ R.length → (placesD R).getD k 0 = ((R.map stepD).take k).sum) ?_ ?_ R
  · refine ⟨rfl, fun k hk => ?_⟩
    have : k = 0 := Nat.le_zero.mp hk
    subst this; rfl
  · rintro R d ⟨hl, hg⟩
    rw [placesD_snoc, List.map_append]
    refine ⟨by simp [hl], fun k hk => ?_⟩
    rw [List.length_append, List.length_cons, List.length_nil] at hk
    rcases Nat.lt_or_ge k (R.length + 1) with q | q
    · have e1 : (placesD R ++ [(placesD R).getLastD 0 + stepD d]).getD k 0 = (placesD R).getD k 0 := by
        rw [List.getD_eq_getElem?_getD, List.getD_eq_getElem?_getD, List.getElem?_append_left (by omega)]
      rw [e1, hg k (by omega), List.take_append_of_le_length (by simp; omega)]
    · have hk' : k = R.length + 1 := by omega
      subst hk'
      have e1 : (placesD R ++ [(placesD R).getLastD 0 + stepD d]).getD (R.length + 1) 0 = (placesD R).getLastD 0 + stepD d := by
        rw [List.getD_eq_getElem?_getD, List.getElem?_append_right (by omega), hl]
        simp
      have e2 : (placesD R).getLastD 0 = (placesD R).getD R.length 0 := by
        rw [List.getLastD_eq_getLast?, List.getLast?_eq_getElem?, List.getD_eq_getElem?_getD, hl]; rfl
      rw [e1, e2, hg _ (Nat.le_refl _), List.take_of_length_le (by simp), List.take_of_length_le (by simp), List.sum_append]
      simp
theorem scan_at (l : List Int) : (scanP l).1 = l.sum ∧ (0 < (scanP l).2 ↔ ∀ k, 0 < k → k ≤ l.length → 0 < (l.take k).sum) := by
  refine snoc_ind (P := fun l => (scanP l).1 = l.sum ∧ (0 < (scanP l).2 ↔ ∀ k, 0 < k → k ≤ l.length → 0 < (l.take k).sum)) ?_ ?_ l
  · exact ⟨rfl, ⟨fun _ k h1 h2 => absurd (Nat.lt_of_lt_of_le h1 h2) (Nat.lt_irrefl _), fun _ => by decide⟩⟩
  · rintro l x ⟨h1, h2⟩
    have e : scanP (l ++ [x]) = ((scanP l).1 + x, min (scanP l).2 ((scanP l).1 + x)) := by unfold scanP; rw [List.foldl_append]; rfl
    rw [e]
    refine ⟨by rw [List.sum_append, h1]; simp, ?_⟩
    dsimp only
    rw [Int.lt_min, h2, h1]
    constructor
    · rintro ⟨ha, hb⟩ k hk0 hk
      rw [List.length_append, List.length_cons, List.length_nil] at hk
      rcases Nat.lt_or_ge k (l.length + 1) with q | q
      · rw [List.take_append_of_le_length (by omega)]; exact ha k hk0 (by omega)
      · rw [List.take_of_length_le (by simp; omega), List.sum_append]; simpa using hb
    · intro h
      refine ⟨fun k hk0 hk => ?_, ?_⟩
      · have := h k hk0 (by simp; omega)
        rwa [List.take_append_of_le_length (by omega)] at this
      · have := h (l.length + 1) (by omega) (by simp)
        rw [List.take_of_length_le (by simp), List.sum_append] at this
        simpa using this
theorem good_once (a : List Int) {i : Nat} (hi : i < a.length) : goodAt a (i : Int) = true ↔ Once a i := by
  unfold goodAt
  rw [decide_eq_true_iff, (scan_at _).2]
  have hl : (a.drop (i : Int).toNat ++ a.take (i : Int).toNat).length = a.length := by simp; omega
  rw [hl]
  have hn : (i : Int).toNat = i := by simp
  rw [hn]
  constructor
  · intro h k h1 h2
    have := h k h1 h2
    rw [lift_rot a hi h2] at this
    omega
  · intro h k h1 h2
    have := h k h1 h2
    rw [lift_rot a hi h2]
    omega
theorem steps_small (l : List Int) : ∀ x ∈ stepsD (l.map datOf), x ≤ 1 ∧ -((2 : Nat) : Int) ≤ x := by
  intro x hx
  unfold stepsD at hx
  obtain ⟨d, hd, rfl⟩ := List.mem_map.mp hx
  obtain ⟨y, _, rfl⟩ := List.mem_map.mp hd
  have := stepD_le y
  omega
section
variable {l places steps firsts : List Int}
theorem gain_is (h1 : places = placesD (l.map datOf)) (h2 : steps = stepsD (l.map datOf)) : places.getD (-1 + (places.length : Int)).toNat 0 = lift steps steps.length ∧ steps.length = l.length := by
  obtain ⟨hl, hg⟩ := places_at (l.map datOf)
  have hs : steps.length = l.length := by rw [h2]; unfold stepsD; simp
  refine ⟨?_, hs⟩
  have e : (-1 + (places.length : Int)).toNat = l.length := by rw [h1, hl, List.length_map]; omega
  rw [e, h1, hg _ (by simp), ← lift_take steps (Nat.le_refl _), h2]
  unfold stepsD
  rw [List.take_of_length_le (by simp), List.take_of_length_le (by simp)]
theorem place_is (h1 : places = placesD (l.map datOf)) (h2 : steps = stepsD (l.map datOf)) {i : Nat} (hi : i < steps.length) : places.getD i 0 = lift steps i := by
  obtain ⟨hl, hg⟩ := places_at (l.map datOf)
  have hs := (gain_is h1 h2).2
  rw [h1, hg i (by simp; omega), ← lift_take steps (by omega), h2]
  rfl
theorem first_iff (h3 : firsts = List.filter (goodAt steps) (rangeKs 0 ((steps.length : Int) - 0).toNat)) (k : Int) : k ∈ firsts ↔ ∃ i : Nat, k = i ∧ i < steps.length ∧ Once steps i := by
  rw [h3, List.mem_filter]
  have hn : ((steps.length : Int) - 0).toNat = steps.length := by omega
  rw [hn]
  unfold rangeKs
  constructor
  · rintro ⟨hm, hg⟩
    obtain ⟨i, hi, rfl⟩ := List.mem_map.mp hm
    have hi := List.mem_range.mp hi
    rw [Int.zero_add] at hg
    exact ⟨i, by omega, hi, (good_once steps hi).mp hg⟩
  · rintro ⟨i, rfl, hi, ho⟩
    exact ⟨List.mem_map.mpr ⟨i, List.mem_range.mpr hi, by omega⟩, (good_once steps hi).mpr ho⟩
theorem first_nodup (h3 : firsts = List.filter (goodAt steps) (rangeKs 0 ((steps.length : Int) - 0).toNat)) : firsts.Nodup := by
  rw [h3]
  refine List.Pairwise.filter _ ?_
  unfold rangeKs
  exact List.Pairwise.map _ (fun a b (h : a ≠ b) => by omega) List.nodup_range
theorem none_of (hl : 0 < l.length) (h1 : places = placesD (l.map datOf)) (h2 : steps = stepsD (l.map datOf)) (h3 : firsts = List.filter (goodAt steps) (rangeKs 0 ((steps.length : Int) - 0).toNat)) (h4 : places.getD (-1 + (places.length : Int)).toNat 0 ≤ 0) : firsts = [] := by
  obtain ⟨hg, hs⟩ := gain_is h1 h2
  rw [hg] at h4
  rw [List.eq_nil_iff_forall_not_mem]
  intro k hk
  obtain ⟨i, _, hi, ho⟩ := (first_iff h3 k).mp hk
  exact none_once steps (by omega) h4 ho
theorem perm_of {n' : List Int} (hl : 0 < l.length) (h1 : places = placesD (l.map datOf)) (h2 : steps = stepsD (l.map datOf)) (h3 : firsts = List.filter (goodAt steps) (rangeKs 0 ((steps.length : Int) - 0).toNat)) (h4 : ¬places.getD (-1 + (places.length : Int)).toNat 0 ≤ 0)
    (h5 : n'.Perm (List.map (fun k' => (places.getD k'.toNat 0).fmod (places.getD (-1 + (places.length : Int)).toNat 0)) firsts)) (h6 : List.Pairwise (fun x1 x2 => x1 ≤ x2) n') :
    n' = rangeKs 0 (places.getD (-1 + (places.length : Int)).toNat 0 - 0).toNat := by
  obtain ⟨hg, hs⟩ := gain_is h1 h2
  rw [hg] at h4 h5 ⊢
  have hG : 0 < lift steps steps.length := by omega
  have hn : 0 < steps.length := by omega
  have hsm := steps_small l
  rw [← h2] at hsm
  have ahead : ∀ {i : Nat}, Once steps i → Ahead steps i := fun ho => ahead_of_once steps hn hG ho
  have val : ∀ {i : Nat}, i < steps.length → (places.getD ((i : Int)).toNat 0).fmod (lift steps steps.length) = lift steps i % lift steps steps.length := fun {i} hi => by
    have : ((i : Int)).toNat = i := by simp
    rw [this, place_is h1 h2 hi, Int.fmod_eq_emod_of_nonneg _ (by omega)]
  have hnd : (List.map (fun k' : Int => (places.getD k'.toNat 0).fmod (lift steps steps.length)) firsts).Nodup := by
    have hf := first_nodup h3
    have hmem := fun k => (first_iff h3 k).mp
    clear h5 h3
    induction firsts with
    | nil => exact List.Pairwise.nil
    | cons k r ih =>
      rw [List.map_cons]
      obtain ⟨hk, hr⟩ := List.pairwise_cons.mp hf
      refine List.pairwise_cons.mpr ⟨fun y hy e => ?_, ih hr fun k' hk' => hmem k' (List.mem_cons_of_mem _ hk')⟩
      obtain ⟨k', hk', rfl⟩ := List.mem_map.mp hy
      obtain ⟨i, rfl, hi, ho⟩ := hmem k (List.mem_cons_self ..)
      obtain ⟨j, rfl, hj, ho'⟩ := hmem k' (List.mem_cons_of_mem _ hk')
      rw [val hi, val hj] at e
      have := inj_mod steps hn hG hi hj (ahead ho) (ahead ho') e
      exact hk _ hk' (by rw [this])
  have hrn : (rangeKs 0 (lift steps steps.length - 0).toNat).Nodup := by
    unfold rangeKs
    exact List.Pairwise.map _ (fun a b (h : a ≠ b) => by omega) List.nodup_range
  have hperm : (List.map (fun k' : Int => (places.getD k'.toNat 0).fmod (lift steps steps.length)) firsts).Perm (rangeKs 0 (lift steps steps.length - 0).toNat) := by
    rw [List.perm_ext_iff_of_nodup hnd hrn]
    intro x
    constructor
    · intro hx
      obtain ⟨k, hk, rfl⟩ := List.mem_map.mp hx
      obtain ⟨i, rfl, hi, ho⟩ := (first_iff h3 k).mp hk
      rw [val hi]
      have b1 := Int.emod_nonneg (lift steps i) (show lift steps steps.length ≠ 0 by omega)
      have b2 := Int.emod_lt_of_pos (lift steps i) hG
      unfold rangeKs
      exact List.mem_map.mpr ⟨(lift steps i % lift steps steps.length).toNat, List.mem_range.mpr (by omega), by omega⟩
    · intro hx
      obtain ⟨b1, b2⟩ := Mine.mem_rangeKs hx
      obtain ⟨i, hi, ha, e⟩ := surj_mod steps hn hG (fun x hx => (hsm x hx).1) 2 (fun x hx => (hsm x hx).2) b1 (by omega)
      refine List.mem_map.mpr ⟨(i : Int), (first_iff h3 _).mpr ⟨i, rfl, hi, fun k h1 _ => ha _ (by omega)⟩, ?_⟩
      rw [val hi]; exact e
  have hsort : List.Pairwise (fun x1 x2 : Int => x1 ≤ x2) (rangeKs 0 (lift steps steps.length - 0).toNat) := by
    unfold rangeKs
    exact List.Pairwise.map _ (fun a b (h : a < b) => by omega) List.pairwise_lt_range
  exact List.Perm.eq_of_pairwise (fun a b _ _ h h' => Int.le_antisymm h h') h6 hsort (h5.trans hperm)
end
theorem end_none {xs places steps firsts : List Int} (h1 : places = placesD (List.map datOf (List.take 12 xs ++ [4212, 23, 3532, 0, 19, 4240, 1]))) (h2 : steps = stepsD (List.map datOf (List.take 12 xs ++ [4212, 23, 3532, 0, 19, 4240, 1])))
    (h3 : firsts = List.filter (goodAt steps) (rangeKs 0 ((steps.length : Int) - 0).toNat)) (h4 : places.getD (-1 + (places.length : Int)).toNat 0 ≤ 0) {inst : Decidable (firsts = [])} : @decide (firsts = []) inst = true :=
  decide_eq_true (none_of (by simp) h1 h2 h3 h4)
theorem end_perm {xs places steps firsts n' : List Int} (h1 : places = placesD (List.map datOf (List.take 12 xs ++ [4212, 23, 3532, 0, 19, 4240, 1]))) (h2 : steps = stepsD (List.map datOf (List.take 12 xs ++ [4212, 23, 3532, 0, 19, 4240, 1])))
    (h3 : firsts = List.filter (goodAt steps) (rangeKs 0 ((steps.length : Int) - 0).toNat)) (h4 : ¬places.getD (-1 + (places.length : Int)).toNat 0 ≤ 0)
    (h5 : n'.Perm (List.map (fun k' => (places.getD k'.toNat 0).fmod (places.getD (-1 + (places.length : Int)).toNat 0)) firsts)) (h6 : List.Pairwise (fun x1 x2 => x1 ≤ x2) n')
    {inst : Decidable (n' = rangeKs 0 (places.getD (-1 + (places.length : Int)).toNat 0 - 0).toNat)} : @decide (n' = rangeKs 0 (places.getD (-1 + (places.length : Int)).toNat 0 - 0).toNat) inst = true :=
  decide_eq_true (perm_of (by simp) h1 h2 h3 h4 h5 h6)
end Mine
end
section
open PySem PySem.W PyProof.Rows
namespace Mine
theorem post_true (args : List WData) : PySem.Challenge.rw_rs0004_01.row.toRowW.claim.post args (.bool true) args = true := by wrow_post
theorem close_true {cl : Str → Option Addr} {h₀ : Heap} {args : List WData} {s₁ : Shared} {b : Bool} {h : Heap} {tk : Nat} {L : Addr} {m : Str → Option Value} (F : Fr s₁.heap L h m) (hg : s₁.gens = #[]) (e : b = true) :
    GoodW PySem.Challenge.rw_rs0004_01.row.toRowW.claim cl (ExcName.means h₀) args s₁ (.ok (.ret (.bool b))) { s₁ with heap := h, toks := tk } := by
  subst e
  exact goodW_bool F hg (raisesW_false allW_false_nil) (post_true args)
end Mine
end
section
open PySem PySem.W PyProof.Rows
set_option maxHeartbeats 0
namespace Mine
local macro_rules | `(tactic| walk_at "exec For Name BinOp cons nil") => `(tactic| (k_here; (rename Fr _ _ _ _ => lF'); (with_unfolding_all refine' For_invVF lF' ?k1 ?k2 ?_; (case k1 => exact rfl); (case k2 => exact rfl); k_whole)))
local macro_rules | `(tactic| walk_at "subscriptTail Name Slice ref ref") => `(tactic| (
    k_here
    (with_reducible show wpAny _ _ (subscriptTail (Expr.Name (Str.ofString "steps") _) (Expr.Slice _ _ none _) (Value.ref _) (Value.ref _)) _ _ _)
    k_dflt (refine' kmk_slice_ints ?F ?N ?l ?p ?q ?i ?m ?c ?_ ?s ?t ?z)
    (case F => k_asm)
    (case N => k_asm)
    (case l => k_dflt kmk_list)
    (case p => k_dflt kmk_part)
    (case q => k_dflt kmk_part)
    (case i => l_ints)
    (case m => first | exact kmk_from (by l_ints) (by omega) | exact kmk_upto (by l_ints) (by omega))
    (case c => kmk_len)
    (case s => with_unfolding_all rfl)
    (case t => k_dflt kmk_pure)
    (case z => (refine kmk_sz (by l_ints) ?_; rw [sizeLine_eq]; omega))
    intro D' ws' h' F' N' l1 hI' hC' hL'
    (try k_lt l1)
    (try k_sweep)))
theorem scan_step {p q x : Int} {pre : List Int} (h1 : p = (scanP pre).fst) (h2 : q = (scanP pre).snd) : p + x = (scanP (pre ++ [x])).fst ∧ (if p + x < q then p + x else q) = (scanP (pre ++ [x])).snd := by
  subst h1 h2
  unfold scanP
  rw [List.foldl_append]
  refine ⟨rfl, ?_⟩
  simp only [List.foldl_cons, List.foldl_nil]
  rw [Int.min_def]
  split <;> split <;> omega
theorem first_in {ns fs pre : List Int} {k q : Int} (h1 : fs = List.filter (goodAt ns) pre) (h2 : fs.length ≤ pre.length) (h3 : q = (scanP (List.drop k.toNat ns ++ List.take k.toNat ns)).snd) (hc : 0 < q) :
    fs ++ [k] = List.filter (goodAt ns) (pre ++ [k]) ∧ (fs ++ [k]).length ≤ (pre ++ [k]).length := by
  have g : goodAt ns k = true := by unfold goodAt; rw [← h3]; exact decide_eq_true hc
  refine ⟨by rw [List.filter_append, List.filter_cons, if_pos g, h1]; rfl, by simp only [List.length_append, List.length_cons, List.length_nil]; omega⟩
theorem first_out {ns fs pre : List Int} {k q : Int} (h1 : fs = List.filter (goodAt ns) pre) (h2 : fs.length ≤ pre.length) (h3 : q = (scanP (List.drop k.toNat ns ++ List.take k.toNat ns)).snd) (hc : ¬0 < q) :
    fs = List.filter (goodAt ns) (pre ++ [k]) ∧ fs.length ≤ (pre ++ [k]).length := by
  have g : ¬goodAt ns k = true := by unfold goodAt; rw [← h3]; exact fun h => hc (of_decide_eq_true h)
  refine ⟨by rw [List.filter_append, List.filter_cons, if_neg g, h1, List.filter_nil, List.append_nil], by simp only [List.length_append, List.length_cons, List.length_nil]; omega⟩
local macro_rules | `(tactic| walk_at "call builtin:list.append") => `(tactic| (
    k_here
    (k_dflt show wpAny _ _ (call (Value.builtin _) [Value.ref _, _]) _ _ _)
    k_dflt (refine' append_K ?k1 ?k2 ?k3 ?_ ?z)
    (case k1 => k_asm)
    (case k2 => k_asm)
    (case k3 => k_upd)
    (case z => (rw [sizeLine_eq, List.size_toArray]; omega))
    k_whole
    intro h' F' N'
    (try k_sweep)))
theorem never_claim (P : Params) {w : World} {mg mb : Str → Option Value} {mean : ExcName → Option Value} {dp un : Nat} {gd : Option (List Code)} {cn : Str} {cs : Scope} {a : Addr} {ccd : Value} {cl : List (Str × Addr)} {outer : List Env} {A₀ : Around} {base h₀ : Heap} {L : Addr} {m : Str → Option Value} {s : Shared} {Q E : Value → Shared → Prop}
    {news : List (Addr × Obj)} {l : Addr} {us : List Value} {ns : List Int} {nn : Nat}
    (B : Below A₀ base outer h₀) (F : Fr h₀ L s.heap m) (KX : (Kw P).In h₀) (N : News h₀ L s.heap ((l, listOf us.toArray nn) :: news)) (T : Top qv (looseW qv loose) mean mg mb h₀) (hk : cs.kind = .function)
    (hi : IntsAre us ns) (hlen : ns.length < 64) (hd : dp + 1 < recursionLimit) (hu : un + 8 < cLine)
    (hret : ∀ (l' : Addr) (us' : List Value) (ns' : List Int) (n' : Nat) (h' : Heap) (tk : Nat), Fr h₀ L h' m → News h₀ L h' ((l', listOf us'.toArray n') :: (l, listOf us.toArray nn) :: news) → (l < l' ∧ AllLt l' news) → IntsAre us' ns' →
      ns' = List.filter (goodAt ns) (rangeKs 0 ((ns.length : Int) - 0).toNat) → ns'.length ≤ (rangeKs 0 ((ns.length : Int) - 0).toNat).length → Q (.ref l') { s with heap := h', toks := tk }) :
    wpAny (model PySem.Challenge.rw_rs0004_01.row.prog w) (ktrTop dp un gd cn cs L a ccd cl outer) (call (.ref 666) [.ref l]) Q E s := by
  k_with "pyIter ref" => (k_of "first" => k_state_given ["steps"] (fun steps pre firsts => firsts = pre.filter (goodAt steps) ∧ firsts.length ≤ pre.length) "firsts")
  k_with "pyIter ref" => (k_of "step" => k_state (fun pre place least => place = (scanP pre).1 ∧ least = (scanP pre).2) "place" "least")
  k_with "state" => with_reducible exact scan_step (by with_reducible assumption) (by with_reducible assumption)
  k_with "state" => with_reducible exact first_in (by with_reducible assumption) (by with_reducible assumption) (by with_reducible assumption) (by with_reducible assumption)
  k_with "state" => with_reducible exact first_out (by with_reducible assumption) (by with_reducible assumption) (by with_reducible assumption) (by with_reducible assumption)
  w_on
  revert KX
  k_fill
  intro KX
  refine wpAny_call ?_
  k_dflt cell_enter
  repeat' (first | (k_unfold; (try dsimp only)) | (k_end; wrow_close) | walk1 | (dsimp only; walk1) | (leave1; walk_say "STEP leave1"; try dsimp only) | fail "no step")
  (all_goals (try k_data))
  all_goals (refine' hret _ _ _ _ _ _ ?kF ?kN ?kL ?kI ?kE ?kR; (case kN => (with_reducible assumption)); (case kF => (with_reducible assumption)); (case kL => with_reducible assumption); (case kI => with_reducible assumption); (case kE => with_reducible assumption); (case kR => with_reducible assumption))
end Mine
end
section
open PySem PySem.W PyProof.Rows
set_option maxHeartbeats 0
namespace Mine
local macro_rules | `(tactic| walk_at "exec For Tuple Name cons nil") => `(tactic| (k_here; (rename Fr _ _ _ _ => lF'); (with_unfolding_all refine' For_turns lF' ?_); k_whole))
theorem walk_of {q : Program} {lo : List Str} {XP : (Str → Option Value) → Heap → Prop} {r : RowW} {d : DefRec} {kwd : List (Str × Expr)} {run : Value → List Value → Sem Value} (H : ∀ P, WalkO q lo XP (fun _ h => (Kw P).In h) r d kwd run) : WalkO q lo XP KnownBy r d kwd run :=
  fun w s₀ s₁ mg mb G Y => let ⟨P, y⟩ := Y; H P w s₀ s₁ mg mb G y
local macro_rules | `(tactic| walk_at "call builtin:sorted") => `(tactic| (
    k_here
    (with_reducible show wpAny _ _ (call (Value.builtin _) [Value.ref _]) _ _ _)
    with_unfolding_all refine' kso_sorted ?k1 ?k2 ?k3 ?k4 ?k5 ?_
    (case k1 => k_asm)
    (case k2 => k_asm)
    (case k3 => kso_list)
    (case k4 => l_ints)
    (case k5 => exact few_firsts (by with_reducible assumption) (by omega))
    k_whole
    intro D' v' n' c' h' F' N' l1 i' e' p' o' b'
    clear b'
    (try k_lt l1)
    (try k_sweep)))
local macro_rules | `(tactic| walk_at "subscriptTail Name Name ref int") => `(tactic| (
    k_here
    (with_reducible show wpAny _ _ (subscriptTail (Expr.Name _ _) (Expr.Name _ _) (Value.ref _) (Value.int _ _)) _ _ _)
    (rename (_ : Int) ∈ (_ : List Int) => hMemI)
    (have hBI := first_bound (by with_reducible assumption) hMemI)
    with_unfolding_all refine' item_anyK ?k1 ?k2 ?k3 ?k4 ?k5 ?_ ?k6
    (case k1 => is_list)
    (case k2 => l_ints)
    (case k3 => exact hBI.1)
    (case k4 => omega)
    (case k5 => omega)
    (case k6 => with_unfolding_all rfl)
    k_whole
    intro _
    clear hBI hMemI))
local macro_rules | `(tactic| walk_at "call ref") => `(tactic| (
    k_here
    (with_reducible show wpAny _ _ (call (Value.ref 666) [Value.ref _]) _ _ _)
    k_dflt (refine' never_claim _ ?B ?F ?K ?N ?T ?hk ?hi ?hlen ?hd ?hu ?_)
    (case F => first | with_reducible assumption | k_asm)
    (case N => first | with_reducible assumption | k_asm)
    (case B => first | with_reducible assumption | k_asm)
    (case K => first | with_reducible assumption | k_asm)
    (case T => first | with_reducible assumption | k_asm)
    (case hk => first | exact rfl | assumption)
    (case hi => l_ints)
    (case hlen => omega)
    (case hd => ktr_room)
    (case hu => ktr_units)
    intro l' us' ns' n' h' tk F' N' l1 hI' hE' hR'
    (have hU' := IntsAre.length hI')
    (have hV' := Eq.trans hU' rfl)
    (clear hV')
    (have hW' : ns'.length < 64 := by (rw [rangeKs_length] at hR'; omega))
    (try dsimp only)
    (try k_lt l1)
    (try k_fold)
    (try k_sweep)))
theorem t : PySem.Challenge.rw_rs0004_01.Holds := by
  k_with "state" => (with_reducible refine ring_step (octN ?_) (farN ?_) <;> with_reducible assumption)
  k_with "state" => (with_reducible refine ring_step (oct3 ?_) (far3 ?_) <;> with_reducible assumption)
  k_with "state" => with_reducible exact ring_start
  k_with "state" => (with_reducible refine steps_in ?_ ?_ ?_ <;> with_reducible assumption)
  k_with "state" => (with_reducible refine steps_out ?_ ?_ ?_ <;> with_reducible assumption)
  k_with "tree" => exact back_table (by omega) (by omega) (by decide +kernel)
  k_with "call ref" => k_call_by "_is_backward_jump" isBack (fun (a : Int) => 0 ≤ a ∧ a < 268)
  k_with "state" => (with_reducible refine places_in ?_ ?_ ?_ <;> with_reducible assumption)
  k_with "state" => (with_reducible refine places_out ?_ ?_ ?_ <;> with_reducible assumption)
  k_with "pyIter ref" => (k_of "x" => k_dat (fun pre ring => ring = pre.map datOf ∧ ring.length = pre.length ∧ ∀ d ∈ ring, ∃ a b, d = Dat.tuple [Dat.int a, Dat.int b] ∧ 0 ≤ a ∧ a < 268 ∧ 0 ≤ b ∧ b ≤ 3) "ring*")
  k_with "pyIter ref" => (
    k_here
    with_reducible show wpAny _ _ (pyIter (Value.ref _)) (fun it s₂ => TurnsAt _ _ _ _ _ _ _ _ _ it s₂) _ _
    (rename Fr _ _ _ _ => lF'); (rename News _ _ _ _ => lN')
    with_unfolding_all refine' turns_data (Str.ofString "octet") [Str.ofString "far", Str.ofString "back"] (fun pre ns => ns = stepsD pre ∧ ns.length = pre.length) (by rfl) lF' lN' ?kr ?kd (by first | exact IntsAre.nil | exact IntsAre.cons _ _ IntsAre.nil) ?ka ?kp ?_ ?_
    (case kr => k_memK)
    (case kd => (refine datAll_turn ?kdM (by first | with_reducible assumption | assumption); (case kdM => ((repeat (refine List.forall_mem_cons.mpr ⟨(by first | exact .inr ⟨_, by assumption⟩ | exact .inl (by k_memK)), ?_⟩)); (intro p hp; left; (try simp only [List.mem_cons, List.mem_append]); simp only [hp, true_or, or_true])))))
    (case ka => (simp only [List.map_cons]; exact rfl))
    (case kp => exact ⟨rfl, rfl⟩)
    rotate_left
    (intro usZ nsZ nZ uZ hZ tkZ hIZ hPZ FZ NZ)
    (try dsimp only at hPZ)
    (obtain ⟨hP1Z, hP2Z⟩ := hPZ)
    (have hL1Z := IntsAre.length hIZ)
    (simp only [List.length_append, List.length_cons, List.length_nil, List.length_map, List.length_take] at hP2Z)
    (clear lF' lN')
    (try simp only [List.nil_append, List.cons_append, List.append_assoc] at NZ)
    rotate_left
    (intro usZ nsZ nZ preZ dZ postZ vZ uZ hZ tkZ ownZ hEqZ hMemZ hDatZ hSepZ hOffZ hIZ hPZ FZ NZ)
    (try dsimp only at hPZ)
    (clear lF' lN')
    (try simp only [List.nil_append, List.cons_append, List.append_assoc] at NZ)
    (obtain ⟨hP1Z, hP2Z⟩ := hPZ)
    (have hL1Z := IntsAre.length hIZ)
    (have hL2Z := congrArg List.length hEqZ)
    (simp only [List.length_append, List.length_cons, List.length_nil, List.length_map, List.length_take] at hL2Z)
    (kd_spec hMemZ))
  k_with "pyIter ref" => (
    k_here
    with_reducible show wpAny _ _ (pyIter (Value.ref _)) (fun it s₂ => TurnsAt _ _ _ _ _ _ _ _ _ it s₂) _ _
    (rename Fr _ _ _ _ => lF'); (rename News _ _ _ _ => lN')
    with_unfolding_all refine' turns_data (Str.ofString "octet") [Str.ofString "far", Str.ofString "back"] (fun pre ns => ns = placesD pre ∧ ns.length = pre.length + 1) (by rfl) lF' lN' ?kr ?kd (by first | exact IntsAre.nil | exact IntsAre.cons _ _ IntsAre.nil) ?ka ?kp ?_ ?_
    (case kr => k_memK)
    (case kd => (refine datAll_turn ?kdM (by first | with_reducible assumption | assumption); (case kdM => ((repeat (refine List.forall_mem_cons.mpr ⟨(by first | exact .inr ⟨_, by assumption⟩ | exact .inl (by k_memK)), ?_⟩)); (intro p hp; left; (try simp only [List.mem_cons, List.mem_append]); simp only [hp, true_or, or_true])))))
    (case ka => (simp only [List.map_cons]; exact rfl))
    (case kp => exact ⟨rfl, rfl⟩)
    rotate_left
    (intro usZ nsZ nZ uZ hZ tkZ hIZ hPZ FZ NZ)
    (try dsimp only at hPZ)
    (obtain ⟨hP1Z, hP2Z⟩ := hPZ)
    (have hL1Z := IntsAre.length hIZ)
    (obtain ⟨hG1Z, hG2Z⟩ := gain_bound hP1Z rfl)
    (simp only [List.length_append, List.length_cons, List.length_nil, List.length_map, List.length_take] at hP2Z)
    (clear lF' lN')
    (try simp only [List.nil_append, List.cons_append, List.append_assoc] at NZ)
    rotate_left
    (intro usZ nsZ nZ preZ dZ postZ vZ uZ hZ tkZ ownZ hEqZ hMemZ hDatZ hSepZ hOffZ hIZ hPZ FZ NZ)
    (try dsimp only at hPZ)
    (clear lF' lN')
    (try simp only [List.nil_append, List.cons_append, List.append_assoc] at NZ)
    (obtain ⟨hP1Z, hP2Z⟩ := hPZ)
    (have hL1Z := IntsAre.length hIZ)
    (have hL2Z := congrArg List.length hEqZ)
    (simp only [List.length_append, List.length_cons, List.length_nil, List.length_map, List.length_take] at hL2Z)
    (kd_spec hMemZ))
  k_with "InvEndG" => (
    (rename News _ _ _ _ => nEZ)
    (try simp only [List.push_toArray] at nEZ)
    first
      | refine' tup_end0 nEZ ?eS ?eF ?ei ?em ?ep
      | refine' tup_end1 nEZ ?eS ?eF ?ei ?em ?ep
    (case eS => first | with_reducible assumption | assumption)
    (case eF => first | with_reducible assumption | assumption)
    (case ei => kst_facts)
    (case em => kst_same)
    (case ep => kst_p))
  w_on
  o_law
  refine holds_own (q := qv) (loose := loose) (XP := XL qv []) (YP := KnownBy) behindK known_keeps XL.keeps (by rfl) (by rfl) (by rfl) rfl (by first | assumption | decide +kernel) (by decide +kernel) ⟨rfl, rfl, rfl, rfl, rfl, by decide +kernel⟩ ?hw ?hc
  (case hw => w_witness2)
  refine walk_of fun P => ?_
  w_strict (
    k_fill
    intro w s₀ s₁ mg mb G Y fa o pm cd doc dV kV ho hd hcd hD hmg hg args vals as hpre hlay hrd hwl hlo
    have KX : Frag.In (Kw P) s₁.heap := Y
    k_behind G ho hd hcd hD hmg hpre hlay hrd hwl hlo cd
    (all_goals try k_fold)
    repeat' (first | (k_unfold; (try dsimp only)) | (with_reducible show GoodW _ _ _ _ _ _ _; first
      | exact close_true (by with_reducible assumption) (by with_reducible assumption) (end_none (by with_reducible assumption) (by with_reducible assumption) (by with_reducible assumption) (by with_reducible assumption))
      | exact close_true (by with_reducible assumption) (by with_reducible assumption) (end_perm (by with_reducible assumption) (by with_reducible assumption) (by with_reducible assumption) (by with_reducible assumption) (by with_reducible assumption) (by with_reducible assumption))) | (k_end; wrow_close) | walk1 | (dsimp only; walk1) | (leave1; walk_say "STEP leave1"; try dsimp only) | fail "no step")
    (all_goals (try k_data))
    all_goals w_report)
end Mine
end
theorem PySem.Challenge.cw_rs0004_01_holds : PySem.Challenge.rw_rs0004_01.Holds := by
  exact Mine.t
