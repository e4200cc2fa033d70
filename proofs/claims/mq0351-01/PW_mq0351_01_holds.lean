import PyProof.Rows.All
import Wide.All
import OpenK.AllK
import Wide.FinOn
import KE.KRevIter
import PySem.Challenge.RW_mq0351_01
open PySem PySem.W PyProof.Rows
set_option Elab.async false
set_option maxRecDepth 100000
namespace Mine

noncomputable abbrev Pg : Program := PySem.Challenge.pw_mq0351_01
noncomputable def nilArgs : Arguments := { posonlyargs := [], args := [], vararg := none, kwonlyargs := [], kw_defaults := [], kwarg := none, defaults := [] }
noncomputable def nilScope : Scope := { kind := .function, names := [], isGenerator := false, isCoroutine := false, more := [] }
noncomputable def dOf (i : Nat) : DefRec := match Pg.main.body[i]? with
  | some st => (match DefRec.ofStmt? st with | some d => d | none => ⟨"", nilArgs, [], nilScope, default⟩)
  | none => ⟨"", nilArgs, [], nilScope, default⟩
noncomputable def sOf (i : Nat) : Stmt := (Pg.main.body[i]?).getD (.Pass default)
noncomputable def ds1 : List DefRec := [dOf 1, dOf 2, dOf 3, dOf 4, dOf 5, dOf 6, dOf 7, dOf 8, dOf 9, dOf 10]
noncomputable def ds2 : List DefRec := [dOf 13]
noncomputable def ds3 : List DefRec := [dOf 15]
noncomputable def ds4 : List DefRec := [dOf 17, dOf 18, dOf 19, dOf 20, dOf 21, dOf 22]
theorem body_parts : Pg.main.body = [sOf 0] ++ (ds1.map (·.stmt) ++ ([sOf 11, sOf 12] ++ (ds2.map (·.stmt) ++ ([sOf 14] ++ (ds3.map (·.stmt) ++ ([sOf 16] ++ ds4.map (·.stmt))))))) := by
  kernel_rfl!
theorem plain_of {i : Nat} (tree : ∀ env, exec (dOf i).stmt env = (do
    standAt (dOf i).pos
    let f ← holding [] (makeFunction (dOf i).name (qualnameIn env (dOf i).name (dOf i).name) (dOf i).params (.stmts (dOf i).body) (dOf i).scope env [] [] [] (dOf i).pos (dOf i).pos.line)
    standAt (dOf i).pos
    bindName env (dOf i).name f
    pure .next)) (ok : ((dOf i).scope.names.all (fun x => decide (x.2 ≠ .free)) && decide (Pg.main.scope.names.lookup (dOf i).name = some .local) &&
      decide (qualnameIn { scope := Pg.main.scope, locals := mainGlobals, globals := mainGlobals, cells := [] } (dOf i).name (dOf i).name = (dOf i).name) && decide ((dOf i).name ≠ "__builtins__")) = true) : (dOf i).Plain Pg := by
  simp only [Bool.and_eq_true, decide_eq_true_eq, List.all_eq_true] at ok
  obtain ⟨⟨⟨a, b⟩, c⟩, d⟩ := ok
  exact ⟨tree, fun x hx => a x hx, b, c, d⟩
theorem plain1 : (dOf 1).Plain Pg := plain_of (fun _ => by rfl) (by decide +kernel)
end Mine

namespace Mine

theorem topReach {prog : Program} {w : World} {t : Sem Fin} {s : Shared} {P : Shared → Prop} (hreg : s.asleep)
    (h : wpAny (model prog w) callerA t (fun fin s' => ∃ f, fin = .done f ∧ (P s' ∧ s'.gens = #[])) (fun _ _ => False) s) :
    ∃ n s₁ t₁, schedN (denote table) prog w n (.single s ⟨t, .builtin "claim.caller" {}, default, []⟩) = .running (.single s₁ t₁) ∧ through t₁ = true ∧ P s₁ ∧ s₁.gens = #[] ∧ s₁.heap.life = s.heap.life := by
  have hw := h ⟨.builtin "claim.caller" {}, none, none, [], none⟩ default caller_in
  have hfull : wpAny (model prog w) callerA t (fun fin s' => ∃ f, fin = .done f ∧ ((fun _ _ => True : Result → Shared → Prop) (.ok f) s' ∧ leftWithCleanup s'.gens = false)) (fun e s' => (fun _ _ => True : Result → Shared → Prop) (.error e) s' ∧ leftWithCleanup s'.gens = false) s :=
    wpAny_mono h (fun fin s' ⟨f, e, _, g⟩ => ⟨f, e, trivial, by rw [g]; simp [leftWithCleanup]⟩) (fun _ _ x => x.elim)
  obtain ⟨n, r, s', hn, _⟩ := (wp_iff_halts (M := model prog w) (c := .builtin "claim.caller" {}) t (fun _ _ => True) default s).mp
    (wp_of_wpAny_done (R := fun r s' => (fun _ _ => True : Result → Shared → Prop) r s' ∧ leftWithCleanup s'.gens = false) caller_in hfull default)
  obtain ⟨s'', hr, hf, hc⟩ := runNI_real (denote table) prog w hn (outcomeOf_ends r)
  have hne : ∀ k s₂, runN (denote table) prog w k s ⟨t, .builtin "claim.caller" {}, default, []⟩ ≠ .halted (.unsupported "lifetime:generator-with-cleanup-left-suspended") s₂ := by
    intro k s₂ hk
    have a := runN_mono (denote table) prog w n k s _ _ s'' hr
    have b := runN_mono (denote table) prog w k n s _ _ s₂ hk
    rw [Nat.add_comm, b] at a
    injection a with a1 _
    have := outcomeOf_ends r
    rw [← a1] at this
    exact absurd this (by simp [Outcome.ends])
  obtain ⟨n', s₃, σ, p', leaf, hr', hfo, hl⟩ := wp_reaches (M := model prog w) (c := .builtin "claim.caller" {}) hw
  rcases hl with ⟨a, rfl, f, rfl, hP, hg⟩ | ⟨e, _, hF⟩
  · obtain rfl := Shared.eq_of_forget_eq hfo hg
    refine ⟨n', σ, _, (schedN_eq_runN (denote table) prog w s _ hreg ⟨hc, hne⟩ n').trans (congrArg Run.lift hr'), rfl, hP, hg, ?_⟩
    exact runN_life_running hr'
  · exact hF.elim
end Mine

namespace Mine
section
variable {prog : Program} {w : World} {A : Around} {E : Value → Shared → Prop} {s : Shared}

/-- put one pair of a new key -/
theorem wpAny_dictPut_new {d : Addr} {kvs : List (Int × Value)} {k : Int} {key v : Value} {Q : Unit → Shared → Prop} (hkey : (intKind prog w).is k key = true) (hm : s.heap.DictOf (intKind prog w) d kvs)
    (hnot : k ∉ kvs.map (·.1)) (hsz : kvs.length ≤ sizeLine)
    (hQ : ∀ h', h'.DictOf (intKind prog w) d (kvs ++ [(k, v)]) → Heap.SameBut d s.heap h' → Q () { s with heap := h' }) :
    wpAny (model prog w) A (dictPut d ((intKind prog w).hash k) key v) Q E s := by
  obtain ⟨o, es, ep, ho, hc, hd, hk, hp, hn⟩ := hm
  have hes : es.size ≤ sizeLine := by
    have e1 := hp.length
    have e2 : es.toList.length = es.size := by simp
    omega
  unfold dictPut
  refine wpAny_bind (wpAny_dictFind_of hkey ho hd hk ?_)
  have hidx : (es.findIdx? fun e => (intKind prog w).is k e.key) = kvs.findIdx? fun kv => decide (kv.1 = k) := by
    rw [← hp.findIdx k]; obtain ⟨l⟩ := es; simp
  have hi : (es.findIdx? fun e => (intKind prog w).is k e.key) = none := by
    rw [hidx, List.findIdx?_eq_none_iff]
    intro kv hkv
    exact decide_eq_false fun e => hnot (List.mem_map.mpr ⟨kv, hkv, e⟩)
  rw [hi]
  dsimp only
  refine wpAny_updateDictKeys (hz := hes) ho hd (hQ _ ⟨_, _, ep + 1, Heap.get?_update_self _ ho (Obj.isFreed_of_dict (Obj.data_mapDictKeys hd _)), hc.mapDictKeys _, Obj.data_mapDictKeys hd _, hk.push hkey _, ?_, ?_⟩ (Heap.SameBut.update ..))
  · have := hp.append hkey ((intKind prog w).hash k) v
    obtain ⟨l⟩ := es
    simpa using this
  · rw [List.map_append, List.nodup_append]
    refine ⟨hn, by simp, ?_⟩
    intro a ha b hb
    simp only [List.map_cons, List.map_nil, List.mem_singleton] at hb
    subst hb
    exact fun e => hnot (e ▸ ha)

theorem merge_ints {d a : Addr} {kvs more : List (Int × Value)} {Q : Unit → Shared → Prop} (hd : s.heap.DictOf (intKind prog w) d kvs) (hne : kvs ≠ []) (ha : s.heap.DictOf (intKind prog w) a more) (hda : d ≠ a)
    (hsys : (a == sysModules) = false) (hnd : ((kvs ++ more).map (·.1)).Nodup) (hsz : kvs.length + more.length ≤ sizeLine)
    (hQ : ∀ h', h'.DictOf (intKind prog w) d (kvs ++ more) → Heap.SameBut d s.heap h' → Q () { s with heap := h' }) :
    wpAny (model prog w) A (mergeMapping d (.ref a) false) Q E s := by
  obtain ⟨oo, eso, epo, hoo, hco, hdo', hko, hpo, hno⟩ := id ha
  have hlen : more.length = eso.size := by rw [← hpo.length]; simp
  unfold mergeMapping
  refine wpAny_bind (wpAny_isInstance ha.typeIs isSubtype_dict_dict ?_)
  dsimp only
  rw [if_pos rfl]
  refine wpAny_bind (wpAny_specialOf ha.typeIs F.slot_dict_iter.lookup (wpAny_bind (wpAny_pure ?_)))
  have e1 : ((some (Value.builtin "dict.__iter__") : Option Value) == some (Value.builtin "dict.__iter__")) = true := by simp
  rw [e1]
  dsimp only
  rw [hsys, if_neg Bool.false_ne_true]
  obtain ⟨od, esd, epd, hod, hcd, hdd, hkd, hpd, hnd0⟩ := id hd
  have hesd : esd.isEmpty = false := by
    cases hb : esd.isEmpty with
    | false => rfl
    | true =>
      have h0 : esd = #[] := Array.isEmpty_iff.mp hb
      have := hpd.length
      rw [h0] at this
      exact absurd (List.length_eq_zero_iff.mp (by simpa using this.symm)) hne
  refine wpAny_bind (wpAny_dictEntries hod hdd ?_)
  rw [hesd, if_neg Bool.false_ne_true]
  refine wpAny_bind (wpAny_dictEntries hoo hdo' ?_)
  refine wpAny_bind (wpAny_dictEpoch hoo hdo' ?_)
  refine wpAny_bind ?_
  refine wpAny_forIn_list _
    (fun rest _ s' => ∃ h' i, s' = { s with heap := h' } ∧ rest = List.range' i (eso.size - i) ∧ i ≤ eso.size ∧ h'.DictOf (intKind prog w) d (kvs ++ more.take i) ∧ h'.get? a = some oo ∧ Heap.SameBut d s.heap h')
    _ ?_ ?_ _ _ ⟨s.heap, 0, rfl, by rw [List.range_eq_range']; simp, Nat.zero_le _, by simpa using hd, hoo, Heap.SameBut.refl _ _⟩
  · rintro x rest b s' ⟨h', i, rfl, hr, hi, hd', hoo', hs'⟩
    have hlt : i < eso.size := by
      rcases Nat.lt_or_ge i eso.size with h | h
      · exact h
      · rw [Nat.sub_eq_zero_of_le h] at hr; simp at hr
    obtain ⟨rfl, hrest⟩ : x = i ∧ rest = List.range' (i + 1) (eso.size - (i + 1)) := by
      have e : eso.size - i = (eso.size - (i + 1)) + 1 := by omega
      rw [e, List.range'_succ] at hr
      injection hr with h1 h2
      exact ⟨h1, h2⟩
    refine wpAny_bind (wpAny_dictEntries hoo' hdo' ?_)
    rw [Array.getElem?_eq_getElem hlt]
    have hlt' : x < more.length := by rw [hlen]; exact hlt
    have hkv : more[x]? = some more[x] := List.getElem?_eq_getElem hlt'
    generalize hg : more[x] = kv at hkv
    obtain ⟨k, v⟩ := kv
    obtain ⟨hkey, hval⟩ := hpo.get? (e := eso[x]) (by simp [hlt]) hkv
    obtain ⟨k', hkey', hhash⟩ := hko eso[x] (Array.getElem_mem hlt)
    obtain rfl : k' = k := (intKind prog w).inj _ _ _ hkey' hkey
    dsimp only
    rw [hhash, hval]
    have htake : more.take (x + 1) = more.take x ++ [(k', v)] := by rw [List.take_add_one, hkv]; rfl
    have hnot : k' ∉ (kvs ++ more.take x).map (·.1) := by
      have h1 : ((kvs ++ more.take (x + 1)).map (·.1)).Nodup := by
        refine List.Sublist.nodup (List.Sublist.map _ (List.Sublist.append_left (List.take_sublist _ _) _)) hnd
      rw [htake, ← List.append_assoc, List.map_append, List.nodup_append] at h1
      intro hm
      exact h1.2.2 k' hm k' (by simp) rfl
    have hl : (kvs ++ more.take x).length ≤ sizeLine := by
      rw [List.length_append, List.length_take]; omega
    rw [if_neg Bool.false_ne_true]
    refine wpAny_bind (wpAny_holding (wpAny_dictPut_new hkey hd' hnot hl fun h'' hd'' hs'' => ?_))
    have hoo'' : h''.get? a = some oo := (hs''.2 a (Ne.symm hda)).trans hoo'
    refine wpAny_bind (wpAny_dictEpoch hoo'' hdo' ?_)
    rw [if_neg (by simp)]
    refine wpAny_pure ⟨h'', x + 1, rfl, hrest, hlt, ?_, hoo'', hs'.trans hs''⟩
    rw [htake, ← List.append_assoc]; exact hd''
  · rintro b s' ⟨h', i, rfl, hr, hi, hd', hoo', hs'⟩
    have hin : i = eso.size := by
      rcases Nat.lt_or_ge i eso.size with h | h
      · have e : eso.size - i = (eso.size - (i + 1)) + 1 := by omega
        rw [e, List.range'_succ] at hr; exact nomatch hr
      · exact Nat.le_antisymm hi h
    refine wpAny_pure (hQ h' ?_ hs')
    rw [hin, ← hlen, List.take_length] at hd'; exact hd'
end
end Mine

namespace Mine

/-- a table of written keys and written values, as the text spells it -/
noncomputable def constPairs : List (Option PySem.Expr) → List PySem.Expr → Option (List (Int × Const))
  | [], [] => some []
  | some (.Constant (.int k) _ _) :: ks, e :: vs => (match e with
    | .Constant c _ _ => if e.isPlainConst then (constPairs ks vs).map ((k, c) :: ·) else none
    | _ => none)
  | _, _ => none

noncomputable def Vals : List (Int × Const) → List (Int × Value) → Prop
  | [], [] => True
  | (k, c) :: tab, (k', v) :: kvs => k' = k ∧ c.Val v ∧ Vals tab kvs
  | _, _ => False
theorem Vals.keys : ∀ {tab : List (Int × Const)} {kvs : List (Int × Value)}, Vals tab kvs → kvs.map (·.1) = tab.map (·.1)
  | [], [], _ => rfl
  | (_, _) :: _, (_, _) :: _, h => by rw [List.map_cons, List.map_cons, Vals.keys h.2.2, h.1]
  | [], _ :: _, h => h.elim
  | _ :: _, [], h => h.elim
theorem Vals.length {tab : List (Int × Const)} {kvs : List (Int × Value)} (h : Vals tab kvs) : kvs.length = tab.length := by
  have := congrArg List.length h.keys; simpa using this
theorem Vals.append : ∀ {tab tab' : List (Int × Const)} {kvs kvs' : List (Int × Value)}, Vals tab kvs → Vals tab' kvs' → Vals (tab ++ tab') (kvs ++ kvs')
  | [], _, [], _, _, h' => h'
  | (_, _) :: _, _, (_, _) :: _, _, h, h' => ⟨h.1, h.2.1, Vals.append h.2.2 h'⟩
  | [], _, _ :: _, _, h, _ => h.elim
  | _ :: _, _, [], _, h, _ => h.elim
theorem Vals.at : ∀ {tab : List (Int × Const)} {kvs : List (Int × Value)}, Vals tab kvs → ∀ k, (tab.lookup k = none → valueAt kvs k = none) ∧ ∀ c, tab.lookup k = some c → ∃ v, valueAt kvs k = some v ∧ c.Val v
  | [], [], _, k => ⟨fun _ => rfl, fun c h => by simp at h⟩
  | (k0, c') :: tab, (k', v) :: kvs, h, k => by
    obtain ⟨hk, hc, hr⟩ := h
    subst hk
    have ih := Vals.at hr k
    by_cases e : k = k'
    · subst e
      refine ⟨fun h => by simp at h, fun c h => ⟨v, by simp [valueAt], ?_⟩⟩
      simp at h; subst h; exact hc
    · have e' : ¬ k' = k := fun x => e x.symm
      have e2 : (k == k') = false := by simpa using e
      refine ⟨fun h => ?_, fun c h => ?_⟩
      · rw [List.lookup_cons, e2] at h
        have := ih.1 h
        simpa [valueAt, List.find?_cons, e'] using this
      · rw [List.lookup_cons, e2] at h
        obtain ⟨v', h1, h2⟩ := ih.2 c h
        exact ⟨v', by simpa [valueAt, List.find?_cons, e'] using h1, h2⟩
  | [], _ :: _, h, _ => h.elim
  | _ :: _, [], h, _ => h.elim

section
variable {prog : Program} {w : World} {A : Around} {E : Value → Shared → Prop} {s : Shared} {env : Env}

/-- the trees of one written pair -/
noncomputable def pairTree (env : Env) (pos : Pos) (kc : Int × Const) : Sem Value × Sem Value := (mkInt kc.1, do let x ← constValue env kc.2; standAt pos; pure x)

noncomputable def plainC : Const → Bool
  | .none | .bool _ | .int _ | .float _ | .str _ | .bytes _ => true
  | _ => false
theorem plainC_of {c : Const} {k : Nat} {p : Pos} (h : (PySem.Expr.Constant c k p).isPlainConst = true) : plainC c = true := by
  cases c <;> first | rfl | cases h

theorem eachOpt_cons (e : Option PySem.Expr) (r : List (Option PySem.Expr)) : evalEachOpt (e :: r) env = evalOpt e env :: evalEachOpt r env := rfl
theorem constPairs_trees (pos : Pos) : ∀ (keys : List (Option PySem.Expr)) (values : List PySem.Expr) (tab : List (Int × Const)), constPairs keys values = some tab →
    ((evalEachOpt keys env).zip ((evalEach values env).map fun v => do let x ← v; standAt pos; pure x)) = tab.map (fun kc => (some (pairTree env pos kc).1, (pairTree env pos kc).2)) ∧ ∀ kc ∈ tab, plainC kc.2 = true
  | [], [], tab, h => by cases h; exact ⟨rfl, fun _ h => nomatch h⟩
  | some e :: ks, v :: vs, tab, h => by
    unfold constPairs at h
    split at h
    · rename_i h1 h2; cases h1
    · rename_i ks' vs' k kk kp e' vs'' h1 h2
      injection h1 with h1 h1'
      injection h1 with h1
      injection h2 with h2 h2'
      subst h1 h1' h2 h2'
      split at h
      · rename_i c k2 p2
        split at h
        · rename_i hp
          obtain ⟨t, ht, rfl⟩ := Option.map_eq_some_iff.mp h
          obtain ⟨ih1, ih2⟩ := constPairs_trees pos _ _ _ ht
          refine ⟨?_, fun kc hk => ?_⟩
          · rw [eachOpt_cons, evalEach, List.map_cons, List.zip_cons_cons, ih1]
            rfl
          · rcases List.mem_cons.mp hk with rfl | hk
            · exact plainC_of hp
            · exact ih2 kc hk
        · cases h
      · cases h
    · cases h
  | none :: _, _, tab, h => by simp [constPairs] at h
  | [], _ :: _, tab, h => by simp [constPairs] at h
  | some _ :: _, [], tab, h => by simp [constPairs] at h

theorem pairTree_fst {pos : Pos} {kc : Int × Const} {Q : Value → Shared → Prop} (h : ∀ v tk, (intKind prog w).is kc.1 v = true → Q v { s with toks := tk }) : wpAny (model prog w) A (pairTree env pos kc).1 Q E s :=
  wpAny_mkInt (h _ _ (by simp [intKind, Value.isInt]))
theorem pairTree_snd {pos : Pos} {kc : Int × Const} {Q : Value → Shared → Prop} (hp : plainC kc.2 = true) (h : ∀ v tk, kc.2.Val v → Q v { s with toks := tk }) : wpAny (model prog w) A (pairTree env pos kc).2 Q E s := by
  obtain ⟨k, c⟩ := kc
  show wpAny _ _ (do let x ← constValue env c; standAt pos; pure x) _ _ _
  refine wpAny_bind ?_
  have he : (PySem.Expr.Constant c 0 pos).isPlainConst = true := by cases c <;> first | rfl | cases hp
  have := wpAny_eval_const (M := model prog w) (A := A) (E := E) (s := s) (env := env) (e := .Constant c 0 pos) (Q := Q) he fun v tk hv => h v tk hv
  exact wpAny_mono this (fun v s' q => wpAny_bind (wpAny_standAt (wpAny_pure q))) fun _ _ e => e

theorem evalPairs_const {pos : Pos} : ∀ (tab : List (Int × Const)) (s : Shared) (Q : List (Value × Value) → Shared → Prop), (∀ kc ∈ tab, plainC kc.2 = true) →
    (∀ vs kvs tk, Carries (intKind prog w) vs kvs → Vals tab kvs → Q vs { s with toks := tk }) → wpAny (model prog w) A (evalPairs (tab.map (pairTree env pos))) Q E s
  | [], s, Q, _, h => evalPairs_nil (h [] [] s.toks trivial trivial)
  | kc :: tab, s, Q, hp, h => by
    rw [List.map_cons]
    refine evalPairs_cons (pairTree_fst (env := env) (pos := pos) fun v tk hv => pairTree_snd (env := env) (pos := pos) (hp kc (.head _)) fun v' tk' hv' => ?_)
    refine evalPairs_const tab _ _ (fun x hx => hp x (.tail _ hx)) fun vs kvs tk'' hc hvs => ?_
    exact h _ ((kc.1, v') :: kvs) tk'' ⟨hv, rfl, hc⟩ ⟨rfl, hv', hvs⟩

theorem storeLong {pos : Pos} {d : Addr} : ∀ (tab : List (Int × Const)) (done : List (Int × Const)) (acc : List (Int × Value)) (s : Shared) (Q : PUnit → Shared → Prop), (∀ kc ∈ tab, plainC kc.2 = true) →
    s.heap.DictOf (intKind prog w) d acc → Vals done acc → ((done ++ tab).map (·.1)).Nodup → done.length + tab.length ≤ sizeLine →
    (∀ h' kvs tk, h'.DictOf (intKind prog w) d kvs → Vals (done ++ tab) kvs → Heap.SameBut d s.heap h' → Q PUnit.unit { s with heap := h', toks := tk }) →
    wpAny (model prog w) A (forIn (tab.map (pairTree env pos)) PUnit.unit fun (x : Sem Value × Sem Value) (_ : PUnit) => (do
      let kv ← x.1
      let vv ← holding [kv] x.2
      holding [kv, vv] (dictSet d kv vv)
      pure (ForInStep.yield PUnit.unit) : Sem (ForInStep PUnit))) Q E s
  | [], done, acc, s, Q, _, hd, hv, _, _, h => by
    rw [List.map_nil, List.forIn_nil]
    exact wpAny_pure (h s.heap acc s.toks hd (by simpa using hv) (Heap.SameBut.refl _ _))
  | kc :: tab, done, acc, s, Q, hp, hd, hv, hn, hsz, h => by
    rw [List.map_cons, List.forIn_cons]
    refine wpAny_bind (wpAny_bind (pairTree_fst (env := env) (pos := pos) fun v tk hv1 => wpAny_bind (wpAny_holding (pairTree_snd (env := env) (pos := pos) (hp kc (.head _)) fun v' tk' hv' => ?_))))
    have hnot : kc.1 ∉ acc.map (·.1) := by
      rw [hv.keys]
      rw [List.map_append, List.nodup_append] at hn
      exact fun hm => hn.2.2 _ hm _ (by simp) rfl
    have hl : acc.length ≤ sizeLine := by rw [hv.length]; omega
    refine wpAny_bind (wpAny_holding (wpAny_dictSet_pairs (hsz := hl) (k := kc.1) hv1 hd fun h₁ hd₁ hs₁ => wpAny_pure ?_))
    have e : stored acc kc.1 v' = acc ++ [(kc.1, v')] := by
      rw [stored, if_neg]
      rw [List.any_eq_true]
      rintro ⟨kv, hkv, he⟩
      exact hnot (List.mem_map.mpr ⟨kv, hkv, of_decide_eq_true he⟩)
    rw [e] at hd₁
    refine storeLong tab (done ++ [kc]) _ _ Q (fun x hx => hp x (.tail _ hx)) hd₁ (hv.append ⟨rfl, hv', trivial⟩) (by simpa using hn) (by simp at hsz ⊢; omega) fun h' kvs tk'' hd' hv'' hs' => ?_
    exact h h' kvs tk'' hd' (by simpa using hv'') (hs₁.trans hs')

theorem subDict_const {pos : Pos} {tab : List (Int × Const)} {Q : Addr → Shared → Prop} (hp : ∀ kc ∈ tab, plainC kc.2 = true) (hn : (tab.map (·.1)).Nodup) (hsz : tab.length ≤ 17)
    (h : ∀ h' kvs tk, h'.DictOf (intKind prog w) s.heap.objs.size kvs → Vals tab kvs → Heap.SameBut s.heap.objs.size (s.heap.push { cls := .type "dict", data := .dict #[] }) h' → Q s.heap.objs.size { s with heap := h', toks := tk }) :
    wpAny (model prog w) A (subDict (tab.map (pairTree env pos))) Q E s := by
  by_cases hlen : tab.length ≤ 15
  · refine wpAny_subDict (knd := intKind prog w) (by simpa using hlen) (evalPairs_const tab _ _ hp fun vs kvs tk hc hv => ⟨kvs, hc, Heap.DictOf.new _, fun h' hd hs => ?_⟩)
    rw [merged_nil_of_nodup kvs (by rw [hv.keys]; exact hn)] at hd
    exact h h' kvs _ hd hv hs
  · unfold subDict
    refine wpAny_bind (wpAny_alloc ?_)
    refine wpAny_bind (wpAny_holding ?_)
    rw [if_neg (by simpa using hlen)]
    refine wpAny_bind (wpAny_rule ?_)
    refine wpAny_bind (storeLong tab [] [] _ _ hp (Heap.DictOf.new _) trivial (by simpa using hn) (by rw [sizeLine_eq]; simp; omega) fun h' kvs tk hd hv hs => wpAny_pure (wpAny_pure (h h' kvs tk hd (by simpa using hv) hs)))
end
end Mine

namespace Mine
section
variable {prog : Program} {w : World} {A : Around} {E : Value → Shared → Prop} {s : Shared} {env : Env}

noncomputable def DisplaySt (prog : Program) (w : World) (h₀ h₁ : Heap) (done : List (Int × Const)) (main : Option Addr) : Prop :=
  (∀ b o, h₀.get? b = some o → h₁.get? b = some o) ∧ h₀.objs.size ≤ h₁.objs.size ∧
  ((main = none ∧ done = []) ∨ ∃ d kvs, main = some d ∧ h₀.objs.size ≤ d ∧ done ≠ [] ∧ h₁.DictOf (intKind prog w) d kvs ∧ Vals done kvs)

theorem display_const {keys : List (Option PySem.Expr)} {values : List PySem.Expr} {pos : Pos} {tab : List (Int × Const)} {Q : Value → Shared → Prop} (hc : constPairs keys values = some tab) (hn : (tab.map (·.1)).Nodup) (hne : tab ≠ [])
    (hsz : tab.length ≤ 4000) (hsys : sysModules < s.heap.objs.size)
    (h : ∀ h' kvs d tk, s.heap.objs.size ≤ d → h'.DictOf (intKind prog w) d kvs → Vals tab kvs → (∀ b o, s.heap.get? b = some o → h'.get? b = some o) → Q (.ref d) { s with heap := h', toks := tk }) :
    wpAny (model prog w) A (eval (.Dict keys values pos) env) Q E s := by
  obtain ⟨ht, hp⟩ := constPairs_trees (env := env) pos keys values tab hc
  rw [arm_eval_Dict, ht]
  refine wpAny_bind (wpAny_standAt ?_)
  unfold dictDisplay
  extract_lets flush main0 run0
  have hfl : ∀ (done pend rem : List (Int × Const)) (main : Option Addr) (h₁ : Heap) (tk₁ : Nat) (Q' : Option Addr → Shared → Prop), tab = done ++ pend ++ rem → pend ≠ [] → pend.length ≤ 17 → DisplaySt prog w s.heap h₁ done main →
      (∀ d h₂ tk₂, DisplaySt prog w s.heap h₂ (done ++ pend) (some d) → Q' (some d) { s with heap := h₂, toks := tk₂ }) →
      wpAny (model prog w) A (flush (pend.map (pairTree env pos)) main) Q' E { s with heap := h₁, toks := tk₁ } := by
    intro done pend rem main h₁ tk₁ Q' htab hpe hpl hst hq
    have hpp : ∀ kc ∈ pend, plainC kc.2 = true := fun kc hk => hp kc (by rw [htab]; exact List.mem_append_left _ (List.mem_append_right _ hk))
    have hnp : (pend.map (·.1)).Nodup := by
      rw [htab, List.map_append, List.map_append] at hn
      exact (List.nodup_append.mp (List.nodup_append.mp hn).1).2.1
    have hlt : done.length + pend.length ≤ 4000 := by
      have := congrArg List.length htab
      simp only [List.length_append] at this
      omega
    have hne' : (pend.map (pairTree env pos)).isEmpty = false := by
      cases pend with
      | nil => exact absurd rfl hpe
      | cons _ _ => rfl
    obtain ⟨hk, hs₁, hcase⟩ := hst
    simp only [flush]
    rw [hne', if_neg Bool.false_ne_true]
    have hsb : ∀ h', Heap.SameBut h₁.objs.size (h₁.push { cls := .type "dict", data := .dict #[] }) h' → (∀ b o, h₁.get? b = some o → h'.get? b = some o) ∧ h₁.objs.size ≤ h'.objs.size := by
      intro h' hs
      refine ⟨fun b o e => (hs.2 b (Nat.ne_of_lt (Heap.lt_size e))).trans (Heap.get?_push_of_some _ e), ?_⟩
      rw [hs.1, Heap.size_push]; omega
    rcases hcase with ⟨rfl, rfl⟩ | ⟨d, kvs, rfl, hd, hdn, hdict, hv⟩
    · dsimp only
      refine wpAny_bind (subDict_const hpp hnp hpl fun h' kvs tk hd hv hs => wpAny_pure ?_)
      obtain ⟨k1, k2⟩ := hsb h' hs
      exact hq _ h' tk ⟨fun b o e => k1 b o (hk b o e), Nat.le_trans hs₁ k2, .inr ⟨_, kvs, rfl, hs₁, by simpa using hpe, hd, by simpa using hv⟩⟩
    · dsimp only
      refine wpAny_bind (wpAny_holding (subDict_const hpp hnp hpl fun h' kvs' tk hd' hv' hs => ?_))
      obtain ⟨k1, k2⟩ := hsb h' hs
      have hdlt : d < h₁.objs.size := by obtain ⟨o, _, _, ho, _⟩ := hdict; exact Heap.lt_size ho
      have hdict' : h'.DictOf (intKind prog w) d kvs := by
        obtain ⟨o, es, ep, ho, r⟩ := hdict
        exact ⟨o, es, ep, k1 _ _ ho, r⟩
      refine wpAny_bind (wpAny_onRaise (wpAny_holding (merge_ints hdict' ?_ hd' (Nat.ne_of_lt hdlt) ?_ ?_ ?_ fun h'' hd'' hs'' => wpAny_pure ?_)))
      · intro e; subst e; exact hdn (List.length_eq_zero_iff.mp (by have := hv.length; simpa using this.symm))
      · exact beq_eq_false_iff_ne.mpr fun e => absurd hsys (Nat.not_lt.mpr (by have e' : h₁.objs.size = sysModules := e; rw [← e']; exact hs₁))
      · rw [List.map_append, hv.keys, hv'.keys, ← List.map_append]
        rw [htab, List.map_append] at hn
        exact (List.nodup_append.mp hn).1
      · rw [hv.length, hv'.length, sizeLine_eq]; omega
      · refine hq d h'' tk ⟨fun b o e => (hs''.2 b (Nat.ne_of_lt (Nat.lt_of_lt_of_le (Heap.lt_size e) hd))).trans (k1 b o (hk b o e)), ?_, .inr ⟨d, kvs ++ kvs', rfl, hd, by simp [hdn], hd'', hv.append hv'⟩⟩
        rw [hs''.1]; exact Nat.le_trans hs₁ k2
  refine wpAny_bind ?_
  refine wpAny_forIn_list _
    (fun rest (b : Option Addr × List (Sem Value × Sem Value)) s' => ∃ done pend rem h₁ tk₁, tab = done ++ pend ++ rem ∧ rest = rem.map (fun kc => (some (pairTree env pos kc).1, (pairTree env pos kc).2)) ∧ b.2 = pend.map (pairTree env pos) ∧ pend.length < 17 ∧
      s' = { s with heap := h₁, toks := tk₁ } ∧ DisplaySt prog w s.heap h₁ done b.1) _ ?_ ?_ _ _ ⟨[], [], tab, s.heap, s.toks, by simp, rfl, rfl, by decide, rfl, fun _ _ e => e, Nat.le_refl _, .inl ⟨rfl, rfl⟩⟩
  · rintro x rest ⟨bm, br⟩ s' ⟨done, pend, rem, h₁, tk₁, htab, hr, hb, hl, rfl, hst⟩
    cases rem with
    | nil => cases hr
    | cons kc rem =>
      rw [List.map_cons] at hr
      injection hr with hx hr
      subst hx
      dsimp only at hb ⊢
      subst hb
      have e : pend.map (pairTree env pos) ++ [((pairTree env pos kc).1, (pairTree env pos kc).2)] = (pend ++ [kc]).map (pairTree env pos) := by simp
      rw [e]
      have htab' : tab = done ++ (pend ++ [kc]) ++ rem := by rw [htab]; simp
      by_cases h17 : pend.length + 1 = 17
      · have e17 : (((pend ++ [kc]).map (pairTree env pos)).length == 17) = true := by simp [h17]
        rw [e17, if_pos rfl]
        refine wpAny_bind (hfl done (pend ++ [kc]) rem bm h₁ tk₁ _ htab' (by simp) (by simp; omega) hst fun d h₂ tk₂ hst₂ => wpAny_pure ?_)
        exact ⟨done ++ (pend ++ [kc]), [], rem, h₂, tk₂, by rw [htab']; simp, hr, rfl, by decide, rfl, hst₂⟩
      · have e17 : (((pend ++ [kc]).map (pairTree env pos)).length == 17) = false := by simp; omega
        rw [e17, if_neg Bool.false_ne_true]
        exact wpAny_pure ⟨done, pend ++ [kc], rem, h₁, tk₁, htab', hr, rfl, by simp; omega, rfl, hst⟩
  · rintro ⟨bm, br⟩ s' ⟨done, pend, rem, h₁, tk₁, htab, hr, hb, hl, rfl, hst⟩
    have hrem : rem = [] := by
      cases rem with
      | nil => rfl
      | cons _ _ => cases hr
    subst hrem
    dsimp only at hb ⊢
    subst hb
    by_cases hpe : pend = []
    · subst hpe
      have hd : tab = done := by rw [htab]; simp
      subst hd
      obtain ⟨hk, hs₁, hcase⟩ := hst
      rcases hcase with ⟨_, e⟩ | ⟨d, kvs, e, hd, hdn, hdict, hv⟩
      · exact absurd e hne
      · subst e
        simp only [flush]
        rw [List.map_nil, List.isEmpty_nil, if_pos rfl]
        exact wpAny_bind (wpAny_pure (wpAny_pure (h h₁ kvs d tk₁ hd hdict hv hk)))
    · refine wpAny_bind (hfl done pend [] bm h₁ tk₁ _ htab hpe (by omega) hst fun d h₂ tk₂ hst₂ => ?_)
      obtain ⟨hk, hs₁, hcase⟩ := hst₂
      have hd : tab = done ++ pend := by rw [htab]; simp
      rcases hcase with ⟨e, _⟩ | ⟨d', kvs, e, hd', hdn, hdict, hv⟩
      · cases e
      · cases e
        rw [← hd] at hv
        exact wpAny_pure (h h₂ kvs d tk₂ hd' hdict hv hk)
end
end Mine

open PySem PySem.W PyProof.Rows PySem.Calls
namespace Mine

theorem wpAny_execs_append {M : Model} {A : Around} {E : Value → Shared → Prop} {env : Env} {Q : Flow → Shared → Prop} {s : Shared} {a b : List Stmt}
    (h : wpAny M A (execs a env) (fun f s' => match f with | .next => wpAny M A (execs b env) Q E s' | f => Q f s') E s) : wpAny M A (execs (a ++ b) env) Q E s := fun Γ p hΓ => by
  have key : ∀ (a : List Stmt) (p : Pos) (s : Shared), Sem.wp M Γ (execs a env) (fun f _ s' => match f with | .next => wpAny M A (execs b env) Q E s' | f => Q f s') (fun e _ s' => E e s') p s →
      Sem.wp M Γ (execs (a ++ b) env) (fun f _ s' => Q f s') (fun e _ s' => E e s') p s := by
    intro a
    induction a with
    | nil => intro p s h; exact (show wpAny M A (execs b env) Q E s from h) Γ p hΓ
    | cons st a ih =>
      intro p s h
      rw [execs_cons, Sem.wp_bind'] at h
      rw [List.cons_append, execs_cons, Sem.wp_bind']
      refine Sem.wp_mono M Γ _ (fun f p' s' h' => ?_) (fun _ _ _ h' => h') _ _ h
      cases f with
      | next => exact ih p' s' h'
      | brk => exact h'
      | cont => exact h'
      | ret v => exact h'
  exact key a p s (h Γ p hΓ)

noncomputable def allDefs : List DefRec := ds1 ++ ds2 ++ ds3 ++ ds4
/-- the text's table B.3, as its display spells it -/
noncomputable def tab3 : List (Int × Const) := match sOf 14 with
  | .Assign _ (.Dict ks vs _) _ => (constPairs ks vs).getD []
  | _ => []
noncomputable def b1List : List Int := [173, 847, 6150, 6155, 6156, 6157, 8203, 8204, 8205, 8288, 65279] ++ (List.range 16).map fun (i : Nat) => 65024 + (i : Int)
noncomputable def Tab3 (f : Int → Option Value) : Prop := ∀ k, (tab3.lookup k = none → f k = none) ∧ ∀ c, tab3.lookup k = some c → ∃ v, f k = some v ∧ c.Val v

/-- what stands behind the top, and stays under every heap that keeps it -/
structure Tops (w : World) (h : Heap) (mg mb : Str → Option Value) (k b1 b3 : Addr) : Prop where
  g : h.Ns mainGlobals mg
  fn : ∀ d ∈ allDefs, h.HasFn mg k d
  bset : mg "b1_set" = some (.ref b1)
  set1 : h.SetOf (intKind Pg w) b1 (fun c => b1List.contains c) 27
  bdict : mg "b3_exceptions" = some (.ref b3)
  dict3 : ∃ f, h.MapOf (intKind Pg w) b3 f ∧ Tab3 f
  b3n : (b3 == sysModules) = false
  b : h.Ns builtinsNs mb
  builtins : ∀ x : Str, x ≠ "__name__" → mb x = bootBuiltins x
  free : ∀ x, x ∉ Pg.boundNames → x ∉ bootMainNames → mg x = none
  nolimit : h.NoLimit
theorem Tops.keeps {w : World} {h h' : Heap} {mg mb : Str → Option Value} {k b1 b3 : Addr} (T : Tops w h mg mb k b1 b3) (hk : ∀ b o, h.get? b = some o → h'.get? b = some o) : Tops w h' mg mb k b1 b3 :=
  ⟨T.g.keeps hk, fun d hd => let ⟨a, o, pm, code, doc, h1, h2, h3, h4, h5, h6⟩ := T.fn d hd; ⟨a, o, pm, code, doc, h1, hk _ _ h2, h3, h4.keeps hk, h5, h6⟩, T.bset,
    (let ⟨o, es, ep, t, ho, r⟩ := T.set1; ⟨o, es, ep, t, hk _ _ ho, r⟩), T.bdict, (let ⟨f, ⟨o, es, ep, ho, r⟩, hf⟩ := T.dict3; ⟨f, ⟨o, es, ep, hk _ _ ho, r⟩, hf⟩), T.b3n, T.b.keeps hk, T.builtins, T.free, T.nolimit.keeps hk⟩

theorem HasFn.keep' {h h' : Heap} {mg mg' : Str → Option Value} {Pl : Addr} {d : DefRec} (x : h.HasFn mg Pl d) (low : mainGlobals < Pl) (keep : ∀ b o, b ≠ Pl → b ≠ mainGlobals → h.get? b = some o → h'.get? b = some o)
    (hm : mg' d.name = mg d.name) : h'.HasFn mg' Pl d := by
  obtain ⟨a, o, pm, code, doc, h1, h2, h3, h4, h5, h6⟩ := x
  exact ⟨a, o, pm, code, doc, hm.trans h1, keep _ _ (Nat.ne_of_gt h5) (Nat.ne_of_gt (Nat.lt_trans low h5)) h2, h3, h4.at fun o => keep _ o (Nat.ne_of_gt h6) (Nat.ne_of_gt (Nat.lt_trans low h6)), h5, h6⟩

section
variable {M : Model} {A : Around} {E : Value → Shared → Prop} {s : Shared} {mg : Str → Option Value} {c Pl F : Addr} {ps : Array Value}
theorem main_store {name : Str} {v : Value} {Q : Unit → Shared → Prop} (hm : s.heap.Main mg c Pl ps) (hnb : name ≠ "__builtins__") (hloc : Pg.main.scope.names.lookup name = some .local)
    (h : ∀ h', h'.Main (fun x => if x = name then some v else mg x) c Pl ps → (∀ b o, b ≠ Pl → b ≠ mainGlobals → s.heap.get? b = some o → h'.get? b = some o) → (∀ b o, b ≠ mainGlobals → s.heap.get? b = some o → h'.get? b = some o) → Q () { s with heap := h', toks := s.toks + 1 }) :
    wpAny M A (storeName (mainEnv Pg c F) name v) Q E s := by
  refine wpAny_storeName_local (env := mainEnv Pg c F) hloc hm.g (fun h' hg' hs' => ?_) (by rfl)
  obtain ⟨bm, o, hbm, hne0, hneG, hneP, hbo, hrest⟩ := hm.bmod
  have kp : ∀ b o, b ≠ mainGlobals → s.heap.get? b = some o → h'.get? b = some o := fun b o hb e => (hs'.2 b hb).trans e
  refine h h' ⟨hg', hm.code.sameBut hs' (Nat.ne_of_gt hm.low.1) (Nat.ne_of_gt hm.low.2), hm.low, ⟨bm, o, by simp only [Ne.symm hnb, if_false]; exact hbm, hne0, hneG, hneP, kp _ _ hneG hbo, hrest⟩⟩ (fun b o _ hb e => kp b o hb e) kp
end
end Mine

namespace Mine

theorem tab3_ok : (match sOf 14 with | .Assign [.Name n _] (.Dict ks vs _) _ => (constPairs ks vs).isSome && n == ("b3_exceptions" : Str) | _ => false) = true := by decide +kernel
theorem tab3_len : tab3.length = 650 := by decide +kernel
noncomputable def risingB : List Int → Bool
  | a :: b :: r => decide (a < b) && risingB (b :: r)
  | _ => true
theorem risingB_lt : ∀ (l : List Int) (a : Int), risingB (a :: l) = true → ∀ x ∈ l, a < x
  | [], _, _, x, hx => nomatch hx
  | b :: r, a, h, x, hx => by
    simp only [risingB, Bool.and_eq_true, decide_eq_true_eq] at h
    rcases List.mem_cons.mp hx with rfl | hx
    · exact h.1
    · exact Int.lt_trans h.1 (risingB_lt r b h.2 x hx)
theorem risingB_nodup : ∀ (l : List Int), risingB l = true → l.Nodup
  | [], _ => List.nodup_nil
  | a :: r, h => List.nodup_cons.mpr ⟨fun hm => absurd (risingB_lt r a h a hm) (Int.lt_irrefl _), risingB_nodup r (by
      cases r with
      | nil => rfl
      | cons b r => simp only [risingB, Bool.and_eq_true] at h; exact h.2)⟩
theorem tab3_rising : risingB (tab3.map (·.1)) = true := by decide +kernel
theorem tab3_nodup : (tab3.map (·.1)).Nodup := risingB_nodup _ tab3_rising
end Mine

namespace Mine

theorem intsAre_of : ∀ (l : List Value) (g : Nat → Int), (∀ (j : Nat) (v : Value), l[j]? = some v → ∃ t, v = Value.int (g j) t) → IntsAre l ((List.range l.length).map g)
  | [], _, _ => .nil
  | v :: l, g, h => by
    obtain ⟨t, rfl⟩ := h 0 v rfl
    have := intsAre_of l (fun j => g (j + 1)) fun j v hv => h (j + 1) v hv
    rw [List.length_cons, List.range_succ_eq_map, List.map_cons, List.map_map]
    exact .cons _ _ this

theorem boots : bootBuiltins "ord" = some (.builtin "ord") ∧ bootBuiltins "chr" = some (.builtin "chr") ∧ bootBuiltins "len" = some (.builtin "len") ∧ bootBuiltins "set" = some (.type "set") ∧ bootBuiltins "list" = some (.type "list") ∧ bootBuiltins "range" = some (.type "range") ∧
    bootBuiltins "reversed" = some (.type "reversed") ∧ bootBuiltins "enumerate" = some (.type "enumerate") ∧ bootBuiltins "min" = some (.builtin "min") ∧ bootBuiltins "max" = some (.builtin "max") ∧ bootBuiltins "int" = some (.type "int") := by decide +kernel
theorem boot_set : bootBuiltins "set" = some (.type "set") := boots.2.2.2.1
theorem boot_list : bootBuiltins "list" = some (.type "list") := boots.2.2.2.2.1
theorem boot_range : bootBuiltins "range" = some (.type "range") := boots.2.2.2.2.2.1

theorem keep_trans {h₀ h₁ h₂ : Heap} (a : ∀ b o, h₀.get? b = some o → h₁.get? b = some o) (c : ∀ b o, h₁.get? b = some o → h₂.get? b = some o) : ∀ b o, h₀.get? b = some o → h₂.get? b = some o := fun b o e => c b o (a b o e)
theorem keep_push (h : Heap) (o : Obj) : ∀ b o', h.get? b = some o' → (h.push o).get? b = some o' := fun _ _ e => Heap.get?_push_of_some _ e

section
variable {w : World} {A : Around} {E : Value → Shared → Prop} {s : Shared} {mg mb : Str → Option Value} {c Pl F : Addr} {ps : Array Value}

theorem b1_stmt {Q : Flow → Shared → Prop} (hA : A.handled = none) (hm : s.heap.Main mg c Pl ps) (hb : s.heap.Ns builtinsNs mb) (hbi : ∀ x : Str, x ≠ "__name__" → mb x = bootBuiltins x)
    (f1 : mg "set" = none) (f2 : mg "list" = none) (f3 : mg "range" = none)
    (h : ∀ b1 h' tk, s.heap.objs.size ≤ b1 → h'.Main (fun x => if x = "b1_set" then some (.ref b1) else mg x) c Pl ps → h'.SetOf (intKind Pg w) b1 (fun c => b1List.contains c) 27 →
      (∀ b o, b ≠ mainGlobals → s.heap.get? b = some o → h'.get? b = some o) → Q .next { s with heap := h', toks := tk }) :
    wpAny (model Pg w) A (exec (sOf 12) (mainEnv Pg c F)) Q E s := by
  have nm : ∀ {s' : Shared} (x : Str) (v : Value) (pos : Pos) {Q : Value → Shared → Prop}, (∀ b o, s.heap.get? b = some o → s'.heap.get? b = some o) → mg x = none → x ≠ "__name__" → bootBuiltins x = some v → (x == ("__debug__" : Str)) = false → Q v s' →
      wpAny (model Pg w) A (eval (.Name x pos) (mainEnv Pg c F)) Q E s' := by
    intro s' x v pos Q hk hx hn hv hd hq
    exact Name_module rfl rfl (loadGlobal_builtin (env := mainEnv Pg c F) (hm.g.keeps hk) hx (hb.keeps hk) ((hbi x hn).trans hv) hq) hd
  conv in (sOf 12) => whnf
  refine wpAny_Assign_Name ?_
  refine Call_Name1 (nm "set" _ _ (fun _ _ e => e) f1 (by decide) boot_set (by decide) ?_)
  refine PySem.callWith_type1 ?_
  refine wpAny_BinOp ?_
  refine List_ ?_
  iterate 11
    refine args_cons ?_
    refine wpAny_Constant_int ?_
    try dsimp only
  refine args_nil ?_
  refine wpAny_newObj_type ?_ (by size_fits)
  try dsimp only
  refine Call_Name1 (nm "list" _ _ (keep_push _ _) f2 (by decide) boot_list (by decide) ?_)
  refine PySem.callWith_type1 ?_
  refine Call_Name2 (nm "range" _ _ (keep_push _ _) f3 (by decide) boot_range (by decide) ?_)
  refine PyProof.Rows.callWith_type rfl ?_
  refine evalArgs_plain ?_
  refine spliced_cons ?_
  refine wpAny_Constant_int ?_
  refine spliced_cons ?_
  refine wpAny_Constant_int ?_
  refine spliced_nil ?_
  try dsimp only
  refine call_range_2 ?_
  try dsimp only
  refine call_list_range hA (IsRange.new _ _ _ _ _ _ _) (by decide +kernel) (n := 16) (by decide +kernel) (by decide) fun h₁ tk₁ acc' c' k₁ hl₁ hi₁ => ?_
  refine P.add_list (k₁ _ _ (keep_push _ _ _ _ (Heap.get?_push_size _ rfl))) hl₁ ?_ (by
    rw [sizeLine_eq]
    have := hi₁.1
    simp only [List.size_toArray, List.length_cons, List.length_nil]
    omega)
  try dsimp only
  have hsz := hi₁.1
  have hints := intsAre_of acc'.toList (fun i => 65024 + (i : Int) * 1) fun j v hv => hi₁.2 j v (by simpa using hv)
  have hlen : acc'.toList.length = 16 := by rw [Array.length_toList]; exact hsz
  rw [hlen] at hints
  have hsz₁ : s.heap.objs.size ≤ h₁.objs.size := by
    have h1 : @LT.lt Nat _ (s.heap.objs.size + 1 + 1) h₁.objs.size := by simpa only [Heap.size_push] using Heap.lt_size hl₁
    omega
  have kp₁ : ∀ (o₁ : Obj) b o, s.heap.get? b = some o → (h₁.push o₁).get? b = some o := fun o₁ b o e => keep_push _ _ _ _ (k₁ _ _ (keep_push _ _ _ _ (keep_push _ _ _ _ e)))
  have hall : IntsAre (#[Value.int 173 s.toks, .int 847 (s.toks + 1), .int 6150 (s.toks + 1 + 1), .int 6155 (s.toks + 1 + 1 + 1), .int 6156 (s.toks + 1 + 1 + 1 + 1), .int 6157 (s.toks + 1 + 1 + 1 + 1 + 1), .int 8203 (s.toks + 1 + 1 + 1 + 1 + 1 + 1),
      .int 8204 (s.toks + 1 + 1 + 1 + 1 + 1 + 1 + 1), .int 8205 (s.toks + 1 + 1 + 1 + 1 + 1 + 1 + 1 + 1), .int 8288 (s.toks + 1 + 1 + 1 + 1 + 1 + 1 + 1 + 1 + 1), .int 65279 (s.toks + 1 + 1 + 1 + 1 + 1 + 1 + 1 + 1 + 1 + 1)] ++ acc').toList b1List := by
    rw [Array.toList_append]
    refine IntsAre.append (ns := [173, 847, 6150, 6155, 6156, 6157, 8203, 8204, 8205, 8288, 65279]) ?_ ?_
    · repeat (first | exact IntsAre.nil | refine IntsAre.cons _ _ ?_)
    · simpa using hints
  have e27 : (#[Value.int 173 s.toks, .int 847 (s.toks + 1), .int 6150 (s.toks + 1 + 1), .int 6155 (s.toks + 1 + 1 + 1), .int 6156 (s.toks + 1 + 1 + 1 + 1), .int 6157 (s.toks + 1 + 1 + 1 + 1 + 1), .int 8203 (s.toks + 1 + 1 + 1 + 1 + 1 + 1),
      .int 8204 (s.toks + 1 + 1 + 1 + 1 + 1 + 1 + 1), .int 8205 (s.toks + 1 + 1 + 1 + 1 + 1 + 1 + 1 + 1), .int 8288 (s.toks + 1 + 1 + 1 + 1 + 1 + 1 + 1 + 1 + 1), .int 65279 (s.toks + 1 + 1 + 1 + 1 + 1 + 1 + 1 + 1 + 1 + 1)] ++ acc').size = 27 := by
    rw [Array.size_append, hsz]; rfl
  generalize #[Value.int 173 s.toks, .int 847 (s.toks + 1), .int 6150 (s.toks + 1 + 1), .int 6155 (s.toks + 1 + 1 + 1), .int 6156 (s.toks + 1 + 1 + 1 + 1), .int 6157 (s.toks + 1 + 1 + 1 + 1 + 1), .int 8203 (s.toks + 1 + 1 + 1 + 1 + 1 + 1),
      .int 8204 (s.toks + 1 + 1 + 1 + 1 + 1 + 1 + 1), .int 8205 (s.toks + 1 + 1 + 1 + 1 + 1 + 1 + 1 + 1), .int 8288 (s.toks + 1 + 1 + 1 + 1 + 1 + 1 + 1 + 1 + 1), .int 65279 (s.toks + 1 + 1 + 1 + 1 + 1 + 1 + 1 + 1 + 1 + 1)] ++ acc' = items at hall e27 ⊢
  refine call_set_list (ns := b1List) hA ⟨_, Heap.get?_push_size _ rfl, rfl, 0, rfl⟩ hall (by rw [e27]; decide) fun h₂ tk₂ hset k₂ => ?_
  have kp₂ := kp₁ { cls := .type "list", data := .seq items }
  have hsz₂ : s.heap.objs.size ≤ (h₁.push { cls := .type "list", data := .seq items }).objs.size := by rw [Heap.size_push]; omega
  generalize h₁.push { cls := .type "list", data := .seq items } = hp at hset k₂ kp₂ hsz₂ ⊢
  dsimp only at hset k₂ ⊢
  have e1 : (firstMet (fun i => b1List.getD i 0) 27) = b1List := by decide +kernel
  have e2 : ∀ k : Int, b1List.any (fun x => x == k) = b1List.contains k := fun k => by
    rw [List.contains_eq_any_beq]
    congr 1
    funext x
    exact Bool.beq_comm
  simp only [e27, e1, e2] at hset
  have kp : ∀ b o, s.heap.get? b = some o → h₂.get? b = some o := fun b o e => k₂ b o (Heap.lt_size (kp₂ b o e)) (kp₂ b o e)
  have hm₂ : h₂.Main mg c Pl ps := hm.keeps kp
  have hlt : mainGlobals < hp.objs.size := by
    obtain ⟨o, _, _, ho, _⟩ := hm.g
    exact Heap.lt_size (kp₂ _ _ ho)
  refine main_store hm₂ (by decide) (by decide +kernel) fun h₃ hm₃ _ k₃ => ?_
  refine h hp.objs.size h₃ _ hsz₂ hm₃ ?_ (fun b o hb e => k₃ b o hb (kp b o e))
  obtain ⟨o, es, ep, t, ho, r⟩ := hset
  exact ⟨o, es, ep, t, k₃ _ _ (Nat.ne_of_gt hlt) ho, r⟩
end
end Mine

namespace Mine

theorem const3 : ∃ p1 ks vs p2 p3, sOf 14 = .Assign [.Name "b3_exceptions" p1] (.Dict ks vs p2) p3 ∧ constPairs ks vs = some tab3 := by
  have h := tab3_ok
  unfold tab3
  generalize sOf 14 = st at h ⊢
  split at h
  · rename_i n p1 ks vs p2 p3
    simp only [Bool.and_eq_true, beq_iff_eq] at h
    obtain ⟨h1, rfl⟩ := h
    obtain ⟨t, ht⟩ := Option.isSome_iff_exists.mp h1
    exact ⟨p1, ks, vs, p2, p3, rfl, by dsimp only; rw [ht]; rfl⟩
  · cases h

section
variable {w : World} {A : Around} {E : Value → Shared → Prop} {s : Shared} {mg mb : Str → Option Value} {c Pl F : Addr} {ps : Array Value}
theorem b3_stmt {Q : Flow → Shared → Prop} (hm : s.heap.Main mg c Pl ps) (hsys : sysModules < s.heap.objs.size)
    (h : ∀ d h' tk f, s.heap.objs.size ≤ d → h'.Main (fun x => if x = "b3_exceptions" then some (.ref d) else mg x) c Pl ps → h'.MapOf (intKind Pg w) d f → Tab3 f →
      (∀ b o, b ≠ mainGlobals → s.heap.get? b = some o → h'.get? b = some o) → Q .next { s with heap := h', toks := tk }) :
    wpAny (model Pg w) A (exec (sOf 14) (mainEnv Pg c F)) Q E s := by
  obtain ⟨p1, ks, vs, p2, p3, e, hc⟩ := const3
  rw [e]
  refine wpAny_Assign_Name ?_
  refine display_const (w := w) hc tab3_nodup (by intro e; have := tab3_len; rw [e] at this; cases this) (by rw [tab3_len]; decide) hsys fun h₁ kvs d tk₁ hd hdict hv k₁ => ?_
  have hglt : mainGlobals < s.heap.objs.size := hm.g.lt
  refine main_store (hm.keeps k₁) (by decide) (by decide +kernel) fun h₂ hm₂ _ k₂ => ?_
  refine h d h₂ _ (valueAt kvs) hd hm₂ ?_ (fun k => hv.at k) (fun b o hb e => k₂ b o hb (k₁ b o e))
  have hd' := hdict.mapOf
  obtain ⟨o, es, ep, ho, r⟩ := hd'
  exact ⟨o, es, ep, k₂ _ _ (Nat.ne_of_gt (Nat.lt_of_lt_of_le hglt hd)) ho, r⟩
end

theorem name_stmt0 : ∃ p1 x k p2 p3, sOf 0 = .Assign [.Name "__name__" p1] (.Constant (.str x) k p2) p3 := ⟨_, _, _, _, _, by rfl⟩
theorem name_stmt11 : ∃ p1 x k p2 p3, sOf 11 = .Assign [.Name "__name__" p1] (.Constant (.str x) k p2) p3 := ⟨_, _, _, _, _, by rfl⟩
theorem name_stmt16 : ∃ p1 x k p2 p3, sOf 16 = .Assign [.Name "__name__" p1] (.Constant (.str x) k p2) p3 := ⟨_, _, _, _, _, by rfl⟩

theorem plains1 : ∀ d ∈ ds1, d.Plain Pg := by
  simp only [ds1, List.mem_cons, List.not_mem_nil, or_false]
  rintro d (rfl | rfl | rfl | rfl | rfl | rfl | rfl | rfl | rfl | rfl) <;> exact plain_of (fun _ => by rfl) (by decide +kernel)
theorem plains2 : ∀ d ∈ ds2, d.Plain Pg := by
  simp only [ds2, List.mem_cons, List.not_mem_nil, or_false]
  rintro d rfl; exact plain_of (fun _ => by rfl) (by decide +kernel)
theorem plains3 : ∀ d ∈ ds3, d.Plain Pg := by
  simp only [ds3, List.mem_cons, List.not_mem_nil, or_false]
  rintro d rfl; exact plain_of (fun _ => by rfl) (by decide +kernel)
theorem plains4 : ∀ d ∈ ds4, d.Plain Pg := by
  simp only [ds4, List.mem_cons, List.not_mem_nil, or_false]
  rintro d (rfl | rfl | rfl | rfl | rfl | rfl) <;> exact plain_of (fun _ => by rfl) (by decide +kernel)

section
variable {M : Model} {A : Around} {E : Value → Shared → Prop}
noncomputable def apart (p q : Pos) : Bool := !(p.line == q.line && p.col == q.col)
theorem defs_run {c Pl F : Addr} : ∀ (ds done : List DefRec) (l : List (Pos × Addr)) (s : Shared) (mg : Str → Option Value) (Q : Flow → Shared → Prop),
    (∀ d ∈ ds, d.Plain Pg) → (ds.map (·.name)).Nodup → (∀ d ∈ ds, ∀ e ∈ done, d.name ≠ e.name) → (∀ d ∈ ds, ∀ q ∈ l.map (·.1), apart q d.pos = true) → List.Pairwise (fun a b => apart a b = true) (ds.map (·.pos)) →
    s.heap.Main mg c Pl (triples l).toArray → (∀ e ∈ done, s.heap.HasFn mg Pl e) →
    (∀ h' tk mg' l', h'.Main mg' c Pl (triples l').toArray → l'.map (·.1) = l.map (·.1) ++ ds.map (·.pos) → (∀ e ∈ done ++ ds, h'.HasFn mg' Pl e) → (∀ x, (∀ d ∈ ds, x ≠ d.name) → mg' x = mg x) →
      (∀ b o, b ≠ Pl → b ≠ mainGlobals → s.heap.get? b = some o → h'.get? b = some o) → Q .next { s with heap := h', toks := tk }) →
    wpAny M A (execs (ds.map (·.stmt)) (mainEnv Pg c F)) Q E s
  | [], done, l, s, mg, Q, _, _, _, _, _, hm, hdone, h => by
    refine wpAny_execs_nil ?_
    exact h s.heap s.toks mg l hm (by simp) (by simpa using hdone) (fun _ _ => rfl) (fun _ _ _ _ e => e)
  | d :: ds, done, l, s, mg, Q, hp, hn, hnd, hql, hq, hm, hdone, h => by
    have hPl : Pl < s.heap.objs.size := hm.code.lt.2
    refine wpAny_execs_cons (wpAny_def (hp d (List.mem_cons_self ..)) rfl hm ?_ fun a c' doc h₁ tk₁ ha hm₁ hf hc keep => ?_)
    · rw [List.toList_toArray]
      refine codeAmong_triples _ _ fun q hq' e => ?_
      have := hql d (List.mem_cons_self ..) q.1 (List.mem_map_of_mem hq')
      simp [apart, e.1, e.2] at this
    have hm₁' : h₁.Main (fun x => if x = d.name then some (.ref a) else mg x) c Pl (triples (l ++ [(d.pos, c')])).toArray := by
      rw [triples_append]; simpa using hm₁
    have hn' := List.nodup_cons.mp hn
    have hq' := List.pairwise_cons.mp hq
    refine defs_run ds (done ++ [d]) (l ++ [(d.pos, c')]) _ _ Q (fun e he => hp e (List.mem_cons_of_mem _ he)) hn'.2 ?_ ?_ hq'.2 hm₁' ?_ ?_
    · intro e he e' he'
      rcases List.mem_append.mp he' with h1 | h1
      · exact hnd e (List.mem_cons_of_mem _ he) e' h1
      · obtain rfl : e' = d := by simpa using h1
        exact fun x => hn'.1 (List.mem_map.mpr ⟨e, he, x⟩)
    · intro e he q hq₂
      rw [List.map_append] at hq₂
      rcases List.mem_append.mp hq₂ with h1 | h1
      · exact hql e (List.mem_cons_of_mem _ he) q h1
      · obtain rfl : q = d.pos := by simpa using h1
        exact hq'.1 _ (List.mem_map_of_mem he)
    · intro e he
      rcases List.mem_append.mp he with h1 | h1
      · refine HasFn.keep' (hdone e h1) hm.low.2 keep ?_
        show (if e.name = d.name then _ else mg e.name) = _
        rw [if_neg (fun x => hnd d (List.mem_cons_self ..) e h1 x.symm)]
      · obtain rfl : e = d := by simpa using h1
        exact ⟨a, _, _, c', doc, by simp, hf, rfl, hc.2, Nat.lt_of_lt_of_le hPl ha, Nat.lt_of_lt_of_le hPl hc.1⟩
    · intro h' tk mg' l' hm' hl' hall hmg hk
      refine h h' tk mg' l' hm' (by rw [hl']; simp) (fun e he => hall e (by simpa [List.append_assoc] using he)) (fun x hx => ?_) fun b o hbP hbG e => hk b o hbP hbG (keep b o hbP hbG e)
      rw [hmg x fun e he => hx e (List.mem_cons_of_mem _ he)]
      show (if x = d.name then _ else mg x) = mg x
      rw [if_neg (hx d (List.mem_cons_self ..))]
end
/-- what the top's run leaves, told of the state before it -/
noncomputable def Behind (w : World) (mg₀ mb : Str → Option Value) (s s' : Shared) : Prop :=
  ∃ h' tk mg k b1 b3, s' = { s with heap := h', toks := tk } ∧ Tops w h' mg mb k b1 b3 ∧ (∀ b o, b ≠ mainGlobals → s.heap.get? b = some o → h'.get? b = some o) ∧ (∀ x, x ∉ Pg.boundNames → mg x = mg₀ x) ∧ h'.BuiltinsAt mg k

end Mine

namespace Mine

theorem names_in : (ds1 ++ ds2 ++ ds3 ++ ds4).all (fun d => Pg.boundNames.contains d.name) = true := by decide +kernel
theorem name_in {d : DefRec} (h : d ∈ allDefs) : d.name ∈ Pg.boundNames := List.contains_iff_mem.mp (List.all_eq_true.mp names_in d h)
theorem ne_name {d : DefRec} (h : d ∈ allDefs) {x : Str} (hx : x ∉ Pg.boundNames) : x ≠ d.name := fun e => hx (e ▸ name_in h)
theorem bound3 : Pg.boundNames.contains "__name__" && Pg.boundNames.contains "b1_set" && Pg.boundNames.contains "b3_exceptions" = true := by decide +kernel
theorem free3 : (!Pg.boundNames.contains "set" && !Pg.boundNames.contains "list" && !Pg.boundNames.contains "range") = true := by decide +kernel
theorem nodup_names : (allDefs.map (·.name)).Nodup := by decide +kernel
theorem pos_apart : List.Pairwise (fun a b => apart a b = true) (allDefs.map (·.pos)) := by decide +kernel
theorem names_own : allDefs.all (fun d => decide (d.name ≠ "__name__") && decide (d.name ≠ "b1_set") && decide (d.name ≠ "b3_exceptions")) = true := by decide +kernel

section
variable {w : World} {A : Around} {E : Value → Shared → Prop} {s : Shared} {mg mb : Str → Option Value} {c Pl F : Addr} {ps : Array Value}

theorem name_stmt {i : Nat} (hi : ∃ p1 x k p2 p3, sOf i = .Assign [.Name "__name__" p1] (.Constant (.str x) k p2) p3) {Q : Flow → Shared → Prop} (hm : s.heap.Main mg c Pl ps)
    (h : ∀ h' tk mg', h'.Main mg' c Pl ps → (∀ x : Str, x ≠ "__name__" → mg' x = mg x) → (∀ b o, b ≠ mainGlobals → s.heap.get? b = some o → h'.get? b = some o) → Q .next { s with heap := h', toks := tk }) :
    wpAny (model Pg w) A (exec (sOf i) (mainEnv Pg c F)) Q E s := by
  obtain ⟨p1, x, k, p2, p3, e⟩ := hi
  rw [e]
  refine wpAny_Assign_Name ?_
  refine Constant_str ?_
  refine main_store (s := { s with toks := s.toks + 1 }) hm (by decide) (by decide +kernel) fun h₁ hm₁ _ k₁ => ?_
  exact h h₁ _ _ hm₁ (fun x hx => if_neg hx) k₁

theorem sub_pairwise {l : List DefRec} (hs : l.Sublist allDefs) : (l.map (·.name)).Nodup ∧ List.Pairwise (fun a b => apart a b = true) (l.map (·.pos)) :=
  ⟨List.Sublist.nodup (List.Sublist.map _ hs) nodup_names, List.Pairwise.sublist (List.Sublist.map _ hs) pos_apart⟩
theorem apart_in {a b : List DefRec} (hs : (a ++ b).Sublist allDefs) : (∀ d ∈ b, ∀ e ∈ a, d.name ≠ e.name) ∧ ∀ d ∈ b, ∀ q ∈ a.map (·.pos), apart q d.pos = true := by
  obtain ⟨h1, h2⟩ := sub_pairwise hs
  rw [List.map_append] at h1 h2
  refine ⟨fun d hd e he x => (List.nodup_append.mp h1).2.2 e.name (List.mem_map_of_mem he) d.name (List.mem_map_of_mem hd) x.symm, fun d hd q hq => (List.pairwise_append.mp h2).2.2 q hq d.pos (List.mem_map_of_mem hd)⟩

/-- the state between two parts of the top -/
structure Mid (s₀ : Heap) (mg₀ : Str → Option Value) (c Pl : Addr) (done : List DefRec) (h : Heap) (mg : Str → Option Value) (l : List (Pos × Addr)) : Prop where
  main : h.Main mg c Pl (triples l).toArray
  pos : l.map (·.1) = done.map (·.pos)
  fns : ∀ d ∈ done, h.HasFn mg Pl d
  kp : ∀ b o, b ≠ Pl → b ≠ mainGlobals → s₀.get? b = some o → h.get? b = some o
  same : ∀ x, x ∉ Pg.boundNames → mg x = mg₀ x

theorem Mid.defs {s₀ : Heap} {mg₀ mg : Str → Option Value} {done ds : List DefRec} {l : List (Pos × Addr)} {Q : Flow → Shared → Prop} (m : Mid s₀ mg₀ c Pl done s.heap mg l) (hs : (done ++ ds).Sublist allDefs) (hp : ∀ d ∈ ds, d.Plain Pg)
    (h : ∀ h' tk mg' l', Mid s₀ mg₀ c Pl (done ++ ds) h' mg' l' → (∀ x, (∀ d ∈ ds, x ≠ d.name) → mg' x = mg x) → (∀ b o, b ≠ Pl → b ≠ mainGlobals → s.heap.get? b = some o → h'.get? b = some o) → Q .next { s with heap := h', toks := tk }) :
    wpAny (model Pg w) A (execs (ds.map (·.stmt)) (mainEnv Pg c F)) Q E s := by
  obtain ⟨a1, a2⟩ := apart_in hs
  obtain ⟨b1, b2⟩ := sub_pairwise (List.Sublist.trans (List.sublist_append_right done ds) hs)
  refine defs_run ds done l s mg Q hp b1 a1 (fun d hd q hq => a2 d hd q (by rw [← m.pos]; exact hq)) b2 m.main m.fns fun h' tk mg' l' hm' hl' hall hmg hk => ?_
  refine h h' tk mg' l' ⟨hm', by rw [hl', m.pos, List.map_append], hall, fun b o h1 h2 e => hk b o h1 h2 (m.kp b o h1 h2 e), fun x hx => ?_⟩ hmg hk
  rw [hmg x fun d hd => ne_name (hs.subset (List.mem_append_right _ hd)) hx]
  exact m.same x hx

theorem Mid.step {s₀ h h' : Heap} {mg₀ mg mg' : Str → Option Value} {done : List DefRec} {l : List (Pos × Addr)} (m : Mid s₀ mg₀ c Pl done h mg l) (hs : done.Sublist allDefs) {n : Str} (hm' : h'.Main mg' c Pl (triples l).toArray)
    (hn : n = "__name__" ∨ n = "b1_set" ∨ n = "b3_exceptions") (hx : ∀ x, x ≠ n → mg' x = mg x) (hk : ∀ b o, b ≠ mainGlobals → h.get? b = some o → h'.get? b = some o) : Mid s₀ mg₀ c Pl done h' mg' l := by
  have hb := bound3
  simp only [Bool.and_eq_true, List.contains_iff_mem, decide_eq_true_eq] at hb
  refine ⟨hm', m.pos, fun d hd => HasFn.keep' (m.fns d hd) m.main.low.2 (fun b o _ h2 e => hk b o h2 e) (hx _ ?_), fun b o h1 h2 e => hk b o h2 (m.kp b o h1 h2 e), fun x hx' => ?_⟩
  · have := List.all_eq_true.mp names_own d (hs.subset hd)
    simp only [Bool.and_eq_true, decide_eq_true_eq] at this
    rcases hn with rfl | rfl | rfl
    · exact this.1.1
    · exact this.1.2
    · exact this.2
  · rw [hx x fun e => hx' (by rcases hn with rfl | rfl | rfl <;> (rw [e]; first | exact hb.1.1 | exact hb.1.2 | exact hb.2))]
    exact m.same x hx'
end
end Mine

namespace Mine
theorem sub1 : ds1.Sublist allDefs := (List.sublist_append_left ds1 ds2).trans ((List.sublist_append_left _ ds3).trans (List.sublist_append_left _ ds4))
theorem sub2 : (ds1 ++ ds2).Sublist allDefs := (List.sublist_append_left _ ds3).trans (List.sublist_append_left _ ds4)
theorem sub3 : (ds1 ++ ds2 ++ ds3).Sublist allDefs := List.sublist_append_left _ ds4
section
variable {w : World} {A : Around} {E : Value → Shared → Prop}

set_option maxHeartbeats 1000000 in
theorem body_wp {s₀ : Heap} {s : Shared} {mg₀ mb : Str → Option Value} {c Pl F : Addr} {Q : Flow → Shared → Prop} (hA : A.handled = none) (m : Mid s₀ mg₀ c Pl [] s.heap mg₀ []) (hb : s.heap.Ns builtinsNs mb) (hbi : ∀ x : Str, x ≠ "__name__" → mb x = bootBuiltins x)
    (hst : s.heap.NoLimit) (hfree : ∀ x, x ∉ bootMainNames → mg₀ x = none) (hsz : s₀.objs.size ≤ Pl)
    (hlow : sysModules < s.heap.objs.size)
    (h : ∀ h' tk mg b1 b3, Tops w h' mg mb Pl b1 b3 → (∀ b o, b ≠ Pl → b ≠ mainGlobals → s₀.get? b = some o → h'.get? b = some o) → (∀ x, x ∉ Pg.boundNames → mg x = mg₀ x) → h'.BuiltinsAt mg Pl → Q .next { s with heap := h', toks := tk }) :
    wpAny (model Pg w) A (execs Pg.main.body (mainEnv Pg c F)) Q E s := by
  have hf3 := free3
  simp only [Bool.and_eq_true, Bool.not_eq_true', ← Bool.not_eq_true, List.contains_iff_mem] at hf3
  have p0 : builtinsNs ≠ Pl := Nat.ne_of_lt (Nat.lt_trans (by decide) m.main.low.2)
  have p2 : cStatics ≠ Pl := Nat.ne_of_lt (Nat.lt_trans (by decide) m.main.low.2)
  rw [body_parts]
  simp only [List.cons_append, List.nil_append]
  -- the first name
  refine wpAny_execs_cons ?_
  refine name_stmt name_stmt0 m.main fun h₁ tk₁ mg₁ hm₁ hx₁ k₁ => ?_
  try dsimp only
  have m₁ := m.step (List.nil_sublist _) hm₁ (.inl rfl) hx₁ k₁
  -- heapq's defs
  refine wpAny_execs_append ?_
  refine Mid.defs (s := { s with heap := h₁, toks := tk₁ }) m₁ (ds := ds1) (by rw [List.nil_append]; exact sub1) plains1 fun h₂ tk₂ mg₂ l₂ m₂ _ k₂ => ?_
  try dsimp only
  dsimp only at k₂ ⊢
  rw [List.nil_append] at m₂
  refine wpAny_execs_cons ?_
  refine name_stmt (s := { s with heap := h₂, toks := tk₂ }) name_stmt11 m₂.main fun h₃ tk₃ mg₃ hm₃ hx₃ k₃ => ?_
  try dsimp only
  have m₃ := m₂.step sub1 hm₃ (.inl rfl) hx₃ k₃
  -- b1_set
  have kb₃ : ∀ b o, b ≠ Pl → b ≠ mainGlobals → s.heap.get? b = some o → h₃.get? b = some o := fun b o h1 h2 e => k₃ b o h2 (k₂ b o h1 h2 (k₁ b o h2 e))
  have hb₃ : h₃.Ns builtinsNs mb := hb.at fun o e => kb₃ _ _ p0 (by decide) e
  have fr₃ : ∀ x, x ∉ Pg.boundNames → x ∉ bootMainNames → mg₃ x = none := fun x h1 h2 => (m₃.same x h1).trans (hfree x h2)
  refine wpAny_execs_cons ?_
  refine b1_stmt (s := { s with heap := h₃, toks := tk₃ }) (w := w) hA m₃.main hb₃ hbi (fr₃ _ hf3.1.1 (by decide)) (fr₃ _ hf3.1.2 (by decide)) (fr₃ _ hf3.2 (by decide)) fun b1 h₄ tk₄ hb1 hm₄ hset k₄ => ?_
  try dsimp only
  have m₄ := m₃.step sub1 hm₄ (.inr (.inl rfl)) (fun x hx => if_neg hx) k₄
  have n1 : b1 ≠ mainGlobals := Nat.ne_of_gt (Nat.lt_of_lt_of_le m₃.main.g.lt hb1)
  have n2 : b1 ≠ Pl := Nat.ne_of_gt (Nat.lt_of_lt_of_le m₃.main.code.lt.2 hb1)
  -- in_table_b1
  refine wpAny_execs_append ?_
  refine Mid.defs (s := { s with heap := h₄, toks := tk₄ }) m₄ (ds := ds2) sub2 plains2 fun h₅ tk₅ mg₅ l₅ m₅ hx₅ k₅ => ?_
  try dsimp only
  -- b3_exceptions
  have hlow₅ : sysModules < h₅.objs.size := by
    have : mainGlobals < h₅.objs.size := m₅.main.g.lt
    exact Nat.lt_trans (by decide) this
  refine wpAny_execs_cons ?_
  refine @b3_stmt w A E _ mg₅ c Pl F _ _ m₅.main hlow₅ ?_
  intro b3 h₆ tk₆ f hb3 hm₆ hmap htab k₆
  try dsimp only
  have m₆ := m₅.step sub2 hm₆ (.inr (.inr rfl)) (fun x hx => if_neg hx) k₆
  have n3 : b3 ≠ mainGlobals := Nat.ne_of_gt (Nat.lt_of_lt_of_le m₅.main.g.lt hb3)
  have n4 : b3 ≠ Pl := Nat.ne_of_gt (Nat.lt_of_lt_of_le m₅.main.code.lt.2 hb3)
  -- map_table_b3
  refine wpAny_execs_append ?_
  refine Mid.defs (s := { s with heap := h₆, toks := tk₆ }) m₆ (ds := ds3) sub3 plains3 fun h₇ tk₇ mg₇ l₇ m₇ hx₇ k₇ => ?_
  try dsimp only
  refine wpAny_execs_cons ?_
  refine name_stmt (s := { s with heap := h₇, toks := tk₇ }) name_stmt16 m₇.main fun h₈ tk₈ mg₈ hm₈ hx₈ k₈ => ?_
  try dsimp only
  have m₈ := m₇.step sub3 hm₈ (.inl rfl) hx₈ k₈
  -- the law's defs
  refine Mid.defs (s := { s with heap := h₈, toks := tk₈ }) m₈ (ds := ds4) (List.Sublist.refl _) plains4 fun h₉ tk₉ mg₉ l₉ m₉ hx₉ k₉ => ?_
  try dsimp only
  dsimp only at hset hmap k₄ k₅ k₆ k₇ k₈ k₉ ⊢
  have own : ∀ d ∈ allDefs, d.name ≠ "__name__" ∧ d.name ≠ "b1_set" ∧ d.name ≠ "b3_exceptions" := fun d hd => by
    have := List.all_eq_true.mp names_own d hd
    simp only [Bool.and_eq_true, decide_eq_true_eq] at this
    exact ⟨this.1.1, this.1.2, this.2⟩
  have own4 : ∀ d ∈ ds4, d ∈ allDefs := fun d hd => List.mem_append_right _ hd
  have own3 : ∀ d ∈ ds3, d ∈ allDefs := fun d hd => List.mem_append_left _ (List.mem_append_right _ hd)
  have own2 : ∀ d ∈ ds2, d ∈ allDefs := fun d hd => List.mem_append_left _ (List.mem_append_left _ (List.mem_append_right _ hd))
  have g1 : mg₉ "b1_set" = some (.ref b1) := by
    rw [hx₉ _ fun d hd e => (own d (own4 d hd)).2.1 e.symm, hx₈ _ (by decide), hx₇ _ fun d hd e => (own d (own3 d hd)).2.1 e.symm]
    rw [if_neg (by decide), hx₅ _ fun d hd e => (own d (own2 d hd)).2.1 e.symm, if_pos rfl]
  have g3 : mg₉ "b3_exceptions" = some (.ref b3) := by
    rw [hx₉ _ fun d hd e => (own d (own4 d hd)).2.2 e.symm, hx₈ _ (by decide), hx₇ _ fun d hd e => (own d (own3 d hd)).2.2 e.symm, if_pos rfl]
  have kA : ∀ b o, b ≠ Pl → b ≠ mainGlobals → h₄.get? b = some o → h₉.get? b = some o := fun b o h1 h2 e => k₉ b o h1 h2 (k₈ b o h2 (k₇ b o h1 h2 (k₆ b o h2 (k₅ b o h1 h2 e))))
  have kB : ∀ b o, b ≠ Pl → b ≠ mainGlobals → h₆.get? b = some o → h₉.get? b = some o := fun b o h1 h2 e => k₉ b o h1 h2 (k₈ b o h2 (k₇ b o h1 h2 e))
  have kS : ∀ b o, b ≠ Pl → b ≠ mainGlobals → s.heap.get? b = some o → h₉.get? b = some o := fun b o h1 h2 e => kA b o h1 h2 (k₄ b o h2 (kb₃ b o h1 h2 e))
  refine h h₉ tk₉ mg₉ b1 b3 ⟨m₉.main.g, m₉.fns, g1, ?_, g3, ⟨f, ?_, htab⟩, ?_, hb.at fun o e => kS _ _ p0 (by decide) e, hbi, fun x h1 h2 => (m₉.same x h1).trans (hfree x h2), hst.at fun o e => kS _ _ p2 (by decide) e⟩ m₉.kp m₉.same m₉.main.bmod
  · obtain ⟨o, es, ep, t, ho, r⟩ := hset
    exact ⟨o, es, ep, t, kA _ _ n2 n1 ho, r⟩
  · obtain ⟨o, es, ep, ho, r⟩ := hmap
    exact ⟨o, es, ep, kB _ _ n4 n3 ho, r⟩
  · exact beq_eq_false_iff_ne.mpr (Nat.ne_of_gt (Nat.lt_of_lt_of_le hlow₅ hb3))
end
end Mine

namespace Mine

noncomputable def Booted (s : Shared) : Prop := ∃ mb mg c Pl, BootLeft s.heap mb mg c Pl ∧ s.gens = #[]
theorem opening_left (w : World) : (∃ s, AfterImport (opening Pg) w s) ∧ ∀ s, AfterImport (opening Pg) w s → Booted s :=
  AfterImport.of_wp (wpAny_boot (M := model (opening Pg) w) (A := {}) (E := fun _ _ => False) (opening Pg) (fun s' => Booted s' ∧ s'.gens = #[])
    (fun h tk mb mg c Pl F hB => by
      have e : (opening Pg).main.body = [] := by kernel_rfl!
      rw [e]
      exact codeAny_body rfl rfl (wpAny_execs_nil ⟨⟨_, rfl⟩, ⟨mb, mg, c, Pl, hB, rfl⟩, rfl⟩)) rfl _ default boot_in)
theorem fence (s : Shared) : fenceModules? Pg s = some s := by
  have e1 : importedModules Pg.main.body = [] := by kernel_rfl!
  have e2 : Pg.main.body.any namesNumpy = false := by kernel_rfl!
  unfold fenceModules?
  rw [e1, e2]
  rfl

theorem top_wp (w : World) {s : Shared} {mb mg c₀ Pl₀} (hB : BootLeft s.heap mb mg c₀ Pl₀) (hg : s.gens = #[]) :
    wpAny (model Pg w) callerA (topStub Pg).cur (fun fin s' => ∃ f, fin = .done f ∧ (Behind w mg mb s s' ∧ s'.gens = #[])) (fun _ _ => False) s := by
  have hbody : behindTheImports Pg = Pg.main.body := by kernel_rfl!
  show wpAny _ _ (do
    let code ← moduleCode Pg.main
    let frame ← newBodyFrame code mainNs mainNs
    let _ ← run (.body (behindTheImports Pg) { scope := Pg.main.scope, locals := mainNs, globals := mainNs, cells := [], code, frame := some frame })
    ret .none) _ _ _
  rw [hbody]
  refine wpAny_bind (wpAny_moduleCode fun c Pl h₁ tk₁ k₁ hc hPl hcode => ?_)
  refine wpAny_bind ?_
  unfold newBodyFrame
  refine wpAny_bind (wpAny_nsGet (hB.g.keeps k₁) (wpAny_alloc ?_))
  dsimp only
  generalize hfr : h₁.objs.size = F
  have k₂ := fun o => keep_trans k₁ (keep_push h₁ o)
  have hglt := hB.g.lt
  have hm : ∀ o, (h₁.push o).Main mg c Pl #[] := fun o => by
    obtain ⟨bm, ob, hbm, hne0, hneG, hneP, hbo, hrest⟩ := hB.bmod
    exact ⟨hB.g.keeps (k₂ o), hcode.push o, ⟨Nat.lt_of_lt_of_le hglt hc, Nat.lt_of_lt_of_le hglt hPl⟩, ⟨bm, ob, hbm, hne0, hneG, Nat.ne_of_lt (Nat.lt_of_lt_of_le (Heap.lt_size hbo) hPl), k₂ o _ _ hbo, hrest⟩⟩
  generalize hob : ({ cls := Value.type "frame", slots := #[some (.ref c), some (.ref mainNs), some (.ref mainNs), none, some ((mg "__name__").getD .none), none, some (.ref builtinsNs)] } : Obj) = ob
  have hm' := hm ob
  have k₂' := k₂ ob
  generalize h₁.push ob = h₂ at hm' k₂'
  have hlow : sysModules < h₂.objs.size := Nat.lt_trans (by decide) hm'.g.lt
  refine wpAny_bind (wpAny_run (codeAny_body (by decide +kernel) (by decide +kernel) ?_))
  refine wpAny_mono (E := fun _ _ => False) ?_ (fun _ _ x => x) fun _ _ x => x.elim
  refine @body_wp w _ (fun _ _ => False) s.heap { s with heap := h₂, toks := tk₁ } mg mb c Pl F _ rfl ⟨hm', rfl, (fun _ h => nomatch h), (fun b o _ _ e => k₂' b o e), fun _ _ => rfl⟩ (hB.b.keeps k₂') hB.builtins ⟨_, hB.statics.keeps k₂', rfl⟩ hB.others hPl hlow ?_
  intro h' tk mg' b1 b3 T kp same bm
  refine wpAny_pure ⟨_, rfl, ⟨h', tk, mg', Pl, b1, b3, rfl, T, ?_, same, bm⟩, hg⟩
  intro b o hb e
  exact kp b o (Nat.ne_of_lt (Nat.lt_of_lt_of_le (Heap.lt_size e) hPl)) hb e

theorem laid_free : laidNames.all (fun x => !Pg.boundNames.contains x) = true := by decide +kernel

theorem top_ran (w : World) {s : Shared} (hz : s.asleep) (hb : Booted s) :
    ∃ s₁, TopRan Pg w s s₁ ∧ s₁.asleep ∧ s₁.gens = #[] ∧ ∃ mg mb k b1 b3, Tops w s₁.heap mg mb k b1 b3 := by
  obtain ⟨mb, mg, c, Pl, hB, hg⟩ := hb
  obtain ⟨n, s₁, t₁, hrun, ht, ⟨h', tk, mg', k, b1, b3, rfl, T, kp, same, bm⟩, hgs, hlife⟩ := topReach hz (top_wp w hB hg)
  have hst : h'.Ns cStatics (fun _ => none) := hB.statics.at fun o e => kp _ _ (by decide) e
  refine ⟨_, ⟨⟨n, t₁, hrun, ht⟩, hlife, rfl, fun b o e hn => kp b o (fun q => hn (.inl q)) e, ?_, ?_, Pin.keysAreStrs_of_ns T.g, ?_, ?_, ?_, ?_, ?_⟩, Shared.asleep_of_life hlife hz, hgs, mg', mb, k, b1, b3, T⟩
  · intro key v h
    rw [Pin.staticOf_of_ns (h := h') hst] at h; cases h
  · intro key
    exact .inl ((Pin.staticOf_of_ns (h := h') hst key).trans (Pin.staticOf_of_ns hB.statics key).symm)
  · intro x hx
    rw [Pin.builtinOf_of_ns T.b, T.builtins x hx]; rfl
  · obtain ⟨bm', o, h1, _, _, _, h2, h3, h4, _⟩ := bm
    exact ⟨bm', o, (Claim2Try.globalOf_of_ns T.g _).trans h1, h2, h3, h4⟩
  · intro g hg'
    dsimp only at hgs hg'
    rw [hgs] at hg'; simp at hg'
  · intro x v hv
    rw [Claim2Try.globalOf_of_ns T.g] at hv
    by_cases h1 : x ∈ Pg.boundNames
    · exact .inr h1
    · by_cases h2 : x ∈ bootMainNames
      · exact .inl h2
      · rw [T.free x h1 h2] at hv; cases hv
  · intro x hx
    have := List.all_eq_true.mp laid_free x hx
    have hx' : x ∉ Pg.boundNames := fun h => by rw [List.contains_iff_mem.mpr h] at this; cases this
    rw [Claim2Try.globalOf_of_ns T.g, Claim2Try.globalOf_of_ns hB.g]
    exact same x hx'
end Mine

namespace Mine

/-- what the call of the law must give -/
noncomputable def LawOk : Prop := ∀ (w : World) (s : Shared) (mg mb : Str → Option Value) (k b1 b3 : Addr), Tops w s.heap mg mb k b1 b3 → s.gens = #[] →
  ∀ (a l : Addr) (vs : List Value) (ns : List Int), mg "law" = some (.ref a) → s.heap.IsList l vs.toArray → IntsAre vs ns → ns.length ≤ 63 →
    wpAny (model Pg w) callerA (call (.ref a) [.ref l]) (fun v s' => v = .bool true ∧ ∃ h' tk, s' = { s with heap := h', toks := tk } ∧ ∀ b o, s.heap.get? b = some o → h'.get? b = some o) (fun _ _ => False) s

theorem law_mem : dOf 22 ∈ allDefs := List.mem_append_right _ (by simp [ds4])
theorem law_name : (dOf 22).name = "law" := by decide +kernel
theorem law_def : Pg.theDef "law" = some ((dOf 22).params, (dOf 22).body, (dOf 22).scope) := by kernel_rfl!
theorem law_kw : kwWritten? (dOf 22).params.kwonlyargs (dOf 22).params.kw_defaults = some [] := by kernel_rfl!
theorem law_dflt : (dOf 22).params.defaults = [] := by kernel_rfl!

theorem law_pinned {w : World} {h : Heap} {mg mb : Str → Option Value} {k b1 b3 : Addr} (T : Tops w h mg mb k b1 b3) : isTheDefsW Pg h "law" := by
  obtain ⟨a, o, pm, code, doc, h1, h2, h3, h4, h5, h6⟩ := T.fn _ law_mem
  rw [law_name] at h1
  exact ⟨a, o, _, _, _, _, (Claim2Try.globalOf_of_ns T.g _).trans h1, h2, h3, law_def, law_name, law_name, rfl, rfl, rfl, rfl, rfl, rfl, .inl ⟨law_dflt, rfl⟩, [], law_kw, .inl ⟨rfl, rfl⟩⟩

noncomputable abbrev Rr : OpenRow := PySem.Challenge.rw_mq0351_01.row

theorem ints_of_reads {R : WRecords} {cl : Str → Option Addr} {h : Heap} : ∀ {vs : List Value} {xs : List WData} {as : List Addr}, ReadsAllW R cl h vs xs as → WShape.hasItems R xs .int = true → ∃ ns : List Int, IntsAre vs ns ∧ ns.length = xs.length
  | _, _, _, .nil, _ => ⟨[], .nil, rfl⟩
  | _, _, _, .cons (d := d) (ds := ds) hv hr, hs => by
    have hs' : WShape.has R d .int = true ∧ WShape.hasItems R ds .int = true := by simpa [WShape.hasItems] using hs
    obtain ⟨i, rfl⟩ := hasW_int hs'.1
    obtain ⟨ns, h1, h2⟩ := ints_of_reads hr hs'.2
    cases hv with
    | int i t => exact ⟨i :: ns, .cons i t h1, by simp [h2]⟩

theorem pre_is (xs : List WData) : PySem.Challenge.rw_mq0351_01.pre.holds [] { args := [.list xs] } = !decide ((63 : Int) < (xs.length : Int)) := by
  have e : PySem.Challenge.rw_mq0351_01.pre.holds [] { args := [.list xs] } = WTm.holds [] (.and (.not (.lit (.bool (decide ((63 : Int) < (xs.length : Int)))))) (.lit (.bool true))) { args := [.list xs] } := rfl
  rw [e]
  cases decide ((63 : Int) < (xs.length : Int)) <;> rfl
theorem post_is (xs : List WData) : Rr.toRowW.claim.post [.list xs] (.bool true) [.list xs] = true := by
  show (WShape.has [] (.bool true) .bool && WTm.holds [] (.eq .res (.lit (.bool true))) { args := [.list xs], res := some (.bool true), after := [.list xs] }) = true
  simp [WShape.has, WShape.arms, WTm.holds, WTm.value, same]
theorem pre_len {xs : List WData} (h : PySem.Challenge.rw_mq0351_01.pre.holds [] { args := [.list xs] } = true) : xs.length ≤ 63 := by
  by_cases hl : xs.length ≤ 63
  · exact hl
  · exfalso
    have hlt : (63 : Int) < (xs.length : Int) := by omega
    have e : PySem.Challenge.rw_mq0351_01.pre.holds [] { args := [.list xs] } = !decide ((63 : Int) < (xs.length : Int)) := pre_is xs
    rw [e, decide_eq_true hlt] at h; cases h

theorem row_promised : Rr.toRowW.promised := ⟨[.list []], by decide +kernel, by decide +kernel⟩
theorem row_bare : Pg.bare := ⟨rfl, rfl, rfl, rfl, rfl, by decide +kernel⟩
theorem row_opens : opensWell Pg = true := by decide +kernel

theorem holds_of_law (H : LawOk) (said : Rr.wellSaid = true) : Rr.Holds := by
  refine ⟨said, row_promised, ⟨⟨row_bare, row_opens, rfl⟩, row_promised.witness, fun w => ⟨(opening_left w).1, fun s hs => ?_⟩⟩⟩
  have hb := (opening_left w).2 s hs
  have hz : s.asleep := AfterImport.life hs
  obtain ⟨s₁, hT, hz₁, hg₁, mg, mb, k, b1, b3, T⟩ := top_ran w hz hb
  refine ⟨s, fence s, (let ⟨_, _, _, _, _, hg⟩ := hb; hg), s₁, hT, ?_, (fun x hx => nomatch hx), (fun x hx => nomatch hx), ?_⟩
  · intro n hn
    have : Rr.pinned = true ∧ n = Rr.name := by simpa using hn
    rw [this.2]
    exact law_pinned T
  refine ClaimW.callFrom_of_specN (c := Rr.toRowW.claim) (tree := fun vs => do match ← nsGet mainNs Rr.name with
      | some f => do ret (← PySem.call f vs)
      | none => unsupported "claim.caller:no-such-global") hz₁ (by rw [hg₁]; simp [leftWithCleanup]) fun args hpre hlay ord hord => ?_
  obtain ⟨hsh, hcond⟩ := pre_splitW hpre
  obtain ⟨⟨vs, s₂⟩, hlaid⟩ := Option.isSome_iff_exists.mp (layAllW_isSome (R := []) (cl := classAt s₁.heap) (P := w.params) (ord := ord) (fun c hc => nomatch hc) args Rr.args s₁ hsh)
  have keeps := layAllW_keeps _ _ _ hlaid
  have hal := layAllW_rest _ _ _ hlaid
  obtain ⟨as, hrd, hin, hold⟩ := reads_layAllW hord _ _ _ hlaid hlay s₂.heap (fun _ _ e => e)
  refine ⟨vs, s₂, hlaid, ?_⟩
  obtain ⟨d, r, rfl, hd, hr⟩ := hasAllW_cons hsh
  obtain rfl := hasAllW_nil hr
  obtain ⟨xs, rfl, hx⟩ := hasW_list hd
  have hlen := pre_len hcond
  have T₂ : Tops w s₂.heap mg mb k b1 b3 := T.keeps keeps
  obtain ⟨a, o, pm, code, doc, h1, h2, h3, h4, h5, h6⟩ := T₂.fn _ law_mem
  rw [law_name] at h1
  refine wpAny_bind (wpAny_nsGet T₂.g ?_)
  show wpAny _ _ (match mg "law" with | some f => do ret (← PySem.call f vs) | none => unsupported "claim.caller:no-such-global") _ _ _
  rw [h1]
  dsimp only
  have hi : ∀ x y, Rr.toRowW.claim.ident x y = true := ident_freeW (r := Rr.toRowW) rfl rfl rfl
  have hcall : wpAny (model Pg w) callerA (call (.ref a) vs) (fun v s' => v = .bool true ∧ ∃ h' tk, s' = { s₂ with gens := #[], heap := h', toks := tk } ∧ ∀ b o, s₂.heap.get? b = some o → h'.get? b = some o) (fun _ _ => False) { s₂ with gens := #[] } := by
    cases hrd with
    | cons hv hrs =>
      cases hrs
      cases hv with
      | list ho hc hda hri =>
        rename_i l ol vs' n as'
        obtain ⟨ns, hns, hl⟩ := ints_of_reads hri hx
        have := H w { s₂ with gens := #[] } mg mb k b1 b3 T₂ rfl a l vs'.toList ns h1 ⟨ol, ho, hc, n, by simpa using hda⟩ hns (by rw [hl]; exact hlen)
        exact this
  refine wpAny_bind (wpAny_mono hcall ?_ fun _ _ x => x.elim)
  rintro v s' ⟨rfl, h', tk, rfl, hk⟩
  refine wpAny_pure ⟨_, rfl, ?_⟩
  have hG : GoodW Rr.toRowW.claim (classAt s₁.heap) (ExcName.means s₁.heap) [.list xs] { s₂ with gens := #[] } (.ok (.ret (.bool true))) { s₂ with gens := #[], heap := h', toks := tk } :=
    ⟨.inl ⟨.bool true, .bool true, [], rfl, fun _ => rfl, .bool true, post_is xs, fun _ => ⟨List.nodup_nil, fun _ h => nomatch h⟩⟩, hk, rfl, rfl⟩
  have z := hG.endsN (c := Rr.toRowW.claim) rfl rfl hi hrd hold hal.2.2.1
  exact ⟨z.1, z.2.1, z.2.2, fun q => nomatch q⟩
end Mine

namespace Mine

/-- a state by its heap and its count of tokens -/
noncomputable def St (s : Shared) (h : Heap) (tk : Nat) : Shared := { s with heap := h, toks := tk }
theorem St_self (s : Shared) : St s s.heap s.toks = s := rfl
noncomputable def Kp (h h' : Heap) : Prop := ∀ b o, h.get? b = some o → h'.get? b = some o
theorem Kp.refl (h : Heap) : Kp h h := fun _ _ e => e
theorem Kp.trans {a b c : Heap} (x : Kp a b) (y : Kp b c) : Kp a c := fun _ _ e => y _ _ (x _ _ e)
theorem Kp.push (h : Heap) (o : Obj) : Kp h (h.push o) := fun _ _ e => Heap.get?_push_of_some _ e

/-- where the text's def stands -/
noncomputable def fa (mg : Str → Option Value) (i : Nat) : Addr := match mg (dOf i).name with
  | some (.ref a) => a
  | _ => 0
theorem Tops.fa {w : World} {h : Heap} {mg mb : Str → Option Value} {k b1 b3 : Addr} (T : Tops w h mg mb k b1 b3) {i : Nat} (hi : dOf i ∈ allDefs) :
    ∃ o pm cd doc, mg (dOf i).name = some (.ref (Mine.fa mg i)) ∧ h.get? (Mine.fa mg i) = some o ∧ o.data = .func (docDef (dOf i).name (dOf i).params (dOf i).body (dOf i).scope pm cd doc) ∧ h.CodeRec cd (dOf i).name := by
  obtain ⟨a, o, pm, code, doc, h1, h2, h3, h4, h5, h6⟩ := T.fn _ hi
  have e : Mine.fa mg i = a := by unfold Mine.fa; rw [h1]
  rw [e]
  exact ⟨o, pm, .ref code, doc, h1, h2, h3, h4⟩

noncomputable abbrev fenv (i : Nat) (L a : Addr) (cd : Value) : Env := envOf (dOf i).name (dOf i).scope L a cd

/-- the room of a call -/
structure Room (A : Around) (d u : Nat) : Prop where
  handled : A.handled = none
  depth : A.depth + d < 900
  units : A.units + u < cLine

theorem Room.less {A : Around} {d u d' u' : Nat} (R : Room A d u) (hd : d' ≤ d) (hu : u' ≤ u) : Room A d' u' := ⟨R.handled, by have := R.depth; omega, by have := R.units; omega⟩
theorem Room.in1 {A : Around} {d u : Nat} (R : Room A d (u + 1)) : Room A.in1 d u := ⟨R.handled, R.depth, by have h := R.units; show A.units + 1 + u < cLine; omega⟩

/-- looks at a def: told once by the kernel -/
noncomputable def scopeOk (i : Nat) (names : List Str) : Bool :=
  names.all (fun x => decide ((dOf i).scope.names.lookup x = some .local)) && !(dOf i).scope.isCoroutine && !(dOf i).scope.isGenerator && decide ((dOf i).scope.kind = .function) && (dOf i).scope.names.all (fun x => decide (x.2 ≠ .cell))

section
variable {w : World} {A : Around} {E : Value → Shared → Prop} {s : Shared} {B h h₀ : Heap} {tk : Nat} {mg mb : Str → Option Value} {k b1 b3 : Addr}

/-- a call of a def of the text that raises nothing -/
theorem enter {i : Nat} {d u : Nat} {args : List Value} {binds : List (Str × Value)} (names : List Str) {Q : Value → Shared → Prop} (T : Tops w B mg mb k b1 b3) (kB : Kp B h) (hi : dOf i ∈ allDefs) (R : Room A (d + 1) (u + 3))
    (hbind : ∀ pm cd doc, bindArgs (docDef (dOf i).name (dOf i).params (dOf i).body (dOf i).scope pm cd doc) ⟨args, []⟩ = pure binds) (hnm : binds.map (·.1) = names) (hsc : scopeOk i names = true)
    (k0 : Kp h₀ h) (hsz : h₀.objs.size ≤ h.objs.size)
    (body : ∀ (A' : Around) (L a : Addr) (cd : Value) (h₁ : Heap) (tk₁ : Nat), Room A' d u → L = h.objs.size → Fr h₀ L h₁ (fun x => binds.reverse.lookup x) → (∀ b o, h.get? b = some o → h₁.get? b = some o ∧ b ≠ L) →
      wpAny (model Pg w) A' (execs (dOf i).body (fenv i L a cd)) (fun f s' => Q (match f with | .ret v => v | _ => .none) s') (fun _ _ => False) (St s h₁ tk₁)) :
    wpAny (model Pg w) A (call (.ref (fa mg i)) args) Q E (St s h tk) := by
  subst hnm
  obtain ⟨o, pm, cd, doc, h1, h2, h3, h4⟩ := T.fa hi
  simp only [scopeOk, Bool.and_eq_true, Bool.not_eq_true', decide_eq_true_eq, List.all_eq_true] at hsc
  obtain ⟨⟨⟨⟨c1, c2⟩, c3⟩, c4⟩, c5⟩ := hsc
  have hR := R.depth
  have hU := R.units
  refine wpAny_call (call_plain_ret (s := St s h tk) (by show A.depth < 1000; omega) (kB _ _ h2) h3 (T.nolimit.keeps kB) (h4.keeps kB) (hbind pm cd doc) (fun x hx => c1 x.1 (List.mem_map_of_mem hx)) ?_ c2 c3 c4 fun x hx => c5 x hx)
  intro h₁ F₁
  have F₁' : Fr h h.objs.size h₁ (fun x => binds.reverse.lookup x) := F₁
  refine body _ _ _ cd h₁ _ ⟨R.handled, ?_, ?_⟩ rfl ⟨F₁'.ns, fun b o e => F₁'.keep b o (k0 b o e), hsz⟩ fun b o e => ⟨F₁'.keep b o e, Nat.ne_of_lt (Heap.lt_size e)⟩
  · show A.depth + 1 + d < 900; omega
  · show A.units + 3 + u < cLine; omega
end
end Mine

namespace Mine

theorem Fr.after {h₀ h h' : Heap} {L : Addr} {m : Str → Option Value} (F : Fr h₀ L h m) (hk : Kp h h') : Fr h₀ L h' m := ⟨F.ns.keeps hk, fun b o e => hk b o (F.keep b o e), F.above⟩
theorem News.after {h₀ h h' : Heap} {L : Addr} {news : List (Addr × Obj)} (N : News h₀ L h news) (hk : Kp h h') : News h₀ L h' news := fun p hp => ⟨hk _ _ (N p hp).1, (N p hp).2⟩

section
variable {w : World} {A : Around} {E : Value → Shared → Prop} {s : Shared} {B h h₀ : Heap} {tk : Nat} {mg mb m : Str → Option Value} {k b1 b3 L a : Addr} {cd : Value} {i : Nat} {news : List (Addr × Obj)} {M : Model}

theorem r_ld {x : Str} {p : Pos} {v : Value} {Q : Value → Shared → Prop} (F : Fr h₀ L h m) (hv : m x = some v) (hq : Q v (St s h tk))
    (hk : (dOf i).scope.kind = .function := by rfl) (hl : (fenv i L a cd).kindOf x = some .local := by rfl) (hd : (x == ("__debug__" : Str)) = false := by decide) :
    wpAny M A (eval (.Name x p) (fenv i L a cd)) Q E (St s h tk) := ld (s := St s h tk) F hv hq hk hl hd

theorem r_st {x : Str} {v : Value} {Q : Unit → Shared → Prop} (F : Fr h₀ L h m) (N : News h₀ L h news)
    (hq : ∀ h' tk', Fr h₀ L h' (fun y => if y = x then some v else m y) → News h₀ L h' news → (∀ b o, b ≠ L → h.get? b = some o → h'.get? b = some o) → Q () (St s h' tk'))
    (hk : (dOf i).scope.kind = .function := by rfl) (hl : (fenv i L a cd).kindOf x = some .local := by rfl) :
    wpAny M A (storeName (fenv i L a cd) x v) Q E (St s h tk) :=
  wpAny_storeName_local (s := St s h tk) (env := fenv i L a cd) hl F.ns (fun h' hn hs => hq h' _ (F.set hn hs) (N.set hs) fun b o hb e => (hs.2 b hb).trans e)
    (by show ((dOf i).scope.kind == .class || ((dOf i).scope.kind == .module && L != mainGlobals)) = false; rw [hk]; rfl)

theorem r_fn {x : Str} {p : Pos} {j : Nat} {Q : Value → Shared → Prop} (T : Tops w B mg mb k b1 b3) (kB : Kp B h) (hj : dOf j ∈ allDefs) (hx : (dOf j).name = x)
    (hq : Q (.ref (fa mg j)) (St s h tk))
    (hk : (dOf i).scope.kind = .function := by rfl) (hl : (fenv i L a cd).kindOf x = some .globalImplicit := by rfl) (hd : (x == ("__debug__" : Str)) = false := by decide) :
    wpAny M A (eval (.Name x p) (fenv i L a cd)) Q E (St s h tk) := by
  obtain ⟨o, pm, c, doc, h1, h2, h3, h4⟩ := T.fa hj
  rw [hx] at h1
  exact Name_function_global (s := St s h tk) (env := fenv i L a cd) hk hl (loadGlobal_global (s := St s h tk) (env := fenv i L a cd) (T.g.keeps kB) h1 hq) hd

theorem r_bi {x : Str} {p : Pos} {v : Value} {Q : Value → Shared → Prop} (T : Tops w B mg mb k b1 b3) (kB : Kp B h) (hv : bootBuiltins x = some v) (hq : Q v (St s h tk))
    (hf : (Pg.boundNames.contains x || bootMainNames.contains x) = false := by decide +kernel) (hn : x ≠ "__name__" := by decide)
    (hk : (dOf i).scope.kind = .function := by rfl) (hl : (fenv i L a cd).kindOf x = some .globalImplicit := by rfl) (hd : (x == ("__debug__" : Str)) = false := by decide) :
    wpAny M A (eval (.Name x p) (fenv i L a cd)) Q E (St s h tk) := by
  have hf' := Bool.or_eq_false_iff.mp hf
  have f1 : x ∉ Pg.boundNames := fun h => by rw [List.contains_iff_mem.mpr h] at hf'; exact Bool.noConfusion hf'.1
  have f2 : x ∉ bootMainNames := fun h => by rw [List.contains_iff_mem.mpr h] at hf'; exact Bool.noConfusion hf'.2
  exact Name_function_global (s := St s h tk) (env := fenv i L a cd) hk hl
    (loadGlobal_builtin (s := St s h tk) (env := fenv i L a cd) (T.g.keeps kB) (T.free x f1 f2) (show h.Ns builtinsNs mb from T.b.keeps kB) ((T.builtins x hn).trans hv) hq) hd

theorem r_glob {x : Str} {p : Pos} {v : Value} {Q : Value → Shared → Prop} (T : Tops w B mg mb k b1 b3) (kB : Kp B h) (hv : mg x = some v) (hq : Q v (St s h tk))
    (hk : (dOf i).scope.kind = .function := by rfl) (hl : (fenv i L a cd).kindOf x = some .globalImplicit := by rfl) (hd : (x == ("__debug__" : Str)) = false := by decide) :
    wpAny M A (eval (.Name x p) (fenv i L a cd)) Q E (St s h tk) :=
  Name_function_global (s := St s h tk) (env := fenv i L a cd) hk hl (loadGlobal_global (s := St s h tk) (env := fenv i L a cd) (T.g.keeps kB) hv hq) hd

theorem r_int {n : Int} {c : Nat} {p : Pos} {env : Env} {Q : Value → Shared → Prop} (hq : ∀ t tk', Q (.int n t) (St s h tk')) : wpAny M A (eval (.Constant (.int n) c p) env) Q E (St s h tk) := fun _ _ _ => hq _ _
theorem r_str {x : Str} {c : Nat} {p : Pos} {env : Env} {Q : Value → Shared → Prop} (hq : ∀ t tk', Q (.str x t) (St s h tk')) : wpAny M A (eval (.Constant (.str x) c p) env) Q E (St s h tk) := fun _ _ _ => hq _ _

theorem boot_ord : bootBuiltins "ord" = some (.builtin "ord") := boots.1
theorem boot_chr : bootBuiltins "chr" = some (.builtin "chr") := boots.2.1
theorem boot_len' : bootBuiltins "len" = some (.builtin "len") := boots.2.2.1

theorem c_ord {c : Nat} {t : Tok} {Q : Value → Shared → Prop} (hq : ∀ t' tk', Q (.int c t') (St s h tk')) : wpAny (model Pg w) A (call (.builtin "ord") [.str ⟨#[c]⟩ t]) Q E (St s h tk) := P.ord_of_char (s := St s h tk) (hq _ _)
end

theorem mem13 : dOf 13 ∈ allDefs := by simp [allDefs, ds2]

/-- in_table_b1 -/
theorem in_b1 {w : World} {A : Around} {E : Value → Shared → Prop} {s : Shared} {B h : Heap} {tk : Nat} {mg mb : Str → Option Value} {k b1 b3 : Addr} {c : Nat} {t : Tok} {Q : Value → Shared → Prop}
    (T : Tops w B mg mb k b1 b3) (kB : Kp B h) (R : Room A 5 20) (hq : ∀ h' tk', Kp h h' → Q (.bool (b1List.contains (c : Int))) (St s h' tk')) :
    wpAny (model Pg w) A (call (.ref (fa mg 13)) [.str ⟨#[c]⟩ t]) Q E (St s h tk) := by
  refine enter (i := 13) (d := 4) (u := 17) (binds := [("code", .str ⟨#[c]⟩ t)]) ["code"] T kB mem13 (R.less (by decide) (by decide)) (fun pm cd doc => by rfl) rfl (by decide +kernel) (Kp.refl h) (Nat.le_refl _) ?_
  intro A' L a cd h₁ tk₁ R' hL F keep
  have kB₁ : Kp B h₁ := fun b o e => (keep b o (kB b o e)).1
  conv in (dOf 13).body => whnf
  refine wpAny_execs_cons ?_
  refine wpAny_Return_some ?_
  refine wpAny_Compare1 ?_
  refine Call_Name1 ?_
  refine r_bi T kB₁ boot_ord ?_
  refine PySem.callWith_builtin1 ?_
  refine r_ld F rfl ?_
  refine c_ord ?_
  intro t' tk'
  refine r_glob T kB₁ T.bset ?_
  refine wpAny_inSet_of (k := (c : Int)) (s := St s h₁ tk') (by simp [intKind, Value.isInt]) rfl (let ⟨o, es, ep, t, ho, r⟩ := T.set1; ⟨o, es, ep, t, kB₁ _ _ ho, r⟩) ?_
  exact hq h₁ _ fun b o e => (keep b o e).1
end Mine

namespace Mine

/-- what map_table_b3 gives for one sign -/
noncomputable def b3of (c : Nat) : Str := match tab3.lookup (c : Int) with
  | some (.str x) => x
  | _ => Txt.lower ⟨#[c]⟩
/-- the sign is in the table with a text, or it is not and its small form is short -/
noncomputable def b3ok (c : Nat) : Bool := match tab3.lookup (c : Int) with
  | some (.str _) => true
  | some _ => false
  | none => decide ((Txt.lower ⟨#[c]⟩).length ≤ 100)

theorem mem15 : dOf 15 ∈ allDefs := by simp [allDefs, ds3]

theorem map_b3 {w : World} {A : Around} {E : Value → Shared → Prop} {s : Shared} {B h : Heap} {tk : Nat} {mg mb : Str → Option Value} {k b1 b3 : Addr} {c : Nat} {t : Tok} {Q : Value → Shared → Prop}
    (T : Tops w B mg mb k b1 b3) (kB : Kp B h) (R : Room A 5 20) (hc : b3ok c = true) (hq : ∀ t' h' tk', Kp h h' → Q (.str (b3of c) t') (St s h' tk')) :
    wpAny (model Pg w) A (call (.ref (fa mg 15)) [.str ⟨#[c]⟩ t]) Q E (St s h tk) := by
  refine enter (i := 15) (d := 4) (u := 17) (binds := [("code", .str ⟨#[c]⟩ t)]) ["code"] T kB mem15 (R.less (by decide) (by decide)) (fun pm cd doc => by rfl) rfl (by decide +kernel) (Kp.refl h) (Nat.le_refl _) ?_
  intro A' L a cd h₁ tk₁ R' hL F keep
  have kB₁ : Kp B h₁ := fun b o e => (keep b o (kB b o e)).1
  conv in (dOf 15).body => whnf
  refine wpAny_execs_cons ?_
  refine wpAny_Assign_Name ?_
  refine wpAny_Call_method1_late (by rfl) (by rfl) (by rfl) ?_
  refine r_glob T kB₁ T.bdict ?_
  obtain ⟨f, hm, hf⟩ := T.dict3
  have hm₁ : h₁.MapOf (intKind Pg w) b3 f := let ⟨o, es, ep, ho, r⟩ := hm; ⟨o, es, ep, kB₁ _ _ ho, r⟩
  refine ⟨"dict", "dict.get", PySem.F.plainAttrs_dict, PySem.F.slot_dict_get, PySem.F.type_dict_get, hm₁.typeIs (s := St s h₁ tk₁), hm₁.noDict, ?_⟩
  refine wpAny_dict_get1 (knd := intKind Pg w) T.b3n ?_
  refine Call_Name1 ?_
  refine r_bi T kB₁ boot_ord ?_
  refine PySem.callWith_builtin1 ?_
  refine r_ld F rfl ?_
  refine c_ord ?_
  intro t₂ tk₂
  refine ⟨(c : Int), f, by simp [intKind, Value.isInt], hm₁, ?_⟩
  show wpAny _ _ _ _ _ (St s h₁ (tk₂ + 1))
  refine r_st F News.nil ?_
  intro h₂ tk₃ F₂ _ k₂
  dsimp only
  have keep₂ : Kp h h₂ := fun b o e => k₂ b o (keep b o e).2 (keep b o e).1
  have kB₂ : Kp B h₂ := kB.trans keep₂
  obtain ⟨hn, hs⟩ := hf (c : Int)
  unfold b3ok at hc
  unfold b3of at hq
  cases hl : tab3.lookup (c : Int) with
  | none =>
    rw [hl] at hc hq
    rw [hn hl] at F₂
    refine wpAny_execs_cons ?_
    refine wpAny_If ?_
    refine wpAny_isTrue_Compare1 ?_
    refine r_ld F₂ (by rfl) ?_
    refine wpAny_pure ?_
    refine wpAny_isNot_self (by rfl) ?_
    refine wpAny_truthy_bool ?_
    rw [if_neg Bool.false_ne_true]
    refine wpAny_execs_nil ?_
    refine wpAny_execs_cons ?_
    refine wpAny_Return_some ?_
    refine Call_method0 (by rfl) (by rfl) ?_
    refine r_ld F₂ (by rfl) ?_
    refine SB.lower ?_ ?_
    · simp only [decide_eq_true_eq] at hc
      simp [Builtin.Str.tooLong, sizeLine]
      omega
    · exact hq _ _ _ keep₂
  | some cst =>
    rw [hl] at hc hq
    obtain ⟨v, hv, hval⟩ := hs cst hl
    rw [hv] at F₂
    cases cst with
    | str x =>
      obtain ⟨tx, rfl⟩ := hval
      refine wpAny_execs_cons ?_
      refine wpAny_If ?_
      refine wpAny_isTrue_Compare1 ?_
      refine r_ld F₂ (by rfl) ?_
      refine wpAny_pure ?_
      refine wpAny_isNot_other (by rfl) (by intro e; cases e) ?_
      refine wpAny_truthy_bool ?_
      rw [if_pos rfl]
      refine wpAny_execs_cons ?_
      refine wpAny_Return_some ?_
      refine r_ld F₂ (by rfl) ?_
      exact hq _ _ _ keep₂
    | _ => cases hc
end Mine

namespace Mine

noncomputable def KpO (ow : List Addr) (h h' : Heap) : Prop := ∀ b o, b ∉ ow → h.get? b = some o → h'.get? b = some o
theorem KpO.refl (ow : List Addr) (h : Heap) : KpO ow h h := fun _ _ _ e => e
theorem KpO.trans {ow : List Addr} {a b c : Heap} (x : KpO ow a b) (y : KpO ow b c) : KpO ow a c := fun _ _ n e => y _ _ n (x _ _ n e)
theorem Kp.o {h h' : Heap} (x : Kp h h') (ow : List Addr) : KpO ow h h' := fun b o _ e => x b o e
theorem KpO.mono {ow ow' : List Addr} {h h' : Heap} (x : KpO ow h h') (hm : ∀ b ∈ ow, b ∈ ow') : KpO ow' h h' := fun b o n e => x b o (fun hb => n (hm b hb)) e
theorem KpO.of_same {b : Addr} {h h' : Heap} (x : Heap.SameBut b h h') : KpO [b] h h' := fun c o n e => (x.2 c (fun q => n (by simp [q]))).trans e

noncomputable abbrev tests (ifs : List Expr) (cenv : Env) : Sem Bool :=
  forIn ifs true fun c r => if r = true then do let ok ← isTrue c cenv (eval c cenv); pure (ForInStep.yield ok) else pure (ForInStep.yield r)

/-- one loop over an iterator, its target bound in the comprehension's own names -/
structure Itr (w : World) (A : Around) (s : Shared) (I : Addr) (target : Expr) (cenv : Env) (fp ow : List Addr) (N : Nat) (Bd It : Nat → Heap → Prop) : Prop where
  next : ∀ i h tk (E : Value → Shared → Prop), i < N → It i h → wpAny (model Pg w) A (pyNext (.ref I)) (fun r s₁ => ∃ v, r = some v ∧ wpAny (model Pg w) A (letOwnedTupleGo target (.ref I) v) (fun _ s₁' =>
    wpAny (model Pg w) A (assign target cenv v) (fun _ s₂ => ∃ h₂ tk₂, s₂ = St s h₂ tk₂ ∧ Bd i h₂ ∧ It (i + 1) h₂ ∧ KpO ow h h₂) E s₁') E s₁) E (St s h tk)
  stop : ∀ h tk (E : Value → Shared → Prop), It N h → wpAny (model Pg w) A (pyNext (.ref I)) (fun r s₁ => r = none ∧ ∃ h₁ tk₁, s₁ = St s h₁ tk₁ ∧ (∃ m, h₁.Ns cenv.locals m) ∧ KpO ow h h₁) E (St s h tk)
  self : ∀ h tk (Q : Value → Shared → Prop) (E : Value → Shared → Prop), It 0 h → Q (.ref I) (St s h tk) → wpAny (model Pg w) A (pyIter (.ref I)) Q E (St s h tk)
  sub : ∀ b ∈ ow, b ∈ fp
  frame : ∀ i h h', It i h → (∀ b ∈ fp, ∀ o, h.get? b = some o → h'.get? b = some o) → It i h'
  live : ∀ i h, It i h → ∀ b ∈ ow, ∃ o, h.get? b = some o

section
variable {w : World} {A : Around} {R : Result → Shared → Prop} {s : Shared}

theorem comp_loop {elt target iter : Expr} {ifs : List Expr} {scope : Scope} {pos : Pos} {I D : Addr} {cenv : Env} {fp ow : List Addr} {N : Nat} {Bd It : Nat → Heap → Prop} (El : Nat → Heap → List Value → Prop)
    (W : Itr w A s I target cenv fp ow N Bd It) (hDf : D ∉ fp) (hN : N ≤ sizeLine) {h : Heap} {tk : Nat}
    (h0 : It 0 h) (hD : h.PlainList D #[]) (hE0 : El 0 h [])
    (hfr : ∀ i h h' ys, El i h ys → KpO (D :: ow) h h' → El i h' ys)
    (step : ∀ i h₁ tk₁ ys (E : Value → Shared → Prop), i < N → Bd i h₁ → El i h₁ ys → KpO (D :: ow) h h₁ → (∀ b ∈ D :: ow, ∃ o, h₁.get? b = some o) →
      wpAny (model Pg w) A (tests ifs cenv) (fun ok s₂ => ∃ h₂ tk₂, s₂ = St s h₂ tk₂ ∧ Kp h₁ h₂ ∧ if ok = true then
        wpAny (model Pg w) A (eval elt cenv) (fun y s₃ => ∃ h₃ tk₃, s₃ = St s h₃ tk₃ ∧ Kp h₂ h₃ ∧ El (i + 1) h₃ (ys ++ [y])) E s₂ else El (i + 1) h₂ ys) E (St s h₁ tk₁))
    (fin : ∀ h' tk' ys m, El N h' ys → h'.PlainList D ys.toArray → h'.Ns cenv.locals m → KpO (D :: ow) h h' → R (.ok .next) (St s h' tk')) :
    codeAny (model Pg w) A (.compLoop (.ListComp elt [⟨target, iter, ifs, 0⟩] scope pos) 0 (.ref I) (.ref D) cenv) R (St s h tk) := by
  have hDo : D ∉ ow := fun hm => hDf (W.sub _ hm)
  refine codeAny_loop rfl (fun n s' => ∃ i h' tk' ys, s' = St s h' tk' ∧ i ≤ N ∧ n = N - i ∧ It i h' ∧ El i h' ys ∧ ys.length ≤ i ∧ h'.PlainList D ys.toArray ∧ KpO (D :: ow) h h') (fun n s' hI => ?_) N
    ⟨0, h, tk, [], rfl, Nat.zero_le _, rfl, h0, hE0, Nat.le_refl _, hD, KpO.refl _ _⟩
  obtain ⟨i, h₁, tk₁, ys, rfl, hi, rfl, hIt, hEl, hlen, hDl, hk⟩ := hI
  show wpAny _ A ((compTurn (.ListComp elt [⟨target, iter, ifs, 0⟩] scope pos) 0 (.ref I) (.ref D) cenv).onRaise (fun x => do noteFrame x cenv; theTreesLotGoes x)) _ _ _
  refine wpAny_noted ?_
  rw [compTurn_list]
  refine wpAny_bind (wpAny_standAt (wpAny_bind ?_))
  by_cases hlt : i < N
  · refine wpAny_mono (W.next i h₁ tk₁ _ hlt hIt) ?_ (fun _ _ e => e)
    rintro r s₁ ⟨v, rfl, hv⟩
    refine wpAny_bind (wpAny_mono hv ?_ fun _ _ e => e)
    intro _ s₁' hv'
    refine wpAny_bind (wpAny_mono hv' ?_ fun _ _ e => e)
    rintro _ s₂ ⟨h₂, tk₂, rfl, hBd, hIt₂, hk₂⟩
    have hD₂ : h₂.PlainList D ys.toArray := hDl.at fun o e => hk₂ D o hDo e
    have hEl₂ : El i h₂ ys := hfr _ _ _ _ hEl (hk₂.mono fun b hb => List.mem_cons_of_mem _ hb)
    have hkk₂ : KpO (D :: ow) h h₂ := hk.trans (hk₂.mono fun b hb => List.mem_cons_of_mem _ hb)
    have hlive : ∀ b ∈ D :: ow, ∃ o, h₂.get? b = some o := fun b hb => by
      rcases List.mem_cons.mp hb with rfl | hb
      · obtain ⟨n, e⟩ := hD₂; exact ⟨_, e⟩
      · exact W.live _ _ hIt₂ b hb
    refine wpAny_bind (wpAny_mono (step i h₂ tk₂ ys _ hlt hBd hEl₂ hkk₂ hlive) ?_ fun _ _ e => e)
    rintro ok s₃ ⟨h₃, tk₃, rfl, hk₃, hok⟩
    have hIt₃ : It (i + 1) h₃ := W.frame _ _ _ hIt₂ fun b _ o e => hk₃ b o e
    cases ok with
    | false =>
      rw [if_neg Bool.false_ne_true] at hok ⊢
      exact wpAny_pure ⟨rfl, N - (i + 1), by omega, i + 1, h₃, tk₃, ys, rfl, hlt, rfl, hIt₃, hok, by omega, hD₂.at fun o e => hk₃ _ o e, hkk₂.trans (hk₃.o _)⟩
    | true =>
      rw [if_pos rfl] at hok
      simp only [if_true]
      refine wpAny_bind (wpAny_bind (wpAny_mono hok ?_ fun _ _ e => e))
      rintro y s₄ ⟨h₄, tk₄, rfl, hk₄, hEl₄⟩
      have hD₄ : h₄.PlainList D ys.toArray := hD₂.at fun o e => hk₄ _ o (hk₃ _ o e)
      refine wpAny_bind ?_
      refine wpAny_list_append_plain (s := St s h₄ tk₄) hD₄ ?_ (by simp; omega)
      intro h₅ hD₅ hs₅
      have k₅ : KpO [D] h₄ h₅ := KpO.of_same hs₅
      refine wpAny_pure (wpAny_pure ⟨rfl, N - (i + 1), by omega, i + 1, h₅, tk₄, ys ++ [y], rfl, hlt, rfl, ?_, ?_, by simp; omega, by simpa using hD₅, ?_⟩)
      · exact W.frame _ _ _ hIt₃ fun b hb o e => k₅ b o (by intro q; simp at q; exact hDf (q ▸ hb)) (hk₄ b o e)
      · exact hfr _ _ _ _ hEl₄ (k₅.mono fun b hb => by simp at hb; simp [hb])
      · exact (hkk₂.trans (hk₃.o _)).trans ((hk₄.o _).trans (k₅.mono fun b hb => by simp at hb; simp [hb]))
  · have hiN : i = N := by omega
    subst hiN
    refine wpAny_mono (W.stop h₁ tk₁ _ hIt) ?_ fun _ _ e => e
    rintro r s₁ ⟨rfl, h₂, tk₂, rfl, ⟨m, hm⟩, hk₂⟩
    have hk₂' : KpO (D :: ow) h₁ h₂ := hk₂.mono fun b hb => List.mem_cons_of_mem _ hb
    exact wpAny_pure (fin h₂ tk₂ ys m (hfr _ _ _ _ hEl hk₂') (hDl.at fun o e => hk₂ D o hDo e) hm (hk.trans hk₂'))
end
end Mine

namespace Mine

section
variable {w : World} {A : Around} {s : Shared}

/-- Walks as Itr, the target one local name -/
theorem Itr.walk {I : Addr} {x : Str} {px : Pos} {cenv : Env} {fp wr : List Addr} {N : Nat} {P : Nat → Value → Prop} {It : Nat → Heap → Prop} (W : Walks Pg w A I fp wr N P It)
    (hlv : ∀ i h, It i h → ∀ b ∈ wr, ∃ o, h.get? b = some o) (hC : cenv.locals ∉ fp)
    (hx : cenv.kindOf x = some .local) (hp : (cenv.scope.kind == .class || (cenv.scope.kind == .module && cenv.locals != cenv.globals)) = false) :
    Itr w A s I (.Name x px) cenv (cenv.locals :: fp) (cenv.locals :: wr) N (fun i h => ∃ m v, h.Ns cenv.locals m ∧ m x = some v ∧ P i v) (fun i h => It i h ∧ ∃ m, h.Ns cenv.locals m) where
  next := fun i h tk E hi hIt => by
    obtain ⟨hIt, m, hm⟩ := hIt
    refine W.item i (St s h tk) _ E hi hIt ?_
    intro v h₁ tk₁ hP hIt₁ hk₁
    refine ⟨v, rfl, ?_⟩
    refine wpAny_of_eq (show letOwnedTupleGo (.Name x px) (.ref I) v = pure () from rfl) ?_
    have hCw : cenv.locals ∉ wr := fun hm => hC (W.sub _ hm)
    refine wpAny_assign_Name (wpAny_storeName_local hx (hm.at' (h' := h₁) fun o e => hk₁ _ o hCw e) (fun h₂ hn₂ hs₂ => ?_) hp)
    refine ⟨h₂, _, rfl, ⟨_, v, hn₂, by simp, hP⟩, ⟨?_, _, hn₂⟩, ?_⟩
    · exact W.frame _ _ _ hIt₁ fun b hb o e => (hs₂.2 b (fun q => hC (q ▸ hb))).trans e
    · intro b o hb e
      have hb' : b ≠ cenv.locals ∧ b ∉ wr := by simpa using hb
      exact (hs₂.2 b hb'.1).trans (hk₁ b o hb'.2 e)
  stop := fun h tk E hIt => by
    obtain ⟨hIt, m, hm⟩ := hIt
    refine W.done (St s h tk) _ E hIt ?_
    intro h₁ tk₁ hk₁
    have hCw : cenv.locals ∉ wr := fun hm => hC (W.sub _ hm)
    refine ⟨rfl, h₁, tk₁, rfl, ⟨m, hm.at' fun o e => hk₁ _ o hCw e⟩, fun b o hb e => hk₁ b o (fun q => hb (List.mem_cons_of_mem _ q)) e⟩
  self := fun h tk Q E hIt hQ => W.self 0 (St s h tk) Q E hIt.1 hQ
  sub := fun b hb => by
    rcases List.mem_cons.mp hb with rfl | hb
    · exact List.mem_cons_self
    · exact List.mem_cons_of_mem _ (W.sub _ hb)
  frame := fun i h h' hIt hk => ⟨W.frame _ _ _ hIt.1 fun b hb o e => hk b (List.mem_cons_of_mem _ hb) o e, hIt.2.imp fun m hm => hm.at' fun o e => hk _ List.mem_cons_self o e⟩
  live := fun i h hIt b hb => by
    rcases List.mem_cons.mp hb with rfl | hb
    · obtain ⟨m, o, es, ep, ho, _⟩ := hIt.2; exact ⟨o, ho⟩
    · exact hlv i h hIt.1 b hb

/-- what is asked of the turns of a comprehension -/
structure Turns (w : World) (A : Around) (s : Shared) (env : Env) (scope : Scope) (cl : List (Str × Addr)) (ifs : List Expr) (elt : Expr) (ex wr : List Addr) (h h₂ : Heap) (N : Nat)
    (Bd : Addr → Nat → Heap → Prop) (El : List Addr → Nat → Heap → List Value → Prop) : Prop where
  zero : ∀ bad h', KpO wr h₂ h' → El bad 0 h' []
  frame : ∀ bad i h h' ys, El bad i h ys → KpO bad h h' → El bad i h' ys
  step : ∀ C bad i h₁ tk₁ ys (E : Value → Shared → Prop), i < N → Bd C i h₁ → El bad i h₁ ys → KpO wr h₂ h₁ → Kp h h₁ → (∀ b ∈ bad, ∃ o, h₁.get? b = some o) →
      wpAny (model Pg w) A (tests ifs (compEnvC scope cl C env)) (fun ok s₂ => ∃ h₂ tk₂, s₂ = St s h₂ tk₂ ∧ Kp h₁ h₂ ∧ if ok = true then
        wpAny (model Pg w) A (eval elt (compEnvC scope cl C env)) (fun y s₃ => ∃ h₃ tk₃, s₃ = St s h₃ tk₃ ∧ Kp h₂ h₃ ∧ El bad (i + 1) h₃ (ys ++ [y])) E s₂ else El bad (i + 1) h₂ ys) E (St s h₁ tk₁)

/-- what stands behind pyIter -/
structure Start (w : World) (A : Around) (s : Shared) (env : Env) (scope : Scope) (cl : List (Str × Addr)) (target : Expr) (I : Addr) (fp wr : List Addr) (h h₂ : Heap) (N : Nat)
    (Bd It : Addr → Nat → Heap → Prop) : Prop where
  keep : Kp h h₂
  size : N ≤ sizeLine
  fresh : ∀ b ∈ wr, h.get? b = none
  below : ∀ b ∈ fp, b < h₂.objs.size
  itr : ∀ C, h₂.objs.size < C → Itr w A s I target (compEnvC scope cl C env) (C :: fp) (C :: wr) N (Bd C) (It C)
  at0 : ∀ C h₃ m, Kp h₂ h₃ → h₃.Ns C m → It C 0 h₃

theorem comp_core {E : Value → Shared → Prop} {env : Env} {scope : Scope} {cl : List (Str × Addr)} {elt target iter : Expr} {ifs : List Expr} {pos : Pos} {I : Addr} {ex fp wr : List Addr} {h h₂ : Heap} {tk₂ : Nat} {N : Nat}
    {Bd It : Addr → Nat → Heap → Prop} {El : List Addr → Nat → Heap → List Value → Prop} {use : Option (Value → Sem Unit)} {Q : Value → Shared → Prop}
    (hcell : ∀ y ∈ scope.names, y.2 ≠ .cell) (hkind : scope.kind = .function)
    (S : Start w A s env scope cl target I fp wr h h₂ N Bd It) (T : Turns w A s env scope cl ifs elt ex wr h h₂ N Bd El) (hex : ∀ b ∈ ex, ∃ o, h.get? b = some o)
    (fin : ∀ D C bad h' tk' ys m, El bad N h' ys → h'.PlainList D ys.toArray → h'.Ns C m → Kp h h' → h.get? D = none → h.get? C = none → D ≠ C → C ∈ bad → (∀ b ∈ ex, b ∈ bad) →
      compPost (model Pg w) A E use Q (.ref D) C (.ok .next) (St s h' tk')) :
    wpAny (model Pg w) A (newList []) (fun acc s₃ => wpAny (model Pg w) A (newFunctionEnv scope env.globals cl [] env.qual none .none (some env)) (fun cenv s₄ =>
      codeAny (model Pg w) A (.compStart (.ListComp elt [⟨target, iter, ifs, 0⟩] scope pos) 0 (.ref I) acc { cenv with scope := relabel scope env }) (compPost (model Pg w) A E use Q acc cenv.locals) s₄) E s₃) E (St s h₂ tk₂) := by
  refine wpAny_newObj_type (wpAny_newFunctionEnv hcell (by intro y hy; simp at hy) (fun h₁ hns₁ hsb₁ => ?_) hkind)
  dsimp only [St] at hns₁ hsb₁ ⊢
  generalize hH2 : h₂.push { cls := .type "list", dict := none, data := .seq ([] : List Value).toArray } = H2 at hns₁ hsb₁ ⊢
  have hC : H2.objs.size = h₂.objs.size + 1 := by rw [← hH2, Heap.size_push]
  have hDC : h₂.objs.size ≠ H2.objs.size := by rw [hC]; exact Nat.ne_of_lt (Nat.lt_succ_self _)
  have hlt : h₂.objs.size < H2.objs.size := by rw [hC]; exact Nat.lt_succ_self _
  have below : ∀ b, b < h₂.objs.size → b ≠ H2.objs.size ∧ b ≠ h₂.objs.size := fun b hb => ⟨by rw [hC]; exact Nat.ne_of_lt (Nat.lt_succ_of_lt hb), Nat.ne_of_lt hb⟩
  have hDf : h₂.objs.size ∉ H2.objs.size :: fp := fun hm => by
    rcases List.mem_cons.mp hm with e | hm
    · exact hDC e
    · exact Nat.lt_irrefl _ (S.below _ hm)
  have old : Kp h₂ h₁ := fun b o e => hsb₁.extBut b o (below b (Heap.lt_size e)).1 (Heap.get?_push_of_some _ (hH2 ▸ Heap.get?_push_of_some _ e))
  have hacc : h₁.PlainList h₂.objs.size #[] := ⟨_, hsb₁.extBut _ _ hDC (Heap.get?_push_of_some _ (hH2 ▸ Heap.get?_push_size _ rfl))⟩
  have fresh : ∀ a, h₂.objs.size ≤ a → h.get? a = none := fun a ha => by
    cases e : h.get? a with
    | none => rfl
    | some o' => exact absurd (Heap.lt_size (S.keep _ _ e)) (Nat.not_lt.mpr ha)
  have hb1 : ∀ {h'' : Heap}, KpO (h₂.objs.size :: H2.objs.size :: wr) h₁ h'' → KpO wr h₂ h'' := fun k b o hb e => by
    have hb2 := below b (Heap.lt_size e)
    exact k b o (by simp [hb, hb2.1, hb2.2]) (old b o e)
  have hb2 : ∀ {h'' : Heap}, KpO wr h₂ h'' → Kp h h'' := fun k b o e => k b o (fun hm => by rw [S.fresh b hm] at e; cases e) (S.keep b o e)
  have loop : codeAny (model Pg w) A (.compLoop (.ListComp elt [⟨target, iter, ifs, 0⟩] scope pos) 0 (.ref I) (.ref h₂.objs.size) (compEnvC scope cl H2.objs.size env))
        (compPost (model Pg w) A E use Q (.ref h₂.objs.size) H2.objs.size) (St s h₁ (tk₂ + ([] : List (Str × Value)).length)) := by
    refine comp_loop (fun i h' ys => El (ex ++ h₂.objs.size :: H2.objs.size :: wr) i h' ys) (S.itr H2.objs.size hlt) hDf S.size (S.at0 _ _ _ old hns₁) hacc (T.zero _ _ (old.o _)) ?_ ?_ ?_
    · exact fun i h h' ys hE k => T.frame _ _ _ _ _ hE (k.mono fun b hb => List.mem_append_right _ hb)
    · intro i h' tk' ys E' hi hBd hEl k hlive
      refine T.step _ _ i h' tk' ys E' hi hBd hEl (hb1 k) (hb2 (hb1 k)) ?_
      intro b hb
      rcases List.mem_append.mp hb with hb | hb
      · obtain ⟨o, e⟩ := hex b hb; exact ⟨o, hb2 (hb1 k) b o e⟩
      · exact hlive b hb
    · intro h' tk' ys m hEl hDl hm k
      exact fin _ _ _ h' tk' ys m hEl hDl hm (hb2 (hb1 k)) (fresh _ (Nat.le_refl _)) (fresh _ (Nat.le_of_lt hlt)) hDC (by simp) (fun b hb => List.mem_append_left _ hb)
  exact codeAny_compStart_list loop ((S.itr H2.objs.size hlt).self _ _ _ _ (S.at0 _ _ _ old hns₁) loop)

/-- a list comprehension as an expression -/
theorem r_comp {E : Value → Shared → Prop} {env : Env} {scope : Scope} {cl : List (Str × Addr)} {elt target iter : Expr} {ifs : List Expr} {pos : Pos} {h : Heap} {tk : Nat} {Q : Value → Shared → Prop}
    (hclos : closureFor scope env = pure cl) (hcell : ∀ y ∈ scope.names, y.2 ≠ .cell) (hkind : scope.kind = .function)
    (hnames : ∀ y ∈ scope.names, y.2 = .local → scope.names.lookup y.1 = some .local)
    (hi : wpAny (model Pg w) A (eval iter env) (fun xv s₁ => wpAny (model Pg w) A (pyIter xv) (fun it s₂ => ∃ I fp wr N h₂ tk₂ Bd It El, it = .ref I ∧ s₂ = St s h₂ tk₂ ∧ Start w A s env scope cl target I fp wr h h₂ N Bd It ∧
      Turns w A s env scope cl ifs elt [] wr h h₂ N Bd El ∧
      (∀ D bad h' tk' ys, El bad N h' ys → h'.PlainList D ys.toArray → Kp h h' → h.get? D = none → Q (.ref D) (St s h' tk'))) E s₁) E (St s h tk))
    (hs : ∀ x, foldedSetIterable iter env x = pure x := by intro _; rfl) :
    wpAny (model Pg w) A (eval (.ListComp elt [⟨target, iter, ifs, 0⟩] scope pos) env) Q E (St s h tk) := by
  rw [eval_ListComp]
  refine wpAny_comprehension_free (use := none) rfl hs hclos hkind hnames (wpAny_mono hi (fun xv s₁ h₁ => wpAny_mono h₁ (fun it s₂ h₂ => ?_) fun _ _ e => e) fun _ _ e => e)
  obtain ⟨I, fp, wr, N, h₂, tk₂, Bd, It, El, rfl, rfl, S, T, fin⟩ := h₂
  refine comp_core (ex := []) hcell hkind S T (fun b hb => nomatch hb) ?_
  intro D C bad h' tk' ys m hEl hDl hm hk hD hC hDC hCb _
  refine ⟨m, hm, fun h'' hs'' => ?_⟩
  refine fin D bad h'' tk' ys (T.frame _ _ _ _ _ hEl ?_) (hDl.at fun o e => (hs''.2 D hDC).trans e) ?_ hD
  · exact (KpO.of_same hs'').mono fun b hb => by simp at hb; exact hb ▸ hCb
  · exact fun b o e => (hs''.2 b (by rintro rfl; rw [hC] at e; cases e)).trans (hk b o e)

/-- a list comprehension given to one local name -/
theorem r_comp_to {E : Value → Shared → Prop} {env : Env} {scope : Scope} {cl : List (Str × Addr)} {elt target iter : Expr} {ifs : List Expr} {pos py spos : Pos} {y : Str} {h : Heap} {tk : Nat} {m₀ : Str → Option Value} {Q : Flow → Shared → Prop}
    (hsw : swapsWith (.ListComp elt [⟨target, iter, ifs, 0⟩] scope pos) (some (.Name y py)) spos.line env = pure true)
    (hclos : closureFor scope env = pure cl) (hcell : ∀ y ∈ scope.names, y.2 ≠ .cell) (hkind : scope.kind = .function)
    (hnames : ∀ y ∈ scope.names, y.2 = .local → scope.names.lookup y.1 = some .local)
    (hy : env.kindOf y = some .local) (hp : (env.scope.kind == .class || (env.scope.kind == .module && env.locals != env.globals)) = false)
    (hL : h.Ns env.locals m₀)
    (hi : wpAny (model Pg w) A (eval iter env) (fun xv s₁ => wpAny (model Pg w) A (pyIter xv) (fun it s₂ => ∃ I fp wr N h₂ tk₂ Bd It El, it = .ref I ∧ s₂ = St s h₂ tk₂ ∧ Start w A s env scope cl target I fp wr h h₂ N Bd It ∧
      Turns w A s env scope cl ifs elt [env.locals] wr h h₂ N Bd El ∧
      (∀ D bad h' tk' ys, El bad N h' ys → h'.PlainList D ys.toArray → KpO [env.locals] h h' → h.get? D = none → D ≠ env.locals → h'.Ns env.locals (fun z => if z = y then some (.ref D) else m₀ z) → Q .next (St s h' tk'))) E s₁) E (St s h tk))
    (hs : ∀ x, foldedSetIterable iter env x = pure x := by intro _; rfl) :
    wpAny (model Pg w) A (exec (.Assign [.Name y py] (.ListComp elt [⟨target, iter, ifs, 0⟩] scope pos) spos) env) Q E (St s h tk) := by
  rw [exec_Assign_Name_used _ _ _ _ hsw]
  refine wpAny_bind (wpAny_standAt (wpAny_bind ?_))
  show wpAny _ A (do let _ ← comprehension (.ListComp elt [⟨target, iter, ifs, 0⟩] scope pos) scope env _ (newList []) false (eval iter env) (some (assign (.Name y py) env))) _ _ _
  refine wpAny_bind (wpAny_mono (wpAny_comprehension_free (use := some (assign (.Name y py) env)) (Q := fun _ s' => Q .next s') rfl hs hclos hkind hnames
    (wpAny_mono hi (fun xv s₁ h₁ => wpAny_mono h₁ (fun it s₂ h₂ => ?_) fun _ _ e => e) fun _ _ e => e)) (fun _ s' hq => wpAny_pure (wpAny_pure hq)) fun _ _ e => e)
  obtain ⟨I, fp, wr, N, h₂, tk₂, Bd, It, El, rfl, rfl, S, T, fin⟩ := h₂
  have hLl : ∃ o, h.get? env.locals = some o := let ⟨o, es, ep, ho, _⟩ := hL; ⟨o, ho⟩
  refine comp_core (ex := [env.locals]) hcell hkind S T (fun b hb => by simp at hb; exact hb ▸ hLl) ?_
  intro D C bad h' tk' ys m hEl hDl hm hk hD hC hDC hCb hexb
  have hLC : env.locals ≠ C := by rintro e; obtain ⟨o, ho⟩ := hLl; rw [e, hC] at ho; cases ho
  have hLD : D ≠ env.locals := by rintro e; obtain ⟨o, ho⟩ := hLl; rw [← e, hD] at ho; cases ho
  show wpAny _ A (assign (.Name y py) env (.ref D)) _ _ _
  refine wpAny_assign_Name (wpAny_storeName_local hy (hL.keeps hk) (fun h₃ hn₃ hs₃ => ?_) hp)
  refine ⟨m, hm.sameBut hs₃ (Ne.symm hLC), fun h₄ hs₄ => ?_⟩
  have hE₃ : El bad N h₃ ys := T.frame _ _ _ _ _ hEl ((KpO.of_same hs₃).mono fun b hb => hexb b hb)
  have hE₄ : El bad N h₄ ys := T.frame _ _ _ _ _ hE₃ ((KpO.of_same hs₄).mono fun b hb => by simp at hb; exact hb ▸ hCb)
  refine fin D bad h₄ _ ys hE₄ (hDl.at fun o e => (hs₄.2 D hDC).trans ((hs₃.2 D hLD).trans e)) ?_ hD hLD (hn₃.sameBut hs₄ hLC)
  · exact fun b o hb e => (hs₄.2 b (by rintro rfl; rw [hC] at e; cases e)).trans ((hs₃.2 b (by simpa using hb)).trans (hk b o e))
end
end Mine

namespace Mine

section
variable {w : World} {A : Around} {E : Value → Shared → Prop} {s : Shared} {B h : Heap} {tk : Nat} {mg mb m : Str → Option Value} {k b1 b3 : Addr} {env : Env} {M : Model}

theorem g_ld {x : Str} {p : Pos} {v : Value} {Q : Value → Shared → Prop} (hn : h.Ns env.locals m) (hv : m x = some v) (hq : Q v (St s h tk))
    (hk : env.scope.kind = .function := by rfl) (hl : env.kindOf x = some .local := by rfl) (hd : (x == ("__debug__" : Str)) = false := by decide) :
    wpAny M A (eval (.Name x p) env) Q E (St s h tk) := wpAny_Name (wpAny_loadName_local (s := St s h tk) hk hl hn hv hq) hd

theorem g_cell {x : Str} {p : Pos} {v : Value} {c : Addr} {Q : Value → Shared → Prop} (hv : h.IsCell c (some v)) (hc : env.cells.lookup x = some c) (hq : Q v (St s h tk))
    (hk : env.scope.kind = .function := by rfl) (hl : env.kindOf x = some .cell := by rfl) (hd : (x == ("__debug__" : Str)) = false := by decide) :
    wpAny M A (eval (.Name x p) env) Q E (St s h tk) := wpAny_Name (wpAny_loadName_cell (s := St s h tk) hk hl hc hv hq) hd

theorem g_free {x : Str} {p : Pos} {v : Value} {c : Addr} {Q : Value → Shared → Prop} (hv : h.IsCell c (some v)) (hc : env.cells.lookup x = some c) (hq : Q v (St s h tk))
    (hk : env.scope.kind = .function := by rfl) (hl : env.kindOf x = some .free := by rfl) (hd : (x == ("__debug__" : Str)) = false := by decide) (hn : (x == ("__classdict__" : Str)) = false := by decide) :
    wpAny M A (eval (.Name x p) env) Q E (St s h tk) := wpAny_Name (wpAny_loadName_free (s := St s h tk) hk hl hc hv hq hn) hd

theorem g_fn {x : Str} {p : Pos} {j : Nat} {Q : Value → Shared → Prop} (T : Tops w B mg mb k b1 b3) (kB : Kp B h) (hj : dOf j ∈ allDefs) (hx : (dOf j).name = x)
    (hq : Q (.ref (fa mg j)) (St s h tk)) (hg : env.globals = mainGlobals := by rfl)
    (hk : env.scope.kind = .function := by rfl) (hl : env.kindOf x = some .globalImplicit := by rfl) (hd : (x == ("__debug__" : Str)) = false := by decide) :
    wpAny M A (eval (.Name x p) env) Q E (St s h tk) := by
  obtain ⟨o, pm, c, doc, h1, h2, h3, h4⟩ := T.fa hj
  rw [hx] at h1
  exact Name_function_global (s := St s h tk) hk hl (loadGlobal_global (s := St s h tk) (by rw [hg]; exact T.g.keeps kB) h1 hq) hd

theorem g_bi {x : Str} {p : Pos} {v : Value} {Q : Value → Shared → Prop} (T : Tops w B mg mb k b1 b3) (kB : Kp B h) (hv : bootBuiltins x = some v) (hq : Q v (St s h tk))
    (hf : (Pg.boundNames.contains x || bootMainNames.contains x) = false := by decide +kernel) (hn : x ≠ "__name__" := by decide)
    (hg : env.globals = mainGlobals := by rfl) (hb : env.builtins = builtinsNs := by rfl)
    (hk : env.scope.kind = .function := by rfl) (hl : env.kindOf x = some .globalImplicit := by rfl) (hd : (x == ("__debug__" : Str)) = false := by decide) :
    wpAny M A (eval (.Name x p) env) Q E (St s h tk) := by
  have hf' := Bool.or_eq_false_iff.mp hf
  have f1 : x ∉ Pg.boundNames := fun h => by rw [List.contains_iff_mem.mpr h] at hf'; exact Bool.noConfusion hf'.1
  have f2 : x ∉ bootMainNames := fun h => by rw [List.contains_iff_mem.mpr h] at hf'; exact Bool.noConfusion hf'.2
  exact Name_function_global (s := St s h tk) hk hl
    (loadGlobal_builtin (s := St s h tk) (by rw [hg]; exact T.g.keeps kB) (T.free x f1 f2) (by rw [hb]; exact T.b.keeps kB) ((T.builtins x hn).trans hv) hq) hd

/-- the call of a def of the text with its values at hand -/
theorem c_fn1 {pos : Pos} {j : Nat} {t₁ : Sem Value} {Q : Value → Shared → Prop} (T : Tops w B mg mb k b1 b3) (hj : dOf j ∈ allDefs)
    (h₁ : wpAny M A t₁ (fun v₁ s₁ => (∃ h₁ tk₁, s₁ = St s h₁ tk₁ ∧ Kp B h₁) ∧ wpAny M A (call (.ref (fa mg j)) [v₁]) Q E s₁) E (St s h tk)) :
    wpAny M A (callWith pos (.ref (fa mg j)) [] [(false, t₁)] []) Q E (St s h tk) := by
  obtain ⟨o, pm, c, doc, e1, e2, e3, e4⟩ := T.fa hj
  refine callWith_function (o := o) (fd := docDef (dOf j).name (dOf j).params (dOf j).body (dOf j).scope pm c doc) (evalArgs_plain (spliced_cons (wpAny_mono h₁ (fun v s₁ hv => spliced_nil ?_) fun _ _ e => e)))
  obtain ⟨⟨h', tk', rfl, kk⟩, hc⟩ := hv
  exact ⟨⟨kk _ _ e2, e3⟩, hc⟩
theorem c_fn2 {pos : Pos} {j : Nat} {t₁ t₂ : Sem Value} {Q : Value → Shared → Prop} (T : Tops w B mg mb k b1 b3) (hj : dOf j ∈ allDefs)
    (h₁ : wpAny M A t₁ (fun v₁ s₁ => wpAny M A t₂ (fun v₂ s₂ => (∃ h₁ tk₁, s₂ = St s h₁ tk₁ ∧ Kp B h₁) ∧ wpAny M A (call (.ref (fa mg j)) [v₁, v₂]) Q E s₂) E s₁) E (St s h tk)) :
    wpAny M A (callWith pos (.ref (fa mg j)) [] [(false, t₁), (false, t₂)] []) Q E (St s h tk) := by
  obtain ⟨o, pm, c, doc, e1, e2, e3, e4⟩ := T.fa hj
  refine callWith_function (o := o) (fd := docDef (dOf j).name (dOf j).params (dOf j).body (dOf j).scope pm c doc) (evalArgs_plain (spliced_cons (wpAny_mono h₁ (fun v s₁ hv => spliced_cons (wpAny_mono hv (fun v₂ s₂ hv₂ => spliced_nil ?_) fun _ _ e => e)) fun _ _ e => e)))
  obtain ⟨⟨h', tk', rfl, kk⟩, hc⟩ := hv₂
  exact ⟨⟨kk _ _ e2, e3⟩, hc⟩
theorem c_fn3 {pos : Pos} {j : Nat} {t₁ t₂ t₃ : Sem Value} {Q : Value → Shared → Prop} (T : Tops w B mg mb k b1 b3) (hj : dOf j ∈ allDefs)
    (h₁ : wpAny M A t₁ (fun v₁ s₁ => wpAny M A t₂ (fun v₂ s₂ => wpAny M A t₃ (fun v₃ s₃ => (∃ h₁ tk₁, s₃ = St s h₁ tk₁ ∧ Kp B h₁) ∧ wpAny M A (call (.ref (fa mg j)) [v₁, v₂, v₃]) Q E s₃) E s₂) E s₁) E (St s h tk)) :
    wpAny M A (callWith pos (.ref (fa mg j)) [] [(false, t₁), (false, t₂), (false, t₃)] []) Q E (St s h tk) := by
  obtain ⟨o, pm, c, doc, e1, e2, e3, e4⟩ := T.fa hj
  refine callWith_function (o := o) (fd := docDef (dOf j).name (dOf j).params (dOf j).body (dOf j).scope pm c doc) (evalArgs_plain (spliced_cons (wpAny_mono h₁ (fun v s₁ hv => spliced_cons (wpAny_mono hv (fun v₂ s₂ hv₂ => spliced_cons (wpAny_mono hv₂ (fun v₃ s₃ hv₃ => spliced_nil ?_) fun _ _ e => e)) fun _ _ e => e)) fun _ _ e => e)))
  obtain ⟨⟨h', tk', rfl, kk⟩, hc⟩ := hv₃
  exact ⟨⟨kk _ _ e2, e3⟩, hc⟩

theorem Start.walk {scope : Scope} {cl : List (Str × Addr)} {x : Str} {px : Pos} {I : Addr} {fp wr : List Addr} {h₂ : Heap} {N : Nat} {P : Nat → Value → Prop} {It : Nat → Heap → Prop}
    (W : Walks Pg w A I fp wr N P It) (keep : Kp h h₂) (size : N ≤ sizeLine) (fresh : ∀ b ∈ wr, h.get? b = none) (below : ∀ b ∈ fp, b < h₂.objs.size)
    (hlv : ∀ i h, It i h → ∀ b ∈ wr, ∃ o, h.get? b = some o) (h0 : It 0 h₂) (hx : scope.names.lookup x = some .local) (hkind : scope.kind = .function) :
    Start w A s env scope cl (.Name x px) I fp wr h h₂ N (fun C i h => ∃ m v, h.Ns C m ∧ m x = some v ∧ P i v) (fun C i h => It i h ∧ ∃ m, h.Ns C m) where
  keep := keep
  size := size
  fresh := fresh
  below := below
  itr := fun C hC => Itr.walk (cenv := compEnvC scope cl C env) W hlv (fun hm => Nat.lt_irrefl _ (Nat.lt_trans hC (below _ hm))) (lookup_relabel_local hx) (by simp [compEnvC, relabel, hkind])
  at0 := fun C h₃ m k hn => ⟨W.frame _ _ _ h0 fun b _ o e => k b o e, m, hn⟩

/-- the iterator of a text -/
theorem it_str {X : Str} {t : Tok} {Q : Value → Shared → Prop} (hA : A.handled = none)
    (hq : ∀ I h₂ (It : Nat → Heap → Prop), Walks Pg w A I [I] [I] X.cps.size (SignAt X) It → (∀ i h, It i h → ∀ b ∈ [I], ∃ o, h.get? b = some o) → It 0 h₂ → Kp h h₂ → h.get? I = none → I < h₂.objs.size →
      Q (.ref I) (St s h₂ tk)) : wpAny (model Pg w) A (pyIter (.str X t)) Q E (St s h tk) := by
  have hno : h.get? h.objs.size = none := by
    cases e : h.get? h.objs.size with
    | none => rfl
    | some o => exact absurd (Heap.lt_size e) (Nat.lt_irrefl _)
  cases ha : X.cps.all (· < 128)
  · refine wpAny_pyIter_wide (s := St s h tk) ha (hq _ _ _ (Walks.strWide hA _ X t) ?_ ⟨_, Heap.get?_push_size _ rfl, rfl, rfl⟩ (Kp.push h _) hno ?_)
    · intro i h hi b hb; obtain ⟨o, ho, _⟩ := hi; simp at hb; exact ⟨o, hb ▸ ho⟩
    · rw [Heap.size_push]; exact Nat.lt_succ_self _
  · refine wpAny_pyIter_ascii (s := St s h tk) ha (hq _ _ _ (Walks.strAscii hA _ X t) ?_ ⟨_, Heap.get?_push_size _ rfl, rfl, rfl⟩ (Kp.push h _) hno ?_)
    · intro i h hi b hb; obtain ⟨o, ho, _⟩ := hi; simp at hb; exact ⟨o, hb ▸ ho⟩
    · rw [Heap.size_push]; exact Nat.lt_succ_self _
end

/-- texts as lists of signs -/
noncomputable def sg (l : List Nat) : Str := ⟨l.toArray⟩
theorem sg_append (a b : List Nat) : sg a ++ sg b = sg (a ++ b) := by
  show (⟨a.toArray ++ b.toArray⟩ : Str) = ⟨(a ++ b).toArray⟩
  simp
theorem sg_inj {a b : List Nat} (e : sg a = sg b) : a = b := by
  have := congrArg (fun x => x.cps.toList) e
  simpa [sg] using this
theorem sg_length (a : List Nat) : (sg a).length = a.length := by simp [sg, Str.length]
theorem sg_of (x : Str) : sg x.cps.toList = x := by cases x; simp [sg]

theorem join_sg (ls : List (List Nat)) : Txt.join (sg []) (ls.map sg) = sg ls.flatten := by
  show Builtin.Str.glued _ _ = _
  have key : ∀ (ls : List (List Nat)) (acc : List Nat), (ls.map sg).foldl (fun acc p => acc ++ (sg []).cps ++ p.cps) acc.toArray = (acc ++ ls.flatten).toArray := by
    intro ls
    induction ls with
    | nil => intro acc; simp
    | cons a r ih =>
      intro acc
      simp only [List.map_cons, List.foldl_cons]
      rw [show acc.toArray ++ (sg []).cps ++ (sg a).cps = (acc ++ a).toArray from by simp [sg], ih]
      simp
  unfold Builtin.Str.glued
  cases ls with
  | nil => rfl
  | cons a r =>
    simp only [List.map_cons, List.drop_succ_cons, List.drop_zero, List.headD_cons]
    show (⟨_⟩ : Str) = ⟨_⟩
    rw [show (sg a).cps = a.toArray from rfl, key r a]
    simp
end Mine

namespace Mine

noncomputable def isB1 (c : Nat) : Bool := b1List.contains (c : Int)
/-- what a sign means -/
noncomputable def den (c : Nat) : List Nat := if isB1 c then [] else (b3of c).cps.toList
noncomputable def goodSign (c : Nat) : Bool := isB1 c || (b3ok c && decide ((den c).length ≤ 100))
noncomputable def prep (l : List Nat) : List Nat := l.flatMap den

theorem StrsAre.snoc {vs : List Value} {ys : List Str} (h : StrsAre vs ys) (y : Str) (t : Tok) : StrsAre (vs ++ [.str y t]) (ys ++ [y]) := by
  induction h with
  | nil => exact .cons y t .nil
  | cons z u _ ih => exact .cons z u ih

noncomputable def parts (l : List Nat) : List (List Nat) := l.flatMap fun c => if isB1 c then [] else [(b3of c).cps.toList]
theorem parts_flatten (l : List Nat) : (parts l).flatten = prep l := by
  induction l with
  | nil => rfl
  | cons c r ih =>
    simp only [parts, prep, List.flatMap_cons] at ih ⊢
    rw [List.flatten_append, ih]
    unfold den
    cases isB1 c <;> simp
theorem parts_length (l : List Nat) : (parts l).length ≤ l.length := by
  induction l with
  | nil => exact Nat.le_refl _
  | cons c r ih =>
    simp only [parts, List.flatMap_cons, List.length_append, List.length_cons] at ih ⊢
    cases isB1 c <;> simp only [Bool.false_eq_true, if_false, if_true, List.length_nil, List.length_cons] <;> omega
theorem parts_sum (l : List Nat) (hg : ∀ c ∈ l, goodSign c = true) : (((parts l).map sg).map (·.length)).sum ≤ 100 * l.length := by
  induction l with
  | nil => exact Nat.le_refl _
  | cons c r ih =>
    have ih := ih fun d hd => hg d (List.mem_cons_of_mem _ hd)
    have hc := hg c List.mem_cons_self
    simp only [parts, List.flatMap_cons, List.map_append, List.sum_append, List.length_cons] at ih ⊢
    unfold goodSign den at hc
    cases hb : isB1 c with
    | true => simp only [if_true, List.map_nil, List.sum_nil]; omega
    | false =>
      rw [hb] at hc
      simp only [Bool.false_or, Bool.and_eq_true, decide_eq_true_eq, Bool.false_eq_true, if_false] at hc
      simp only [Bool.false_eq_true, if_false, List.map_cons, List.map_nil, List.sum_cons, List.sum_nil, sg_length]
      omega

theorem mem20 : dOf 20 ∈ allDefs := by simp [allDefs, ds4]

theorem prep_spec {w : World} {A : Around} {E : Value → Shared → Prop} {s : Shared} {B h : Heap} {tk : Nat} {mg mb : Str → Option Value} {k b1 b3 : Addr} {l : List Nat} {t : Tok} {Q : Value → Shared → Prop}
    (T : Tops w B mg mb k b1 b3) (kB : Kp B h) (R : Room A 6 23) (hg : ∀ c ∈ l, goodSign c = true) (hlen : l.length ≤ 100) (hq : ∀ t' h' tk', Kp h h' → Q (.str (sg (prep l)) t') (St s h' tk')) :
    wpAny (model Pg w) A (call (.ref (fa mg 20)) [.str (sg l) t]) Q E (St s h tk) := by
  refine enter (i := 20) (d := 5) (u := 20) (binds := [("text", .str (sg l) t)]) ["text"] T kB mem20 R (fun pm cd doc => by rfl) rfl (by decide +kernel) (Kp.refl h) (Nat.le_refl _) ?_
  intro A' L a cd h₁ tk₁ R' hL F keep
  have k₁ : Kp h h₁ := fun b o e => (keep b o e).1
  have kB₁ : Kp B h₁ := kB.trans k₁
  conv in (dOf 20).body => whnf
  refine wpAny_execs_cons ?_
  refine wpAny_Return_some ?_
  refine Call_method1 (by rfl) (by rfl) (by rfl) ?_
  refine r_str ?_
  intro t₀ tk₂
  refine ⟨"str", _, PySem.F.plainAttrs_str, PySem.F.slot_str_join, PySem.F.type_str_join, typeIs_str _ _ _, (fun _ e => nomatch e), ?_⟩
  refine callWith_builtin rfl ?_
  refine evalArgs_plain ?_
  refine spliced_cons ?_
  refine r_comp (cl := []) (by rfl) (by decide +kernel) (by rfl) (by decide +kernel) ?_
  refine r_ld F (by rfl) ?_
  refine it_str R'.handled ?_
  intro I h₂ It W hlv h0 k₂ hI hIlt
  have hsz : (sg l).cps.size = l.length := by simp [sg]
  refine ⟨I, [I], [I], (sg l).cps.size, h₂, tk₂, _, _, fun _ i _ ys => StrsAre ys ((parts (l.take i)).map sg), rfl, rfl, 
    Start.walk W k₂ (by rw [hsz]; unfold sizeLine; omega) (fun b hb => by simp at hb; exact hb ▸ hI) (fun b hb => by simp at hb; exact hb ▸ hIlt) hlv h0 (by rfl) (by rfl), ?_, ?_⟩
  · refine ⟨fun _ _ _ => .nil, fun _ _ _ _ _ e _ => e, ?_⟩
    intro C bad i h₃ tk₃ ys E' hi hBd hEl _ k₃ _
    obtain ⟨m, v, hm, hv, c, u, hc, rfl⟩ := hBd
    have kB₃ : Kp B h₃ := kB₁.trans k₃
    have hci : l[i]? = some c := by simpa [sg] using hc
    have htake : l.take (i + 1) = l.take i ++ [c] := by rw [List.take_add_one, hci]; rfl
    have hgc := hg c (List.mem_of_getElem? hci)
    refine wpAny_tests_one ?_
    refine wpAny_isTrue_Not ?_
    refine wpAny_isTrue_value ?_
    refine Call_Name1 ?_
    refine g_fn T kB₃ mem13 (by rfl) ?_
    refine c_fn1 T mem13 ?_
    refine g_ld hm hv ?_
    refine ⟨⟨_, _, rfl, kB₃⟩, ?_⟩
    refine in_b1 T kB₃ (R'.less (by decide) (by decide)) ?_
    intro h₄ tk₄ k₄
    refine wpAny_truthy_bool ?_
    refine ⟨h₄, tk₄, rfl, k₄, ?_⟩
    change if (!isB1 c) = true then _ else _
    cases hb : isB1 c with
    | true =>
      rw [if_neg (by simp)]
      rw [htake]
      simpa [parts, hb] using hEl
    | false =>
      rw [if_pos (by rfl)]
      have kB₄ : Kp B h₄ := kB₃.trans k₄
      unfold goodSign at hgc
      rw [hb] at hgc
      simp only [Bool.false_or, Bool.and_eq_true] at hgc
      refine Call_Name1 ?_
      refine g_fn T kB₄ mem15 (by rfl) ?_
      refine c_fn1 T mem15 ?_
      refine g_ld (hm.keeps k₄) hv ?_
      refine ⟨⟨_, _, rfl, kB₄⟩, ?_⟩
      refine map_b3 T kB₄ (R'.less (by decide) (by decide)) hgc.1 ?_
      intro t₅ h₅ tk₅ k₅
      refine ⟨h₅, tk₅, rfl, k₅, ?_⟩
      rw [htake]
      have := StrsAre.snoc hEl (b3of c) t₅
      simpa [parts, hb, sg_of] using this
  · intro D bad h' tk' ys hEl hD k' _
    refine spliced_nil ?_
    have hl' : l.take (sg l).cps.size = l := by rw [hsz]; exact List.take_length
    rw [hl'] at hEl
    refine join_list (s := St s h' tk') (ys := (parts l).map sg) hD.isList (by simpa using hEl) ?_ ?_
    · have h1 := parts_sum l hg
      have h2 := parts_length l
      have e0 : ("" : Str).length = 0 := by decide +kernel
      rw [e0]
      simp only [Nat.mul_zero, Nat.add_zero]
      omega
    · intro t' tk''
      have e0 : ("" : Str) = sg [] := by decide +kernel
      rw [e0, join_sg, parts_flatten]
      exact hq t' h' tk'' (k₁.trans k')
end Mine

namespace Mine
section
variable {w : World} {A : Around} {E : Value → Shared → Prop} {s : Shared} {h : Heap} {tk : Nat} {a b : Int} {t u : Tok} {Q : Value → Shared → Prop}
theorem i_add (hq : ∀ t' tk', Q (.int (a + b) t') (St s h tk')) : wpAny (model Pg w) A (binaryOp .Add (.int a t) (.int b u)) Q E (St s h tk) := P.add_int (s := St s h tk) (hq _ _)
theorem i_sub (hq : ∀ t' tk', Q (.int (a - b) t') (St s h tk')) : wpAny (model Pg w) A (binaryOp .Sub (.int a t) (.int b u)) Q E (St s h tk) := P.sub_int (s := St s h tk) (hq _ _)
theorem i_mul (hm : IntMulOk a b) (hq : ∀ t' tk', Q (.int (a * b) t') (St s h tk')) : wpAny (model Pg w) A (binaryOp .Mult (.int a t) (.int b u)) Q E (St s h tk) := P.mul_int (s := St s h tk) (hq _ _) hm
theorem i_mod (hb : b ≠ 0) (hq : ∀ t' tk', Q (.int (a.fmod b) t') (St s h tk')) : wpAny (model Pg w) A (binaryOp .Mod (.int a t) (.int b u)) Q E (St s h tk) := mod_int' (s := St s h tk) hb (hq _ _)
theorem i_lt (hq : Q (.bool (decide (a < b))) (St s h tk)) : wpAny (model Pg w) A (compareOp .Lt (.int a t) (.int b u)) Q E (St s h tk) := P.lt_int (s := St s h tk) hq
theorem i_gt (hq : Q (.bool (decide (a > b))) (St s h tk)) : wpAny (model Pg w) A (compareOp .Gt (.int a t) (.int b u)) Q E (St s h tk) := P.gt_int (s := St s h tk) hq
theorem i_eq (hq : Q (.bool (a == b)) (St s h tk)) : wpAny (model Pg w) A (compareOp .Eq (.int a t) (.int b u)) Q E (St s h tk) := P.eq_int (s := St s h tk) hq
theorem i_fdiv (hb : b ≠ 0) (hs : Builtin.divisionGoesByPylong a b = false) (hq : ∀ t' tk', Q (.int (a.fdiv b) t') (St s h tk')) : wpAny (model Pg w) A (binaryOp .FloorDiv (.int a t) (.int b u)) Q E (St s h tk) := floordiv_int (s := St s h tk) hb (hq _ _) (Or.inl hs)
theorem i_ifdiv (hb : b ≠ 0) (hs : Builtin.divisionGoesByPylong a b = false) (hq : ∀ t' tk', Q (.int (a.fdiv b) t') (St s h tk')) : wpAny (model Pg w) A (inplaceOp .FloorDiv (.int a t) (.int b u)) Q E (St s h tk) := ifloordiv_int (s := St s h tk) hb (hq _ _) (Or.inl hs)
theorem i_rshift (hb : 0 ≤ b) (hq : ∀ t' tk', Q (.int (a.fdiv (2 ^ b.toNat)) t') (St s h tk')) : wpAny (model Pg w) A (binaryOp .RShift (.int a t) (.int b u)) Q E (St s h tk) := rshift_int (s := St s h tk) hb (hq _ _)
theorem i_chr (ha : 0 ≤ a) (hb : a ≤ 0x10FFFF) (hq : ∀ t' tk', Q (.str (sg [a.toNat]) t') (St s h tk')) : wpAny (model Pg w) A (call (.builtin "chr") [.int a t]) Q E (St s h tk) :=
  P.chr_of_int (s := St s h tk) (by simp; omega) (hq _ _)
end

/-- the older signs -/
noncomputable def older : List (Int × Const) := match (dOf 17).body with
  | [_, _, _, .Assign _ (.Dict ks vs _) _, _] => (constPairs ks vs).getD []
  | _ => []
theorem older_len : older.length = 20 := by decide +kernel
theorem older_nodup : (older.map (·.1)).Nodup := by decide +kernel
noncomputable def olderAt (c : Int) : Int := match older.lookup c with
  | some (.int d) => d
  | _ => c
noncomputable def letterSign (letter turn : Nat) : Nat :=
  if turn % 15 < 2 then 97 + letter - 32 * (turn % 15) else (olderAt (119808 + letter + 52 * ((turn % 15 : Nat) - 2 : Int))).toNat
noncomputable def olderOk (c : Int) : Bool := match older.lookup c with
  | some (.int d) => decide (0 ≤ d) && decide (d ≤ 0x10FFFF)
  | some _ => false
  | none => true
/-- wanted signs in rising order, sought in one pass -/
noncomputable def merge : List (Nat × Nat) → List (Int × Const) → Bool
  | [], _ => true
  | _ :: _, [] => false
  | (c, l) :: ws, (k, v) :: r => if k = (c : Int) then (match v with | .str x => decide (x = sg [97 + l]) | _ => false) && merge ws r else decide (k < (c : Int)) && merge ((c, l) :: ws) r
noncomputable def rising : List (Nat × Nat) → Bool
  | [] => true
  | [_] => true
  | a :: b :: r => decide (a.1 < b.1) && rising (b :: r)
theorem rising_head : ∀ {a : Nat × Nat} {r : List (Nat × Nat)}, rising (a :: r) = true → ∀ b ∈ r, a.1 < b.1
  | _, [], _, _, hb => nomatch hb
  | a, c :: r, h, b, hb => by
    simp only [rising, Bool.and_eq_true, decide_eq_true_eq] at h
    rcases List.mem_cons.mp hb with e | hb
    · rw [e]; exact h.1
    · exact Nat.lt_trans h.1 (rising_head h.2 b hb)
theorem rising_tail {a : Nat × Nat} {r : List (Nat × Nat)} (h : rising (a :: r) = true) : rising r = true := by
  cases r with
  | nil => rfl
  | cons b r => simp only [rising, Bool.and_eq_true] at h; exact h.2
theorem merge_lookup : ∀ (tab : List (Int × Const)) (ws : List (Nat × Nat)), rising ws = true → merge ws tab = true → ∀ p ∈ ws, tab.lookup (p.1 : Int) = some (.str (sg [97 + p.2]))
  | _, [], _, _, _, hp => nomatch hp
  | [], _ :: _, _, h, _, _ => by cases h
  | (k, v) :: r, (c, l) :: ws, hr, h, p, hp => by
    unfold merge at h
    by_cases e : k = (c : Int)
    · rw [if_pos e] at h
      simp only [Bool.and_eq_true] at h
      rcases List.mem_cons.mp hp with q | hp
      · subst q
        subst e
        rw [List.lookup_cons]
        simp only [beq_self_eq_true]
        cases v with
        | str x => simp only [decide_eq_true_eq] at h; rw [h.1]
        | _ => cases h.1
      · have hlt := rising_head hr p hp
        have ih := merge_lookup r ws (rising_tail hr) h.2 p hp
        rw [List.lookup_cons]
        have hne : ((p.1 : Int) == k) = false := by rw [e]; simp only [beq_eq_false_iff_ne, ne_eq]; simp only at hlt; omega
        rw [hne]; exact ih
    · rw [if_neg e] at h
      simp only [Bool.and_eq_true, decide_eq_true_eq] at h
      have ih := merge_lookup r ((c, l) :: ws) hr h.2 p hp
      have hge : c ≤ p.1 := by
        rcases List.mem_cons.mp hp with q | hp
        · rw [q]; exact Nat.le_refl _
        · exact Nat.le_of_lt (rising_head hr p hp)
      rw [List.lookup_cons]
      have hne : ((p.1 : Int) == k) = false := by simp only [beq_eq_false_iff_ne, ne_eq]; omega
      rw [hne]; exact ih
noncomputable def mathSign (l f : Nat) : Nat := 119808 + l + 52 * f
noncomputable def wanted : List (Nat × Nat) := (List.range 13).flatMap fun f => (List.range 26).flatMap fun l => if (older.lookup (mathSign l f : Int)).isNone then [(mathSign l f, l)] else []
theorem wanted_ok : (rising wanted && merge wanted tab3) = true := by decide +kernel
theorem wanted_at {l f : Nat} (hl : l < 26) (hf : f < 13) (ho : older.lookup (mathSign l f : Int) = none) : tab3.lookup (mathSign l f : Int) = some (.str (sg [97 + l])) := by
  have h := wanted_ok
  rw [Bool.and_eq_true] at h
  refine merge_lookup tab3 wanted h.1 h.2 (mathSign l f, l) ?_
  refine List.mem_flatMap.mpr ⟨f, List.mem_range.mpr hf, List.mem_flatMap.mpr ⟨l, List.mem_range.mpr hl, ?_⟩⟩
  rw [ho]; simp
theorem tab3_high : (tab3.all fun x => decide (123 ≤ x.1)) = true := by decide +kernel
theorem tab3_low {c : Nat} (hc : c < 123) : tab3.lookup (c : Int) = none := by
  have h := tab3_high
  have key : ∀ tab : List (Int × Const), (tab.all fun x => decide (123 ≤ x.1)) = true → tab.lookup (c : Int) = none := by
    intro tab
    induction tab with
    | nil => intro _; rfl
    | cons x r ih =>
      intro hx
      simp only [List.all_cons, Bool.and_eq_true, decide_eq_true_eq] at hx
      rw [List.lookup_cons]
      have hne : ((c : Int) == x.1) = false := by simp only [beq_eq_false_iff_ne, ne_eq]; omega
      rw [hne]; exact ih hx.2
  exact key tab3 h
theorem b1_low {c : Nat} (hc : 65280 ≤ c) : isB1 c = false := by
  have h : (b1List.all fun x => decide (x < 65280)) = true := by decide +kernel
  unfold isB1
  rw [← Bool.not_eq_true, List.contains_iff_mem]
  intro hm
  have := List.all_eq_true.mp h _ hm
  simp only [decide_eq_true_eq] at this
  omega
/-- what is asked of one letter's sign -/
structure SignFor (c l : Nat) : Prop where
  notB1 : isB1 c = false
  good : goodSign c = true
  den : den c = [97 + l]
  fits : c ≤ 0x10FFFF
theorem SignFor.of_tab {c l : Nat} (hb : isB1 c = false) (h : tab3.lookup (c : Int) = some (.str (sg [97 + l]))) (hc : c ≤ 0x10FFFF) : SignFor c l := by
  have hd : Mine.den c = [97 + l] := by unfold Mine.den b3of; rw [hb, h]; simp [sg]
  refine ⟨hb, ?_, hd, hc⟩
  unfold goodSign
  rw [hd, hb]
  unfold b3ok
  rw [h]; rfl
theorem SignFor.of_low {c l : Nat} (hc : c < 123) (hb : isB1 c = false) (h : Txt.lower ⟨#[c]⟩ = sg [97 + l]) : SignFor c l := by
  have hd : Mine.den c = [97 + l] := by unfold Mine.den b3of; rw [hb, tab3_low hc, h]; simp [sg]
  refine ⟨hb, ?_, hd, by omega⟩
  unfold goodSign
  rw [hd, hb]
  unfold b3ok
  rw [tab3_low hc, h]
  simp [sg_length]
noncomputable def lowOk : Bool := (List.range 26).all fun l => [97 + l, 65 + l].all fun c => !isB1 c && decide (Txt.lower ⟨#[c]⟩ = sg [97 + l])
theorem low_ok : lowOk = true := by decide +kernel
noncomputable def oldOk : Bool := (List.range 13).all fun f => (List.range 26).all fun l => match older.lookup (mathSign l f : Int) with
  | none => true
  | some (.int d) => decide (0 ≤ d) && decide (d ≤ 0x10FFFF) && !isB1 d.toNat && (match tab3.lookup d with | some (.str x) => decide (x = sg [97 + l]) | _ => false)
  | some _ => false
theorem old_ok : oldOk = true := by decide +kernel
theorem letter_ok {l turn : Nat} (hl : l < 26) : SignFor (letterSign l turn) l ∧ olderOk (mathSign l (turn % 15 - 2) : Int) = true := by
  have hlow := low_ok
  unfold lowOk at hlow
  rw [List.all_eq_true] at hlow
  have h1 := hlow l (List.mem_range.mpr hl)
  simp only [List.all_cons, List.all_nil, Bool.and_true, Bool.and_eq_true, Bool.not_eq_true', decide_eq_true_eq] at h1
  have hold := old_ok
  unfold oldOk at hold
  rw [List.all_eq_true] at hold
  have h2 := hold (turn % 15 - 2) (List.mem_range.mpr (by omega))
  rw [List.all_eq_true] at h2
  have h2 := h2 l (List.mem_range.mpr hl)
  unfold letterSign
  constructor
  · by_cases hf : turn % 15 < 2
    · rw [if_pos hf]
      by_cases h0 : turn % 15 = 0
      · rw [h0]; exact SignFor.of_low (by omega) h1.1.1 h1.1.2
      · have h0 : turn % 15 = 1 := by omega
        rw [h0]
        rw [show 97 + l - 32 * 1 = 65 + l from by omega]
        exact SignFor.of_low (by omega) h1.2.1 h1.2.2
    · rw [if_neg hf]
      have e : (119808 + (l : Int) + 52 * (((turn % 15 : Nat) : Int) - 2)) = ((mathSign l (turn % 15 - 2) : Nat) : Int) := by unfold mathSign; omega
      rw [e]
      unfold olderAt
      cases ho : older.lookup ((mathSign l (turn % 15 - 2) : Nat) : Int) with
      | none =>
        rw [show ((mathSign l (turn % 15 - 2) : Nat) : Int).toNat = mathSign l (turn % 15 - 2) from by omega]
        refine SignFor.of_tab (b1_low ?_) (wanted_at hl (by omega) ho) ?_
        · unfold mathSign; omega
        · unfold mathSign; omega
      | some v =>
        rw [ho] at h2
        cases v with
        | int d =>
          simp only [Bool.and_eq_true, decide_eq_true_eq, Bool.not_eq_true'] at h2
          obtain ⟨⟨⟨a1, a2⟩, a3⟩, a4⟩ := h2
          refine SignFor.of_tab a3 ?_ (show d.toNat ≤ 0x10FFFF by omega)
          show tab3.lookup ((d.toNat : Nat) : Int) = _
          rw [show ((d.toNat : Nat) : Int) = d from by omega]
          cases ht : tab3.lookup d with
          | none => rw [ht] at a4; cases a4
          | some v =>
            rw [ht] at a4
            cases v with
            | str x => simp only [decide_eq_true_eq] at a4; rw [a4]
            | _ => cases a4
        | _ => cases h2
  · unfold olderOk
    cases ho : older.lookup ((mathSign l (turn % 15 - 2) : Nat) : Int) with
    | none => rfl
    | some v =>
      rw [ho] at h2
      cases v with
      | int d =>
        simp only [Bool.and_eq_true] at h2
        simp only [Bool.and_eq_true]
        exact h2.1.1
      | _ => cases h2
end Mine

namespace Mine

theorem mulOk_left {a b : Int} (h : decide (Builtin.Int.intBits a > shortFactorBits) = false) : IntMulOk a b := by unfold IntMulOk; rw [h]; simp
theorem mem17 : dOf 17 ∈ allDefs := by simp [allDefs, ds4]
theorem fmod_nat (a b : Nat) : Int.fmod (a : Int) (b : Int) = ((a % b : Nat) : Int) := by
  rw [Int.fmod_eq_emod_of_nonneg _ (by omega)]; omega
theorem fdiv_nat (a b : Nat) : Int.fdiv (a : Int) (b : Int) = ((a / b : Nat) : Int) := by
  rw [Int.fdiv_eq_ediv_of_nonneg _ (by omega)]; omega

theorem older_stmt : ∃ p1 ks vs p2 p3, (dOf 17).body[3]? = some (.Assign [.Name "older" p1] (.Dict ks vs p2) p3) ∧ constPairs ks vs = some older := ⟨_, _, _, _, _, by rfl, by decide +kernel⟩
noncomputable def oldSt : Stmt := match (dOf 17).body with
  | [_, _, _, st, _] => st
  | _ => .Pass default
theorem oldSt_is : (dOf 17).body[3]? = some oldSt := by rfl
theorem body17 : (dOf 17).body = (dOf 17).body.take 3 ++ oldSt :: (dOf 17).body.drop 4 := by rfl
theorem older_step {w : World} {A : Around} {E : Value → Shared → Prop} {s : Shared} {h h₀ : Heap} {tk : Nat} {m : Str → Option Value} {L a : Addr} {cd : Value} {st : Stmt} {Q : Flow → Shared → Prop}
    (hst : (dOf 17).body[3]? = some st) (F : Fr h₀ L h m) (hsys : sysModules < h.objs.size)
    (hq : ∀ d kvs h' tk', Fr h₀ L h' (fun y => if y = "older" then some (.ref d) else m y) → h'.MapOf (intKind Pg w) d (valueAt kvs) → (d == sysModules) = false → Vals older kvs → (∀ b o, b ≠ L → h.get? b = some o → h'.get? b = some o) → Q .next (St s h' tk')) :
    wpAny (model Pg w) A (exec st (fenv 17 L a cd)) Q E (St s h tk) := by
  obtain ⟨p1, ks, vs, p2, p3, e, hc⟩ := older_stmt
  rw [e] at hst
  injection hst with hst
  subst hst
  refine wpAny_Assign_Name ?_
  refine display_const (w := w) (s := St s h tk) hc older_nodup (by intro e; have := older_len; rw [e] at this; cases this) (by rw [older_len]; decide) hsys ?_
  intro h₄ kvs d tk₁₄ hd hdict hv k₄
  have k₄ : Kp h h₄ := k₄
  have hdL : d ≠ L := fun e => by
    have hlt := F.ns.lt
    exact Nat.lt_irrefl _ (Nat.lt_of_lt_of_le hlt (e ▸ hd))
  refine r_st (s := s) (tk := tk₁₄) (F.after k₄) News.nil ?_
  intro h₅ tk₁₅ F₅ _ k₅
  refine hq d kvs h₅ tk₁₅ F₅ ?_ ?_ hv fun b o hb e => k₅ b o hb (k₄ b o e)
  · obtain ⟨o, es, ep, ho, r⟩ := hdict.mapOf
    exact ⟨o, es, ep, k₅ _ _ hdL ho, r⟩
  · have : d ≠ sysModules := Nat.ne_of_gt (Nat.lt_of_lt_of_le hsys hd)
    simpa using this

set_option maxHeartbeats 600000 in
theorem letter_spec {w : World} {A : Around} {E : Value → Shared → Prop} {s : Shared} {B h : Heap} {tk : Nat} {mg mb : Str → Option Value} {k b1 b3 : Addr} {l turn : Nat} {t u : Tok} {Q : Value → Shared → Prop}
    (T : Tops w B mg mb k b1 b3) (kB : Kp B h) (R : Room A 5 20) (hl : l < 26) (hq : ∀ t' h' tk', Kp h h' → Q (.str (sg [letterSign l turn]) t') (St s h' tk')) :
    wpAny (model Pg w) A (call (.ref (fa mg 17)) [.int (l : Int) t, .int (turn : Int) u]) Q E (St s h tk) := by
  obtain ⟨hsg, hold⟩ := letter_ok (turn := turn) hl
  refine enter (i := 17) (d := 4) (u := 17) (binds := [("letter", .int (l : Int) t), ("turn", .int (turn : Int) u)]) ["letter", "turn"] T kB mem17 R (fun pm cd doc => by rfl) rfl (by decide +kernel) (Kp.refl h) (Nat.le_refl _) ?_
  intro A' L a cd h₁ tk₁ R' hL F keep
  have k₁ : Kp h h₁ := fun b o e => (keep b o e).1
  have kB₁ : Kp B h₁ := kB.trans k₁
  rw [body17]
  refine wpAny_execs_append ?_
  conv in List.take 3 (dOf 17).body => whnf
  refine wpAny_execs_cons ?_
  refine wpAny_Assign_Name ?_
  refine wpAny_BinOp ?_
  refine r_ld F (by rfl) ?_
  refine r_int ?_
  intro t₁ tk₂
  refine i_mod (by decide) ?_
  intro t₂ tk₃
  rw [show Int.fmod (turn : Int) 15 = ((turn % 15 : Nat) : Int) from fmod_nat turn 15]
  refine r_st F News.nil ?_
  intro h₂ tk₄ F₂ _ k₂
  have kk₂ : Kp h h₂ := fun b o e => k₂ b o (keep b o e).2 (keep b o e).1
  dsimp only
  refine wpAny_execs_cons ?_
  refine wpAny_If ?_
  refine wpAny_isTrue_Compare1 ?_
  refine r_ld F₂ (by rfl) ?_
  refine r_int ?_
  intro t₃ tk₅
  refine i_lt ?_
  refine wpAny_truthy_bool ?_
  by_cases hf : turn % 15 < 2
  · rw [if_pos (by simp; omega)]
    refine wpAny_execs_cons ?_
    refine wpAny_Return_some ?_
    refine Call_Name1 ?_
    refine r_bi T (kB.trans kk₂) boot_chr ?_
    refine PySem.callWith_builtin1 ?_
    refine wpAny_BinOp ?_
    refine wpAny_BinOp ?_
    refine r_int ?_
    intro t₄ tk₆
    refine r_ld F₂ (by rfl) ?_
    refine i_add ?_
    intro t₅ tk₇
    refine wpAny_BinOp ?_
    refine r_int ?_
    intro t₆ tk₈
    refine r_ld F₂ (by rfl) ?_
    refine i_mul (mulOk_left (by decide +kernel)) ?_
    intro t₇ tk₉
    refine i_sub ?_
    intro t₈ tk₁₀
    refine i_chr (by omega) (by omega) ?_
    intro t₉ tk₁₁
    have e : ((97 : Int) + (l : Int) - 32 * ((turn % 15 : Nat) : Int)).toNat = letterSign l turn := by unfold letterSign; rw [if_pos hf]; omega
    rw [e]
    exact hq _ _ _ kk₂
  · rw [if_neg (by simp; omega)]
    refine wpAny_execs_nil ?_
    refine wpAny_execs_cons ?_
    refine wpAny_Assign_Name ?_
    refine wpAny_BinOp ?_
    refine wpAny_BinOp ?_
    refine r_int ?_
    intro t₄ tk₆
    refine r_ld F₂ (by rfl) ?_
    refine i_add ?_
    intro t₅ tk₇
    refine wpAny_BinOp ?_
    refine r_int ?_
    intro t₆ tk₈
    refine wpAny_BinOp ?_
    refine r_ld F₂ (by rfl) ?_
    refine r_int ?_
    intro t₇ tk₉
    refine i_sub ?_
    intro t₈ tk₁₀
    refine i_mul (mulOk_left (by decide +kernel)) ?_
    intro t₉ tk₁₁
    refine i_add ?_
    intro t₁₀ tk₁₂
    have e : (119808 + (l : Int) + 52 * (((turn % 15 : Nat) : Int) - 2)) = ((mathSign l (turn % 15 - 2) : Nat) : Int) := by unfold mathSign; omega
    rw [e]
    refine r_st F₂ News.nil ?_
    intro h₃ tk₁₃ F₃ _ k₃
    have kk₃ : Kp h h₃ := fun b o e => k₃ b o (keep b o e).2 (kk₂ b o e)
    have kL₃ : Kp h₁ h₃ ∨ True := Or.inr trivial
    refine wpAny_execs_nil ?_
    refine wpAny_execs_cons ?_
    have hsys : sysModules < h₃.objs.size := Nat.lt_trans (show sysModules < mainGlobals by decide) (T.g.keeps (kB.trans kk₃)).lt
    refine @older_step w A' _ s h₃ h tk₁₃ _ L a cd oldSt _ oldSt_is F₃ hsys ?_
    intro d kvs h₅ tk₁₅ F₅ hm₅ hdn hv k₅
    have kk₅ : Kp h h₅ := fun b o e => k₅ b o (keep b o e).2 (kk₃ b o e)
    conv in List.drop 4 (dOf 17).body => whnf
    refine wpAny_execs_cons ?_
    refine wpAny_Return_some ?_
    refine Call_Name1 ?_
    refine r_bi T (kB.trans kk₅) boot_chr ?_
    refine PySem.callWith_builtin1 ?_
    refine wpAny_Call_method2_late (by rfl) (by rfl) (by rfl) ?_
    refine r_ld F₅ (by rfl) ?_
    refine ⟨"dict", "dict.get", PySem.F.plainAttrs_dict, PySem.F.slot_dict_get, PySem.F.type_dict_get, hm₅.typeIs (s := St s h₅ tk₁₅), hm₅.noDict, ?_⟩
    refine wpAny_dict_get2 (knd := intKind Pg w) hdn ?_
    refine r_ld F₅ (by rfl) ?_
    refine r_ld F₅ (by rfl) ?_
    refine ⟨((mathSign l (turn % 15 - 2) : Nat) : Int), valueAt kvs, by simp [intKind, Value.isInt], hm₅, ?_⟩
    show wpAny _ _ _ _ _ (St s h₅ (tk₁₅ + 1))
    obtain ⟨hn, hs⟩ := hv.at ((mathSign l (turn % 15 - 2) : Nat) : Int)
    unfold olderOk at hold
    have e2 : letterSign l turn = (olderAt ((mathSign l (turn % 15 - 2) : Nat) : Int)).toNat := by
      unfold letterSign; rw [if_neg hf, e]
    rw [e2] at hq
    unfold olderAt at hq
    cases hlk : older.lookup ((mathSign l (turn % 15 - 2) : Nat) : Int) with
    | none =>
      rw [hlk] at hq
      rw [hn hlk]
      refine i_chr (by omega) (by unfold mathSign; omega) ?_
      intro t₁₁ tk₁₆
      exact hq _ _ _ kk₅
    | some cst =>
      rw [hlk] at hq hold
      obtain ⟨v, hv1, hv2⟩ := hs cst hlk
      rw [hv1]
      cases cst with
      | int dd =>
        obtain ⟨tx, rfl⟩ := hv2
        simp only [Bool.and_eq_true, decide_eq_true_eq] at hold
        refine i_chr hold.1 hold.2 ?_
        intro t₁₁ tk₁₆
        exact hq _ _ _ kk₅
      | _ => cases hold
end Mine

namespace Mine

section
variable {w : World} {A : Around} {E : Value → Shared → Prop} {s : Shared} {h : Heap} {tk : Nat} {t u : Tok} {Q : Value → Shared → Prop}
theorem made_str {a b : List Nat} {tk : Nat} (hl : a.length + b.length ≤ sizeLine) (hq : ∀ t' tk', Q (.str (sg (a ++ b)) t') (St s h tk')) :
    (if (sg a).length == 0 then Made.val (.str (sg b) u) else if (sg b).length == 0 then Made.val (.str (sg a) t) else Made.str (sg a ++ sg b)).post Q (St s h tk) := by
  rw [sg_length, sg_length, sg_append]
  cases a with
  | nil => exact hq _ _
  | cons x r =>
    rw [if_neg (by simp)]
    cases b with
    | nil => rw [if_pos (by simp)]; have hx := hq t tk; rw [List.append_nil] at hx; exact hx
    | cons y z =>
      rw [if_neg (by simp)]
      exact ⟨by rw [sg_length, List.length_append]; exact hl, hq _ _⟩
theorem s_add {a b : List Nat} (hl : a.length + b.length ≤ sizeLine) (hq : ∀ t' tk', Q (.str (sg (a ++ b)) t') (St s h tk')) : wpAny (model Pg w) A (binaryOp .Add (.str (sg a) t) (.str (sg b) u)) Q E (St s h tk) :=
  P.add_str (s := St s h tk) (made_str hl hq)
theorem s_iadd {a b : List Nat} (hl : a.length + b.length ≤ sizeLine) (hq : ∀ t' tk', Q (.str (sg (a ++ b)) t') (St s h tk')) : wpAny (model Pg w) A (inplaceOp .Add (.str (sg a) t) (.str (sg b) u)) Q E (St s h tk) :=
  P.iadd_str (s := St s h tk) (made_str hl hq)
theorem s_len {a : List Nat} (hl : a.length ≤ sizeLine) (hq : ∀ t' tk', Q (.int a.length t') (St s h tk')) : wpAny (model Pg w) A (call (.builtin "len") [.str (sg a) t]) Q E (St s h tk) := by
  refine P.len_str (s := St s h tk) ?_ ?_
  · rw [sg_length]; unfold sizeLine at hl; omega
  · rw [sg_length]; exact hq _ _
theorem s_item {a : List Nat} {i c : Nat} (hl : a.length ≤ sizeLine) (hc : a[i]? = some c) (hq : ∀ t' tk', Q (.str (sg [c]) t') (St s h tk')) : wpAny (model Pg w) A (getItem (.str (sg a) t) (.int (i : Int) u)) Q E (St s h tk) := by
  have hi : i < a.length := (List.getElem?_eq_some_iff.mp hc).1
  refine P.getItem_str (s := St s h tk) (c := c) ?_ ?_ (hq _ _)
  · unfold sizeLine at hl; simp; omega
  · rw [sg_length]
    have : seqIndex? (i : Int) a.length = some i := by unfold seqIndex?; simp; omega
    rw [this]
    simpa [sg] using hc
end

noncomputable def b1Text : List Nat := [173, 847, 6150, 6155, 6156, 6157, 8203, 8204, 8205, 8288, 65279]
noncomputable def b1Sign (p : Nat) : Nat := if p < 11 then b1Text.getD p 0 else 65013 + p
theorem b1Sign_ok {p : Nat} (hp : p < 27) : isB1 (b1Sign p) = true := by
  have h : ((List.range 27).all fun p => isB1 (b1Sign p)) = true := by decide +kernel
  exact List.all_eq_true.mp h p (List.mem_range.mpr hp)

structure WordOk (sp pl : List Nat) : Prop where
  good : ∀ c ∈ sp, goodSign c = true
  short : ∀ c ∈ sp, (den c).length ≤ 1
  prep : Mine.prep sp = pl
  plain : ∀ c ∈ pl, 97 ≤ c ∧ c ≤ 122
theorem WordOk.nil : WordOk [] [] := ⟨by simp, by simp, rfl, by simp⟩
theorem WordOk.letter {sp pl : List Nat} (W : WordOk sp pl) {c l : Nat} (S : SignFor c l) (hl : l < 26) : WordOk (sp ++ [c]) (pl ++ [97 + l]) where
  good := fun d hd => by
    rcases List.mem_append.mp hd with hd | hd
    · exact W.good d hd
    · simp at hd; exact hd ▸ S.good
  short := fun d hd => by
    rcases List.mem_append.mp hd with hd | hd
    · exact W.short d hd
    · simp at hd; subst hd; rw [S.den]; simp
  prep := by
    unfold Mine.prep
    rw [List.flatMap_append]
    have := W.prep
    unfold Mine.prep at this
    rw [this]
    simp [S.den]
  plain := fun d hd => by
    rcases List.mem_append.mp hd with hd | hd
    · exact W.plain d hd
    · simp at hd; omega
theorem WordOk.b1 {sp pl : List Nat} (W : WordOk sp pl) {c : Nat} (hb : isB1 c = true) : WordOk (sp ++ [c]) pl where
  good := fun d hd => by
    rcases List.mem_append.mp hd with hd | hd
    · exact W.good d hd
    · simp at hd; subst hd; unfold goodSign; rw [hb]; rfl
  short := fun d hd => by
    rcases List.mem_append.mp hd with hd | hd
    · exact W.short d hd
    · simp at hd; subst hd; unfold den; rw [hb]; simp
  prep := by
    unfold Mine.prep
    rw [List.flatMap_append]
    have := W.prep
    unfold Mine.prep at this
    rw [this]
    simp [den, hb]
  plain := W.plain

theorem ne_up {m : Str → Option Value} {x y : Str} {u v : Option Value} (h : m x = v) (hne : x ≠ y := by decide) : (fun z => if z = y then u else m z) x = v := by
  show (if x = y then u else m x) = v
  rw [if_neg hne]; exact h
theorem eq_up {m : Str → Option Value} {y : Str} {u : Option Value} : (fun z => if z = y then u else m z) y = u := by
  show (if y = y then u else m y) = u
  rw [if_pos rfl]
theorem at2 {m : Str → Option Value} {y₁ y₂ : Str} {u₁ u₂ : Option Value} (hne : y₂ ≠ y₁ := by decide) : (fun z => if z = y₁ then u₁ else if z = y₂ then u₂ else m z) y₂ = u₂ := by
  show (if y₂ = y₁ then u₁ else if y₂ = y₂ then u₂ else m y₂) = u₂
  rw [if_neg hne, if_pos rfl]
theorem up2 {m : Str → Option Value} {x y₁ y₂ : Str} {u₁ u₂ v : Option Value} (h : m x = v) (n₁ : x ≠ y₁ := by decide) (n₂ : x ≠ y₂ := by decide) : (fun z => if z = y₁ then u₁ else if z = y₂ then u₂ else m z) x = v := by
  show (if x = y₁ then u₁ else if x = y₂ then u₂ else m x) = v
  rw [if_neg n₁, if_neg n₂]; exact h
theorem up3 {m : Str → Option Value} {x y₁ y₂ y₃ : Str} {u₁ u₂ u₃ v : Option Value} (h : m x = v) (n₁ : x ≠ y₁ := by decide) (n₂ : x ≠ y₂ := by decide) (n₃ : x ≠ y₃ := by decide) :
    (fun z => if z = y₁ then u₁ else if z = y₂ then u₂ else if z = y₃ then u₃ else m z) x = v := by
  show (if x = y₁ then u₁ else if x = y₂ then u₂ else if x = y₃ then u₃ else m x) = v
  rw [if_neg n₁, if_neg n₂, if_neg n₃]; exact h
theorem up4 {m : Str → Option Value} {x y₁ y₂ y₃ y₄ : Str} {u₁ u₂ u₃ u₄ v : Option Value} (h : m x = v) (n₁ : x ≠ y₁ := by decide) (n₂ : x ≠ y₂ := by decide) (n₃ : x ≠ y₃ := by decide) (n₄ : x ≠ y₄ := by decide) :
    (fun z => if z = y₁ then u₁ else if z = y₂ then u₂ else if z = y₃ then u₃ else if z = y₄ then u₄ else m z) x = v := by
  show (if x = y₁ then u₁ else if x = y₂ then u₂ else if x = y₃ then u₃ else if x = y₄ then u₄ else m x) = v
  rw [if_neg n₁, if_neg n₂, if_neg n₃, if_neg n₄]; exact h
theorem sub_tail {w : World} {A : Around} {E : Value → Shared → Prop} {s : Shared} {value slice : Expr} {o i : Value} {T id : String} {Q : Value → Shared → Prop} (hT : s.TypeIs o T)
    (hl : typeLookup (.type T) "__getitem__" = pure (some (.builtin id))) (h : wpAny (model Pg w) A (getItem o i) Q E s)
    (hs : subscripted slice false o i = operate [o, i] (getItem o i) := by with_unfolding_all rfl) :
    wpAny (model Pg w) A (subscriptTail value slice o i) Q E s := by
  unfold subscriptTail
  refine wpAny_bind ?_
  rw [getitemInPython_of_ne hT.not_modules]
  refine wpAny_bind (wpAny_specialOf hT hl ?_)
  have fin : wpAny (model Pg w) A (subscripted slice false o i) (fun r s₃ => wpAny (model Pg w) A (letTemporaryGo value o r >>= fun _ => pure r) Q E s₃) E s := by
    rw [hs]
    exact wpAny_operating (wpAny_mono h (fun r s₃ h₃ => wpAny_bind (wpAny_letTemporaryGo (wpAny_pure h₃))) fun _ _ x => x)
  first
    | exact wpAny_pure (wpAny_bind fin)
    | exact wpAny_bind (wpAny_pure (wpAny_bind fin))
    | exact wpAny_bind fin
theorem noAt (h : Heap) : h.get? h.objs.size = none := by
  cases e : h.get? h.objs.size with
  | none => rfl
  | some o => exact absurd (Heap.lt_size e) (Nat.lt_irrefl _)
section
variable {w : World} {A : Around} {E : Value → Shared → Prop} {s : Shared} {h : Heap} {tk : Nat} {env : Env}
theorem c_tup {items : List Value} {Q : Value → Shared → Prop} (hsz : items.length ≤ 1000) (hq : ∀ r h', Kp h h' → h.get? r = none → h'.IsTuple r items.toArray → (∀ b o, h.get? b = some o → b ≠ r) → Q (.ref r) (St s h' tk)) :
    wpAny (model Pg w) A (newTuple items) Q E (St s h tk) :=
  wpAny_newTuple (s := St s h tk) (hq _ _ (Kp.push h _) (noAt h) ⟨_, Heap.get?_push_size _ rfl, rfl, _, rfl⟩ (fun b o e => Nat.ne_of_lt (Heap.lt_size e))) (by unfold sizeLine; omega)
theorem a_pair {x y : Str} {px py : Pos} {k : Nat} {pos : Pos} {r : Addr} {v₁ v₂ : Value} {Q : Unit → Shared → Prop} (hh : A.handled = none) (ht : h.IsTuple r #[v₁, v₂])
    (hq : ∀ h', Kp h h' → wpAny (model Pg w) A (storeName env x v₁) (fun _ s₁ => wpAny (model Pg w) A (storeName env y v₂) Q E s₁) E (St s h' tk)) :
    wpAny (model Pg w) A (assign (.Tuple [.Name x px, .Name y py] k pos) env (.ref r)) Q E (St s h tk) := by
  refine wpAny_assign_Tuple (s := St s h tk) hh ht (by rfl) (by rfl) ?_
  intro h' he
  have k' : Kp h h' := fun b o e => he b o (Nat.ne_of_lt (Heap.lt_size e)) e
  show wpAny _ _ (assignInOrder [assign (.Name x px) env, assign (.Name y py) env] [v₁, v₂]) _ _ _
  refine assignInOrder_cons ?_
  refine assign_Name ?_
  refine wpAny_mono (hq h' k') ?_ (fun _ _ e => e)
  intro _ s₁ hs₁
  refine assignInOrder_cons ?_
  refine assign_Name ?_
  exact wpAny_mono hs₁ (fun _ _ e => assignInOrder_nil e) (fun _ _ e => e)
end
theorem mem18 : dOf 18 ∈ allDefs := by simp [allDefs, ds4]

/-- the names of _law_word -/
structure WordM (number low rest : Nat) (sp pl : List Nat) (m : Str → Option Value) : Prop where
  number : ∃ t, m "number" = some (.int (number : Int) t)
  low : ∃ t, m "low" = some (.int (low : Int) t)
  rest : ∃ t, m "rest" = some (.int (rest : Int) t)
  sp : ∃ t, m "spelled" = some (.str (sg sp) t)
  pl : ∃ t, m "plain" = some (.str (sg pl) t)

set_option maxHeartbeats 1000000 in
theorem word_spec {w : World} {A : Around} {E : Value → Shared → Prop} {s : Shared} {B h : Heap} {tk : Nat} {mg mb : Str → Option Value} {k b1 b3 : Addr} {number low : Nat} {t u : Tok} {Q : Value → Shared → Prop}
    (T : Tops w B mg mb k b1 b3) (kB : Kp B h) (R : Room A 6 23) (hl : low < 24)
    (hq : ∀ r h' tk' sp pl t₁ t₂, Kp h h' → h.get? r = none → h'.IsTuple r #[.str (sg sp) t₁, .str (sg pl) t₂] → WordOk sp pl → sp.length ≤ 5 → Q (.ref r) (St s h' tk')) :
    wpAny (model Pg w) A (call (.ref (fa mg 18)) [.int (number : Int) t, .int (low : Int) u]) Q E (St s h tk) := by
  refine enter (i := 18) (d := 5) (u := 20) (binds := [("number", .int (number : Int) t), ("low", .int (low : Int) u)]) ["number", "low"] T kB mem18 R (fun pm cd doc => by rfl) rfl (by decide +kernel) (Kp.refl h) (Nat.le_refl _) ?_
  intro A' L a cd h₁ tk₁ R' hL F keep
  have k₁ : Kp h h₁ := fun b o e => (keep b o e).1
  have kB₁ : Kp B h₁ := kB.trans k₁
  conv in (dOf 18).body => whnf
  refine wpAny_execs_cons ?_
  refine Assign_Tuple ?_
  refine Tuple_ ?_
  refine args_cons ?_
  refine r_str ?_
  intro t₁ tk₂
  refine args_cons ?_
  refine r_str ?_
  intro t₂ tk₃
  refine args_nil ?_
  refine c_tup (by simp) ?_
  intro r₀ h₂ k₂ _ hr _
  have F₂ := F.after k₂
  refine a_pair R'.handled hr ?_
  intro h₃ k₃
  have F₃ := F₂.after k₃
  refine r_st F₃ News.nil ?_
  intro h₄ tk₄ F₄ _ k₄
  refine r_st F₄ News.nil ?_
  intro h₅ tk₅ F₅ _ k₅
  have kk₅ : Kp h h₅ := fun b o e => k₅ b o (keep b o e).2 (k₄ b o (keep b o e).2 (k₃ b o (k₂ b o (keep b o e).1)))
  dsimp only
  refine wpAny_execs_cons ?_
  refine wpAny_Assign_Name ?_
  refine wpAny_BinOp ?_
  refine r_ld F₅ (by rfl) ?_
  refine r_int ?_
  intro t₃ tk₆
  refine i_mod (by decide) ?_
  intro t₄ tk₇
  rw [show Int.fmod (number : Int) 1024 = ((number % 1024 : Nat) : Int) from fmod_nat number 1024]
  refine r_st F₅ News.nil ?_
  intro h₆ tk₈ F₆ _ k₆
  have kk₆ : Kp h h₆ := fun b o e => k₆ b o (keep b o e).2 (kk₅ b o e)
  dsimp only
  refine wpAny_execs_cons ?_
  refine wpAny_While ?_
  have e0 : ("" : Str) = sg [] := by decide +kernel
  obtain ⟨P2, hP2⟩ : ∃ P : Nat → Shared → Prop, ∀ n s', P n s' ↔ (∃ h' tk' rest sp pl m', s' = St s h' tk' ∧ Fr h L h' m' ∧ WordM number low rest sp pl m' ∧ rest < 4 ^ n ∧ sp.length + n = 5 ∧ WordOk sp pl) := ⟨_, fun _ _ => Iff.rfl⟩
  refine codeAny_whileLoop P2 ?_ 5
    ((hP2 _ _).mpr ⟨h₆, tk₈, number % 1024, [], [], _, rfl, F₆, ⟨⟨t, by rfl⟩, ⟨u, by rfl⟩, ⟨t₄, by rfl⟩, ⟨t₁, by rfl⟩, ⟨t₂, by rfl⟩⟩, by omega, rfl, WordOk.nil⟩)
  intro n s' hI
  obtain ⟨h', tk', rest, sp, pl, m', rfl, F', M', hrest, hn, W⟩ := (hP2 _ _).mp hI
  clear hI
  obtain ⟨⟨tn, hnum⟩, ⟨tlo, hlow⟩, ⟨tr, hres⟩, ⟨ts, hsp⟩, ⟨tp, hpl⟩⟩ := M'
  have kB' : Kp B h' := kB.trans F'.keep
  refine wpAny_isTrue_value ?_
  refine r_ld F' hres ?_
  refine P.truthy_int (s := St s h' tk') ?_
  by_cases h0 : rest = 0
  · subst h0
    rw [if_neg (by simp)]
    refine wpAny_execs_nil ?_
    dsimp only
    refine wpAny_execs_cons ?_
    refine wpAny_Return_some ?_
    refine Tuple_ ?_
    refine args_cons ?_
    refine r_ld F' hsp ?_
    refine args_cons ?_
    refine r_ld F' hpl ?_
    refine args_nil ?_
    refine c_tup (by simp) ?_
    intro r h₇ k₇ hr hT _
    refine hq r h₇ tk' sp pl ts tp (Kp.trans F'.keep k₇) ?_ hT W (by omega)
    cases e : h.get? r with
    | none => rfl
    | some o => rw [F'.keep r o e] at hr; cases hr
  · rw [if_pos (by simp [h0])]
    have hn1 : 1 ≤ n := by
      rcases Nat.eq_zero_or_pos n with e | e
      · subst e; simp at hrest; omega
      · exact e
    refine wpAny_execs_cons ?_
    refine wpAny_Assign_Name ?_
    refine wpAny_BinOp ?_
    refine r_ld F' hnum ?_
    refine wpAny_BinOp ?_
    refine r_int ?_
    intro t₅ tk₉
    refine Call_Name1 ?_
    refine r_bi T kB' boot_len' ?_
    refine PySem.callWith_builtin1 ?_
    refine r_ld F' hsp ?_
    refine s_len (by unfold sizeLine; omega) ?_
    intro t₆ tk₁₀
    refine i_mul (mulOk_left (by decide +kernel)) ?_
    intro t₇ tk₁₁
    refine i_add ?_
    intro t₈ tk₁₂
    rw [show ((number : Int) + 4 * (sp.length : Int)) = ((number + 4 * sp.length : Nat) : Int) from by omega]
    generalize hturn : number + 4 * sp.length = turn
    refine r_st F' News.nil ?_
    intro h₇ tk₁₃ F₇ _ _
    have kB₇ : Kp B h₇ := kB.trans F₇.keep
    dsimp only
    have hr4 : rest / 4 < 4 ^ (n - 1) := by
      have e : 4 ^ n = 4 * 4 ^ (n - 1) := by rw [← Nat.pow_succ']; congr 1; omega
      omega
    refine wpAny_execs_cons ?_
    obtain ⟨P3, hP3⟩ : ∃ P : Flow → Shared → Prop, ∀ f s', P f s' ↔ (f = .next ∧ ∃ h' tk' sp' pl' m', s' = St s h' tk' ∧ Fr h L h' m' ∧ WordM number low rest sp' pl' m' ∧ sp'.length = sp.length + 1 ∧ WordOk sp' pl') := ⟨_, fun _ _ => Iff.rfl⟩
    refine wpAny_mono (Q := P3) ?_ ?_ (fun _ _ e => e)
    · refine wpAny_If ?_
      refine wpAny_isTrue_value ?_
      refine wpAny_BinOp ?_
      refine r_ld F₇ (ne_up hres) ?_
      refine r_int ?_
      intro t₉ tk₁₄
      refine i_mod (by decide) ?_
      intro t₁₀ tk₁₅
      rw [show Int.fmod (rest : Int) 4 = ((rest % 4 : Nat) : Int) from fmod_nat rest 4]
      refine P.truthy_int (s := St s h₇ tk₁₅) ?_
      by_cases hm : rest % 4 = 0
      · rw [hm]
        rw [if_neg (by simp)]
        refine wpAny_execs_cons ?_
        refine wpAny_Assign_Name ?_
        refine wpAny_BinOp ?_
        refine r_ld F₇ eq_up ?_
        refine r_int ?_
        intro t₁₁ tk₁₆
        refine i_mod (by decide) ?_
        intro t₁₂ tk₁₇
        rw [show Int.fmod (turn : Int) 27 = ((turn % 27 : Nat) : Int) from fmod_nat turn 27]
        refine r_st F₇ News.nil ?_
        intro h₈ tk₁₈ F₈ _ _
        have kB₈ : Kp B h₈ := kB.trans F₈.keep
        dsimp only
        refine wpAny_execs_cons ?_
        refine wpAny_AugAssign_Name ?_
        refine wpAny_loadName_local (s := St s h₈ tk₁₈) (by rfl) (by rfl) F₈.ns (up2 hsp) ?_
        have hp27 : turn % 27 < 27 := Nat.mod_lt _ (by decide)
        refine wpAny_mono (Q := fun v s' => ∃ t' tk', v = .str (sg [b1Sign (turn % 27)]) t' ∧ s' = St s h₈ tk') ?_ ?_ (fun _ _ e => e)
        · refine wpAny_IfExp ?_
          refine wpAny_isTrue_Compare1 ?_
          refine r_ld F₈ eq_up ?_
          refine r_int ?_
          intro t₁₃ tk₁₉
          refine i_lt ?_
          refine wpAny_truthy_bool ?_
          by_cases hlt : turn % 27 < 11
          · rw [if_pos (by simp; omega)]
            refine Subscript_ ?_
            refine r_str ?_
            intro t₁₄ tk₂₀
            refine r_ld F₈ eq_up ?_
            refine sub_tail (typeIs_str _ _ _) PySem.F.slot_str_getitem.lookup ?_
            have e : (Str.ofString "\u00ad\u034f\u1806\u180b\u180c\u180d\u200b\u200c\u200d\u2060\ufeff") = sg b1Text := by decide +kernel
            refine s_item (a := b1Text) (c := b1Sign (turn % 27)) (by decide) ?_ ?_
            · unfold b1Sign
              rw [if_pos hlt, List.getD_eq_getElem?_getD]
              have : turn % 27 < b1Text.length := hlt
              rw [List.getElem?_eq_getElem this]; rfl
            · intro t₁₅ tk₂₁
              exact ⟨_, _, rfl, rfl⟩
          · rw [if_neg (by simp; omega)]
            refine Call_Name1 ?_
            refine r_bi T kB₈ boot_chr ?_
            refine PySem.callWith_builtin1 ?_
            refine wpAny_BinOp ?_
            refine r_int ?_
            intro t₁₄ tk₂₀
            refine r_ld F₈ eq_up ?_
            refine i_add ?_
            intro t₁₅ tk₂₁
            refine i_chr (by omega) (by omega) ?_
            intro t₁₆ tk₂₂
            refine ⟨t₁₆, tk₂₂, ?_, rfl⟩
            unfold b1Sign
            rw [if_neg hlt, show ((65013 : Int) + ((turn % 27 : Nat) : Int)).toNat = 65013 + turn % 27 from by omega]
        · rintro v s' ⟨t', tk', rfl, rfl⟩
          refine s_iadd (by unfold sizeLine; simp; omega) ?_
          intro t₁₄ tk₂₀
          refine r_st F₈ News.nil ?_
          intro h₉ tk₂₁ F₉ _ _
          dsimp only
          refine wpAny_execs_nil ?_
          exact (hP3 _ _).mpr ⟨rfl, h₉, tk₂₁, _, pl, _, rfl, F₉, ⟨⟨tn, up3 hnum⟩, ⟨tlo, up3 hlow⟩, ⟨tr, up3 hres⟩, ⟨t₁₄, eq_up⟩, ⟨tp, up3 hpl⟩⟩, by simp, W.b1 (b1Sign_ok hp27)⟩
      · rw [if_pos (by simp; omega)]
        refine wpAny_execs_cons ?_
        refine wpAny_Assign_Name ?_
        refine wpAny_BinOp ?_
        refine wpAny_BinOp ?_
        refine r_ld F₇ (ne_up hlow) ?_
        refine wpAny_BinOp ?_
        refine r_ld F₇ (ne_up hres) ?_
        refine r_int ?_
        intro t₁₁ tk₁₆
        refine i_mod (by decide) ?_
        intro t₁₂ tk₁₇
        rw [show Int.fmod (rest : Int) 4 = ((rest % 4 : Nat) : Int) from fmod_nat rest 4]
        refine i_add ?_
        intro t₁₃ tk₁₈
        refine r_int ?_
        intro t₁₄ tk₁₉
        refine i_sub ?_
        intro t₁₅ tk₂₀
        rw [show ((low : Int) + ((rest % 4 : Nat) : Int) - 1) = ((low + rest % 4 - 1 : Nat) : Int) from by omega]
        have hlt : low + rest % 4 - 1 < 26 := by omega
        generalize low + rest % 4 - 1 = letter at hlt
        refine r_st F₇ News.nil ?_
        intro h₈ tk₂₁ F₈ _ _
        have kB₈ : Kp B h₈ := kB.trans F₈.keep
        dsimp only
        refine wpAny_execs_cons ?_
        refine wpAny_AugAssign_Name ?_
        refine wpAny_loadName_local (s := St s h₈ tk₂₁) (by rfl) (by rfl) F₈.ns (up2 hsp) ?_
        refine Call_Name2 ?_
        refine r_fn T kB₈ mem17 (by rfl) ?_
        refine c_fn2 T mem17 ?_
        refine r_ld F₈ eq_up ?_
        refine r_ld F₈ (at2) ?_
        refine ⟨⟨_, _, rfl, kB₈⟩, ?_⟩
        refine letter_spec T kB₈ R' hlt ?_
        intro t₁₆ h₉ tk₂₂ k₉
        have F₉ := F₈.after k₉
        refine s_iadd (by unfold sizeLine; simp; omega) ?_
        intro t₁₇ tk₂₃
        refine r_st F₉ News.nil ?_
        intro h₁₀ tk₂₄ F₁₀ _ _
        have kB₁₀ : Kp B h₁₀ := kB.trans F₁₀.keep
        dsimp only
        refine wpAny_execs_cons ?_
        refine wpAny_AugAssign_Name ?_
        refine wpAny_loadName_local (s := St s h₁₀ tk₂₄) (by rfl) (by rfl) F₁₀.ns (up3 hpl) ?_
        refine Call_Name1 ?_
        refine r_bi T kB₁₀ boot_chr ?_
        refine PySem.callWith_builtin1 ?_
        refine wpAny_BinOp ?_
        refine r_int ?_
        intro t₁₈ tk₂₅
        refine r_ld F₁₀ (at2) ?_
        refine i_add ?_
        intro t₁₉ tk₂₆
        refine i_chr (by omega) (by omega) ?_
        intro t₂₀ tk₂₇
        rw [show ((97 : Int) + (letter : Int)).toNat = 97 + letter from by omega]
        have hpl5 : pl.length ≤ 5 := by
          have := W.prep
          rw [← this]
          have : ∀ l : List Nat, (∀ c ∈ l, (den c).length ≤ 1) → (prep l).length ≤ l.length := by
            intro l
            induction l with
            | nil => intro _; exact Nat.le_refl _
            | cons c r ih =>
              intro hc
              have h1 := hc c List.mem_cons_self
              have h2 := ih fun d hd => hc d (List.mem_cons_of_mem _ hd)
              simp only [prep, List.flatMap_cons, List.length_append, List.length_cons] at h2 ⊢
              omega
          have := this sp W.short
          omega
        refine s_iadd (by unfold sizeLine; simp; omega) ?_
        intro t₂₁ tk₂₈
        refine r_st F₁₀ News.nil ?_
        intro h₁₁ tk₂₉ F₁₁ _ _
        dsimp only
        refine wpAny_execs_nil ?_
        exact (hP3 _ _).mpr ⟨rfl, h₁₁, tk₂₉, _, _, _, rfl, F₁₁, ⟨⟨tn, up4 hnum⟩, ⟨tlo, up4 hlow⟩, ⟨tr, up4 hres⟩, ⟨t₁₇, at2⟩, ⟨t₂₁, eq_up⟩⟩, by simp, W.letter (letter_ok hlt).1 hlt⟩
    · intro f s' hf3
      obtain ⟨rfl, h₈, tk₁₄, sp', pl', m'', rfl, F₈, ⟨⟨tn', hnum'⟩, ⟨tlo', hlow'⟩, ⟨tr', hres'⟩, ⟨ts', hsp'⟩, ⟨tp', hpl'⟩⟩, hlen, W'⟩ := (hP3 _ _).mp hf3
      clear hf3
      dsimp only
      refine wpAny_execs_cons ?_
      refine wpAny_AugAssign_Name ?_
      refine wpAny_loadName_local (s := St s h₈ tk₁₄) (by rfl) (by rfl) F₈.ns hres' ?_
      refine r_int ?_
      intro t₉ tk₁₅
      refine i_ifdiv (by decide) (PyProof.noPylong_small (by omega)) ?_
      intro t₁₀ tk₁₆
      rw [show Int.fdiv (rest : Int) 4 = ((rest / 4 : Nat) : Int) from fdiv_nat rest 4]
      refine r_st F₈ News.nil ?_
      intro h₉ tk₁₇ F₉ _ _
      dsimp only
      refine wpAny_execs_nil ?_
      exact ⟨n - 1, by omega, (hP2 _ _).mpr ⟨h₉, tk₁₇, rest / 4, sp', pl', _, rfl, F₉, ⟨⟨tn', ne_up hnum'⟩, ⟨tlo', ne_up hlow'⟩, ⟨t₁₀, eq_up⟩, ⟨ts', ne_up hsp'⟩, ⟨tp', ne_up hpl'⟩⟩, hr4, by omega, W'⟩⟩
end Mine

namespace Mine

structure Ent where
  key : List Nat
  place : Nat
  word : List Nat
noncomputable def Ent.lt (a b : Ent) : Bool := if a.key = b.key then decide (a.place < b.place) else decide (a.key < b.key)
noncomputable def Ent.vals (e : Ent) (t₁ t₂ t₃ : Tok) : List Value := [.str (sg e.key) t₁, .int (e.place : Int) t₂, .str (sg e.word) t₃]
noncomputable def IsEnt (h : Heap) (r : Addr) (e : Ent) : Prop := ∃ t₁ t₂ t₃, h.IsTuple r (e.vals t₁ t₂ t₃).toArray
theorem IsEnt.at {h h' : Heap} {r : Addr} {e : Ent} (x : IsEnt h r e) (k : ∀ o, h.get? r = some o → h'.get? r = some o) : IsEnt h' r e :=
  let ⟨t₁, t₂, t₃, o, ho, z⟩ := x; ⟨t₁, t₂, t₃, o, k o ho, z⟩
theorem IsEnt.keeps {h h' : Heap} {r : Addr} {e : Ent} (x : IsEnt h r e) (k : Kp h h') : IsEnt h' r e := x.at fun o e => k r o e

section
variable {w : World} {A : Around} {E : Value → Shared → Prop} {s : Shared} {h : Heap} {tk : Nat}
theorem tup_lt {r₁ r₂ : Addr} {a b : Ent} {Q : Value → Shared → Prop} (ha : IsEnt h r₁ a) (hb : IsEnt h r₂ b) (hp : a.place ≠ b.place) (hu : A.units < cLine) (hq : Q (.bool (a.lt b)) (St s h tk)) :
    wpAny (model Pg w) A (compareOp .Lt (.ref r₁) (.ref r₂)) Q E (St s h tk) := by
  obtain ⟨t₁, t₂, t₃, oa, hoa, hca, na, hda⟩ := ha
  obtain ⟨u₁, u₂, u₃, ob, hob, hcb, nb, hdb⟩ := hb
  have hTa : (St s h tk).TypeIs (.ref r₁) "tuple" := ⟨oa, hoa, hca⟩
  have hTb : (St s h tk).TypeIs (.ref r₂) "tuple" := ⟨ob, hob, hcb⟩
  show wpAny _ _ (richCompare .Lt (.ref r₁) (.ref r₂)) Q E _
  refine wpAny_richCompare_same_room (op := .Lt) hTa hTb PySem.F.slot_tuple_lt (wpAny_call_entry PySem.F.slot_tuple_lt hTa PySem.F.entry_tuple_lt ?_ (PySem.F.args_tuple_lt_2 _ _)) hu
  show wpAny _ _ (isInstance (.ref r₂) (.type "tuple") >>= _) _ _ _
  refine wpAny_bind (wpAny_isInstance hTb isSubtype_tuple_tuple ?_)
  simp only [Bool.not_true, Bool.false_eq_true, if_false]
  refine wpAny_bind (wpAny_tupleItemsOf hoa hda ?_)
  refine wpAny_bind (wpAny_tupleItemsOf hob hdb ?_)
  simp only [Ent.vals, List.zip_cons_cons, List.forIn_cons]
  refine wpAny_bind ?_
  refine wpAny_bind ?_
  refine wpAny_bind (wpAny_eqBool_str ?_)
  by_cases hk : a.key = b.key
  · have e1 : decide (sg a.key = sg b.key) = true := decide_eq_true (by rw [hk])
    rw [e1]
    simp only [Bool.not_true, Bool.false_eq_true, if_false]
    refine wpAny_pure ?_
    refine wpAny_bind ?_
    refine wpAny_bind (wpAny_eqBool_int ?_)
    have e2 : ((a.place : Int) == (b.place : Int)) = false := by simp; omega
    rw [e2]
    simp only [Bool.not_false, if_true]
    refine wpAny_bind (wpAny_rule ?_)
    refine wpAny_bind ?_
    refine wpAny_lt_int ?_
    refine wpAny_bind (wpAny_pure (wpAny_pure (wpAny_pure (wpAny_pure ⟨_, rfl, (fun e => nomatch e), ?_⟩))))
    unfold Ent.lt at hq
    rw [if_pos hk] at hq
    have e3 : decide ((a.place : Int) < (b.place : Int)) = decide (a.place < b.place) := by simp
    rw [e3]; exact hq
  · have e1 : decide (sg a.key = sg b.key) = false := decide_eq_false (fun e => hk (sg_inj e))
    rw [e1]
    simp only [Bool.not_false, if_true]
    refine wpAny_bind (wpAny_rule ?_)
    refine wpAny_bind ?_
    refine P.lt_str ?_
    refine wpAny_bind (wpAny_pure (wpAny_pure (wpAny_pure (wpAny_pure ⟨_, rfl, (fun e => nomatch e), ?_⟩))))
    unfold Ent.lt at hq
    rw [if_neg hk] at hq
    have e3 : decide ((sg a.key).cps.toList < (sg b.key).cps.toList) = decide (a.key < b.key) := decide_eq_decide.mpr (by simp [sg])
    rw [e3]; exact hq
end
end Mine

namespace Mine

theorem plain_map (f : Array Value → Array Value) (its : Array Value) (n : Nat) : ∃ n', Obj.mapSeq f { cls := .type "list", data := .seq its n } = { cls := .type "list", data := .seq (f its) n' } := ⟨_, rfl⟩

section
variable {w : World} {A : Around} {E : Value → Shared → Prop} {s : Shared} {h : Heap} {tk : Nat} {env : Env} {m : Str → Option Value} {M : Model}

theorem g_st {x : Str} {v : Value} {Q : Unit → Shared → Prop} (hn : h.Ns env.locals m)
    (hq : ∀ h' tk', h'.Ns env.locals (fun y => if y = x then some v else m y) → KpO [env.locals] h h' → Q () (St s h' tk'))
    (hk : env.scope.kind = .function := by rfl) (hl : env.kindOf x = some .local := by rfl) :
    wpAny M A (storeName env x v) Q E (St s h tk) :=
  wpAny_storeName_local (s := St s h tk) hl hn (fun h' hn' hs => hq h' _ hn' (KpO.of_same hs)) (by rw [hk]; rfl)

theorem l_get {l : Addr} {vs : List Value} {i : Nat} {t : Tok} {x : Value} {Q : Value → Shared → Prop} (hl : h.PlainList l vs.toArray) (hi : i ≤ 1000) (hx : vs[i]? = some x) (hq : Q x (St s h tk)) :
    wpAny (model Pg w) A (getItem (.ref l) (.int (i : Int) t)) Q E (St s h tk) :=
  wpAny_getItem_list (s := St s h tk) hl.isList (by omega) (by omega) (by simpa using hx) hq
/-- an item of the list, where the list is a name or a temporary -/
theorem l_item {value slice : Expr} {l : Addr} {vs : List Value} {i : Nat} {t : Tok} {x : Value} {Q : Value → Shared → Prop} (hl : h.PlainList l vs.toArray) (hi : i ≤ 1000) (hx : vs[i]? = some x) (hq : Q x (St s h tk))
    (hs : subscripted slice false (.ref l) (.int (i : Int) t) = operate [.ref l, .int (i : Int) t] (getItem (.ref l) (.int (i : Int) t)) := by with_unfolding_all rfl) :
    wpAny (model Pg w) A (subscriptTail value slice (.ref l) (.int (i : Int) t)) Q E (St s h tk) :=
  sub_tail (s := St s h tk) hl.isList.typeIs slot_list_getitem.lookup (l_get hl hi hx hq) hs
theorem t_item {value slice : Expr} {r : Addr} {vs : List Value} {i : Nat} {t : Tok} {x : Value} {Q : Value → Shared → Prop} (hr : h.IsTuple r vs.toArray) (hi : i ≤ 1000) (hx : vs[i]? = some x) (hq : Q x (St s h tk))
    (hs : subscripted slice false (.ref r) (.int (i : Int) t) = operate [.ref r, .int (i : Int) t] (getItem (.ref r) (.int (i : Int) t)) := by with_unfolding_all rfl) :
    wpAny (model Pg w) A (subscriptTail value slice (.ref r) (.int (i : Int) t)) Q E (St s h tk) := by
  have hlt : i < vs.length := (List.getElem?_eq_some_iff.mp hx).1
  refine sub_tail (s := St s h tk) hr.typeIs PyProof.Rows.slot_tuple_getitem.lookup (PyProof.Rows.getItem_tuple (j := i) hr (by omega) (by omega) ?_ (by simpa using hx) hq) hs
  unfold seqIndex?; simp; omega
theorem l_setk {l : Addr} {vs : List Value} {k : Int} {t : Tok} {v : Value} {Q : Unit → Shared → Prop} (hl : h.PlainList l vs.toArray) (h0 : 0 ≤ k) (hfit : k < 2 ^ 63) (hn : k < vs.length)
    (hq : ∀ h', h'.PlainList l (vs.set k.toNat v).toArray → KpO [l] h h' → Q () (St s h' tk)) :
    wpAny (model Pg w) A (setItem (.ref l) (.int k t) v) Q E (St s h tk) := by
  obtain ⟨n, ho⟩ := id hl
  have hT : (St s h tk).TypeIs (.ref l) "list" := ⟨_, ho, rfl⟩
  unfold setItem
  try with_reducible refine wpAny_holding ?_
  first | refine wpAny_bind (wpAny_pure ?_) | skip
  refine wpAny_bind (wpAny_sequenceKey hT (by decide) ?_)
  refine wpAny_bind (wpAny_callSpecial?_slot (name := Str.ofString "__setitem__") hT slot_list_setitem (wpAny_call_entry slot_list_setitem hT entry_list_setitem ?_ (args_list_setitem _ _ _)))
  show wpAny _ _ (Builtin.List.listSubscript? (.int k t) >>= _) _ _ _
  refine wpAny_bind (wpAny_listSubscript_int (fitsIndex_of h0 hfit) ?_)
  clear hfit
  obtain ⟨i, rfl⟩ := Int.eq_ofNat_of_zero_le h0
  have hi : i < vs.length := by omega
  have hx' : vs.toArray[i]? = some vs[i] := by simp [hi]
  show wpAny _ _ ((seqItemAt l i >>= fun r => pure (r.map (i, ·))) >>= _) _ _ _
  refine wpAny_bind (wpAny_bind (wpAny_seqItemAt ho rfl (wpAny_pure ?_)))
  rw [hx']
  show wpAny _ _ (setSeqItemAt l i v >>= _) _ _ _
  obtain ⟨n', hd'⟩ := plain_map (·.setIfInBounds i v) vs.toArray n
  have hfin : (h.update l (Obj.mapSeq (·.setIfInBounds i v))).PlainList l (vs.set i v).toArray := by
    refine ⟨n', ?_⟩
    rw [Heap.get?_update_self _ ho (by rw [hd']; rfl), hd']
    simp
  have kk : KpO [l] h (h.update l (Obj.mapSeq (·.setIfInBounds i v))) := KpO.of_same (Heap.SameBut.update ..)
  refine wpAny_bind (wpAny_setSeqItemAt ho rfl ?_)
  first
    | exact wpAny_bind (wpAny_pure (wpAny_pure ⟨.none, rfl, wpAny_pure (hq _ hfin kk)⟩))
    | exact wpAny_pure ⟨.none, rfl, wpAny_pure (hq _ hfin kk)⟩
theorem l_set {l : Addr} {vs : List Value} {i : Nat} {t : Tok} {v : Value} {Q : Unit → Shared → Prop} (hl : h.PlainList l vs.toArray) (hi : i < vs.length) (hsz : vs.length ≤ 1000)
    (hq : ∀ h', h'.PlainList l (vs.set i v).toArray → KpO [l] h h' → Q () (St s h' tk)) :
    wpAny (model Pg w) A (setItem (.ref l) (.int (i : Int) t) v) Q E (St s h tk) :=
  l_setk hl (by omega) (by omega) (by omega) hq
theorem l_len {l : Addr} {vs : List Value} {Q : Value → Shared → Prop} (hl : h.PlainList l vs.toArray) (hsz : vs.length ≤ 1000) (hq : ∀ t' tk', Q (.int (vs.length : Int) t') (St s h tk')) :
    wpAny (model Pg w) A (call (.builtin "len") [.ref l]) Q E (St s h tk) :=
  call_len_list (s := St s h tk) hl.isList (by simp; omega) (by rw [show (vs.toArray.size : Int) = (vs.length : Int) from by simp]; exact hq _ _)
theorem l_truthy {l : Addr} {vs : List Value} {Q : Bool → Shared → Prop} (hl : h.PlainList l vs.toArray) (hsz : vs.length ≤ 1000) (hq : ∀ tk', Q (!vs.isEmpty) (St s h tk')) :
    wpAny (model Pg w) A (truthy (.ref l)) Q E (St s h tk) :=
  wpAny_truthy_list (s := St s h tk) hl.isList (by simp; omega) (by rw [show vs.toArray.isEmpty = vs.isEmpty from by simp]; exact hq _)
theorem l_pop {pos : Pos} {l : Addr} {vs : List Value} {y : Value} {Q : Value → Shared → Prop} (hl : h.PlainList l (vs ++ [y]).toArray) (hsz : vs.length ≤ 1000)
    (hq : ∀ h', h'.PlainList l vs.toArray → KpO [l] h h' → Q y (St s h' tk)) :
    wpAny (model Pg w) A (callWith pos (.builtin "list.pop") [.ref l] [] []) Q E (St s h tk) := by
  obtain ⟨n, ho⟩ := id hl
  refine P.pop_list (s := St s h tk) (n := n) (y := y) ho (by simp) ?_ (by unfold sizeLine; simp; omega)
  refine hq _ ?_ (KpO.of_same (Heap.SameBut.update ..))
  obtain ⟨n', hd'⟩ := plain_map (fun xs => xs.eraseIdxIfInBounds ((vs ++ [y]).toArray.size - 1)) (vs ++ [y]).toArray n
  refine ⟨n', ?_⟩
  show (h.update l (Obj.mapSeq fun xs => xs.eraseIdxIfInBounds ((vs ++ [y]).toArray.size - 1))).get? l = _
  rw [Heap.get?_update_self _ ho (by rw [hd']; rfl), hd']
  congr 2
  simp [Array.eraseIdxIfInBounds, List.eraseIdx_append_of_length_le]
theorem l_app {pos : Pos} {l : Addr} {vs : List Value} {x : Sem Value} {Q : Value → Shared → Prop}
    (hx : wpAny (model Pg w) A x (fun v s₁ => ∃ h₁ tk₁, s₁ = St s h₁ tk₁ ∧ h₁.PlainList l vs.toArray ∧ vs.length ≤ 1000 ∧ ∀ h', h'.PlainList l (vs ++ [v]).toArray → KpO [l] h₁ h' → Q .none (St s h' tk₁)) E (St s h tk)) :
    wpAny (model Pg w) A (callWith pos (.builtin "list.append") [.ref l] [(false, x)] []) Q E (St s h tk) := by
  refine callWith_builtin rfl (evalArgs_plain (spliced_cons (wpAny_mono hx ?_ fun _ _ e => e)))
  rintro v s₁ ⟨h₁, tk₁, rfl, hl, hsz, hq⟩
  refine spliced_nil ?_
  refine wpAny_list_append_plain (s := St s h₁ tk₁) hl ?_ (by unfold sizeLine; simp; omega)
  intro h' hl' hs'
  exact hq h' (by simpa using hl') (KpO.of_same hs')
end
theorem PlainList.noDict {h : Heap} {l : Addr} {items : Array Value} (hl : h.PlainList l items) : ∀ a, Value.ref l = .ref a → ∃ ob, h.get? a = some ob ∧ ob.dict = none := by
  rintro a e
  cases e
  obtain ⟨n, ho⟩ := hl
  exact ⟨_, ho, rfl⟩
end Mine

namespace Mine

noncomputable abbrev Item := Addr × Ent
noncomputable def refs (X : List Item) : List Value := X.map fun p => .ref p.1
structure HeapIs (h : Heap) (l : Addr) (X : List Item) : Prop where
  list : h.PlainList l (refs X).toArray
  ents : ∀ p ∈ X, IsEnt h p.1 p.2

theorem IsEnt.ne_list {h : Heap} {r l : Addr} {e : Ent} {items : Array Value} (x : IsEnt h r e) (hl : h.PlainList l items) : r ≠ l := by
  rintro rfl
  obtain ⟨t₁, t₂, t₃, o, ho, hc, _⟩ := x
  obtain ⟨n, ho'⟩ := hl
  rw [ho] at ho'
  cases ho'
  simp at hc
theorem IsEnt.ne_ns {h : Heap} {r L : Addr} {e : Ent} {m : Str → Option Value} (x : IsEnt h r e) (hn : h.Ns L m) : r ≠ L := by
  rintro rfl
  obtain ⟨t₁, t₂, t₃, o, ho, hc, n, hd⟩ := x
  obtain ⟨o', es, ep, ho', hd', _⟩ := hn
  rw [ho] at ho'
  cases ho'
  rw [hd] at hd'
  cases hd'
theorem list_ne_ns {h : Heap} {l L : Addr} {items : Array Value} {m : Str → Option Value} (hl : h.PlainList l items) (hn : h.Ns L m) : l ≠ L := by
  rintro rfl
  obtain ⟨n, ho⟩ := hl
  obtain ⟨o', es, ep, ho', hd', _⟩ := hn
  rw [ho] at ho'
  cases ho'
  cases hd'
theorem HeapIs.keeps {h h' : Heap} {l : Addr} {X : List Item} (H : HeapIs h l X) (k : Kp h h') : HeapIs h' l X := ⟨H.list.at fun o e => k l o e, fun p hp => (H.ents p hp).keeps k⟩
theorem HeapIs.ns {h h' : Heap} {l L : Addr} {X : List Item} {m : Str → Option Value} (H : HeapIs h l X) (hn : h.Ns L m) (k : KpO [L] h h') : HeapIs h' l X :=
  ⟨H.list.at fun o e => k l o (by simpa using list_ne_ns H.list hn) e, fun p hp => (H.ents p hp).at fun o e => k _ o (by simpa using (H.ents p hp).ne_ns hn) e⟩
theorem HeapIs.upd {h h' : Heap} {l : Addr} {X X' : List Item} (H : HeapIs h l X) (k : KpO [l] h h') (hl : h'.PlainList l (refs X').toArray) (hX : ∀ p ∈ X', p ∈ X ∨ IsEnt h p.1 p.2) : HeapIs h' l X' :=
  ⟨hl, fun p hp => by
    have x : IsEnt h p.1 p.2 := (hX p hp).elim (H.ents p) id
    exact x.at fun o e => k _ o (by simpa using x.ne_list H.list) e⟩
theorem ns_o {h h' : Heap} {L l : Addr} {m : Str → Option Value} {items : Array Value} (hn : h.Ns L m) (hl : h.PlainList l items) (k : KpO [l] h h') : h'.Ns L m :=
  hn.at' fun o e => k L o (by simpa using (list_ne_ns hl hn).symm) e
theorem refs_length (X : List Item) : (refs X).length = X.length := by simp [refs]
theorem refs_get {X : List Item} {i : Nat} {p : Item} (h : X[i]? = some p) : (refs X)[i]? = some (.ref p.1) := by simp [refs, h]
theorem refs_set (X : List Item) (i : Nat) (p : Item) : (refs X).set i (.ref p.1) = refs (X.set i p) := by simp [refs, List.map_set]
theorem KpO.base {B h h' : Heap} {ow : List Addr} (kB : Kp B h) (k : KpO ow h h') (hB : ∀ b ∈ ow, B.get? b = none) : Kp B h' := fun b o e => k b o (fun hb => by rw [hB b hb] at e; cases e) (kB b o e)
theorem KpO.cons {x : Addr} {ow : List Addr} {h h' : Heap} (k : KpO ow h h') : KpO (x :: ow) h h' := k.mono fun _ hb => List.mem_cons_of_mem _ hb
theorem base_L {B h : Heap} (kB : Kp B h) : B.get? h.objs.size = none := by
  cases e : B.get? h.objs.size with
  | none => rfl
  | some o => exact absurd (Heap.lt_size (kB _ _ e)) (Nat.lt_irrefl _)

/-- what one step down does to at most three items -/
noncomputable def sd (lt : Ent → Ent → Bool) (X : List Item) (pos : Nat) : List Item :=
  match X[pos]?, X[0]? with
  | some x, some p => if (decide (pos ≠ 0) && lt x.2 p.2) = true then (X.set pos p).set 0 x else X
  | _, _ => X
noncomputable def Apart (X : List Item) : Prop := ∀ (i j : Nat) (p q : Item), X[i]? = some p → X[j]? = some q → i ≠ j → p.2.place ≠ q.2.place
noncomputable def lt' (a b : Ent) : Bool := b.lt a
theorem mem7 : dOf 7 ∈ allDefs := by simp [allDefs, ds1]
theorem mem8 : dOf 8 ∈ allDefs := by simp [allDefs, ds1]
theorem mem9 : dOf 9 ∈ allDefs := by simp [allDefs, ds1]
theorem mem10 : dOf 10 ∈ allDefs := by simp [allDefs, ds1]

/-- the names of _siftdown -/
structure SdM (l x : Addr) (p : Nat) (m : Str → Option Value) : Prop where
  heap : m "heap" = some (.ref l)
  start : ∃ t, m "startpos" = some (.int (0 : Int) t)
  pos : ∃ t, m "pos" = some (.int (p : Int) t)
  new : m "newitem" = some (.ref x)

theorem set_self {X : List Item} {i : Nat} {x : Item} (h : X[i]? = some x) : X.set i x = X := by
  apply List.ext_getElem?
  intro j
  rw [List.getElem?_set]
  by_cases e : i = j
  · subst e
    have hlt : i < X.length := (List.getElem?_eq_some_iff.mp h).1
    have hv := (List.getElem?_eq_some_iff.mp h).2
    simp [hlt, hv]
  · simp [e]

set_option maxHeartbeats 1000000 in
theorem siftdown_spec {w : World} {A : Around} {E : Value → Shared → Prop} {s : Shared} {B h : Heap} {tk : Nat} {mg mb : Str → Option Value} {k b1 b3 l : Addr} {X : List Item} {pos : Nat} {t u : Tok} {Q : Value → Shared → Prop}
    (T : Tops w B mg mb k b1 b3) (kB : Kp B h) (R : Room A 4 15) (H : HeapIs h l X) (hX : X.length ≤ 3) (hpos : pos < X.length) (hap : Apart X)
    (hq : ∀ h' tk', HeapIs h' l (sd Ent.lt X pos) → KpO [l] h h' → Q .none (St s h' tk')) :
    wpAny (model Pg w) A (call (.ref (fa mg 7)) [.ref l, .int (0 : Int) t, .int (pos : Int) u]) Q E (St s h tk) := by
  refine enter (i := 7) (d := 3) (u := 12) (binds := [("heap", .ref l), ("startpos", .int (0 : Int) t), ("pos", .int (pos : Int) u)]) ["heap", "startpos", "pos"] T kB mem7 R (fun pm cd doc => by rfl) rfl (by decide +kernel) (Kp.refl h) (Nat.le_refl _) ?_
  intro A' L a cd h₁ tk₁ R' hL F keep
  have k₁ : Kp h h₁ := fun b o e => (keep b o e).1
  have hLh : h.get? L = none := by rw [hL]; exact noAt h
  have H₁ := H.keeps k₁
  have hn₁ := F.ns
  have hu : A'.units < cLine := by have := R'.units; omega
  obtain ⟨x, hx⟩ : ∃ x, X[pos]? = some x := ⟨X[pos], by simp [hpos]⟩
  obtain ⟨p0, hp0⟩ : ∃ p, X[0]? = some p := ⟨X[0], by simp⟩
  conv in (dOf 7).body => whnf
  refine wpAny_execs_cons ?_
  refine wpAny_Assign_Name ?_
  refine Subscript_ ?_
  refine g_ld (env := fenv 7 L a cd) hn₁ (by rfl) ?_
  refine g_ld (env := fenv 7 L a cd) hn₁ (by rfl) ?_
  refine l_item H₁.list (by omega) (refs_get hx) ?_
  refine g_st (env := fenv 7 L a cd) hn₁ ?_
  intro h₂ tk₂ hn₂ k₂
  have H₂ := H₁.ns hn₁ k₂
  dsimp only
  refine wpAny_execs_cons ?_
  obtain ⟨P1, hP1⟩ : ∃ P : Flow → Shared → Prop, ∀ f s', P f s' ↔ (f = .next ∧ ∃ h' tk' m' X' p', s' = St s h' tk' ∧ h'.Ns L m' ∧ SdM l x.1 p' m' ∧ HeapIs h' l X' ∧ KpO [l, L] h₁ h' ∧ p' < X'.length ∧ X'.length = X.length ∧ X'.set p' x = sd Ent.lt X pos) := ⟨_, fun _ _ => Iff.rfl⟩
  refine wpAny_mono (Q := P1) ?_ ?_ (fun _ _ e => e)
  · refine wpAny_While ?_
    obtain ⟨P2, hP2⟩ : ∃ P : Nat → Shared → Prop, ∀ n s', P n s' ↔ (∃ h' tk' m' X' p', s' = St s h' tk' ∧ h'.Ns L m' ∧ SdM l x.1 p' m' ∧ HeapIs h' l X' ∧ KpO [l, L] h₁ h' ∧
      ((n = 1 ∧ p' = pos ∧ X' = X) ∨ (n = 0 ∧ p' = 0 ∧ X' = X.set pos p0 ∧ pos ≠ 0 ∧ Ent.lt x.2 p0.2 = true))) := ⟨_, fun _ _ => Iff.rfl⟩
    refine codeAny_whileLoop P2 ?_ 1
      ((hP2 _ _).mpr ⟨h₂, tk₂, _, X, pos, rfl, hn₂, ⟨by rfl, ⟨t, by rfl⟩, ⟨u, by rfl⟩, by rfl⟩, H₂, k₂.cons, Or.inl ⟨rfl, rfl, rfl⟩⟩)
    intro n s' hI
    obtain ⟨h', tk', m', X', p', rfl, hn', M', H', k', hcase⟩ := (hP2 _ _).mp hI
    clear hI
    obtain ⟨hm1, ⟨ts, hm2⟩, ⟨tp, hm3⟩, hm4⟩ := M'
    refine wpAny_isTrue_Compare1 ?_
    refine g_ld (env := fenv 7 L a cd) hn' hm3 ?_
    refine g_ld (env := fenv 7 L a cd) hn' hm2 ?_
    refine i_gt ?_
    refine wpAny_truthy_bool ?_
    rcases hcase with ⟨rfl, rfl, rfl⟩ | ⟨rfl, rfl, rfl, hp, hlt⟩
    · by_cases h0 : p' = 0
      · rw [if_neg (by simp; omega)]
        refine wpAny_execs_nil ?_
        refine (hP1 _ _).mpr ⟨rfl, h', tk', m', X', p', rfl, hn', ⟨hm1, ⟨ts, hm2⟩, ⟨tp, hm3⟩, hm4⟩, H', k', hpos, rfl, ?_⟩
        unfold sd
        rw [hx, hp0]
        subst h0
        simp only [ne_eq, not_true, decide_false, Bool.false_and, Bool.false_eq_true, if_false]
        rw [hx] at hp0; cases hp0
        exact set_self hx
      · rw [if_pos (by simp; omega)]
        refine wpAny_execs_cons ?_
        refine wpAny_Assign_Name ?_
        refine wpAny_BinOp ?_
        refine wpAny_BinOp ?_
        refine g_ld (env := fenv 7 L a cd) hn' hm3 ?_
        refine r_int ?_
        intro t₁ tk₃
        refine i_sub ?_
        intro t₂ tk₄
        refine r_int ?_
        intro t₃ tk₅
        refine i_rshift (by decide) ?_
        intro t₄ tk₆
        have e0 : Int.fdiv ((p' : Int) - 1) (2 ^ (1 : Int).toNat) = ((0 : Nat) : Int) := by
          have : p' = 1 ∨ p' = 2 := by omega
          rcases this with rfl | rfl <;> decide
        rw [e0]
        refine g_st (env := fenv 7 L a cd) hn' ?_
        intro h₃ tk₇ hn₃ k₃
        have H₃ := H'.ns hn' k₃
        dsimp only
        refine wpAny_execs_cons ?_
        refine wpAny_Assign_Name ?_
        refine Subscript_ ?_
        refine g_ld (env := fenv 7 L a cd) hn₃ (ne_up hm1) ?_
        refine g_ld (env := fenv 7 L a cd) hn₃ eq_up ?_
        refine l_item H₃.list (by omega) (refs_get hp0) ?_
        refine g_st (env := fenv 7 L a cd) hn₃ ?_
        intro h₄ tk₈ hn₄ k₄
        have H₄ := H₃.ns hn₃ k₄
        have kk₄ : KpO [l, L] h₁ h₄ := (k'.trans k₃.cons).trans k₄.cons
        dsimp only
        refine wpAny_execs_cons ?_
        refine wpAny_If ?_
        refine wpAny_isTrue_Compare1 ?_
        refine g_ld (env := fenv 7 L a cd) hn₄ (up2 hm4) ?_
        refine g_ld (env := fenv 7 L a cd) hn₄ eq_up ?_
        refine tup_lt (H₄.ents x (List.mem_of_getElem? hx)) (H₄.ents p0 (List.mem_of_getElem? hp0)) (hap p' 0 x p0 hx hp0 h0) hu ?_
        refine wpAny_truthy_bool ?_
        by_cases hlt : Ent.lt x.2 p0.2 = true
        · rw [if_pos hlt]
          refine wpAny_execs_cons ?_
          refine wpAny_Assign_Subscript ?_
          refine g_ld (env := fenv 7 L a cd) hn₄ eq_up ?_
          refine g_ld (env := fenv 7 L a cd) hn₄ (up2 hm1) ?_
          refine g_ld (env := fenv 7 L a cd) hn₄ (up2 hm3) ?_
          refine l_set H₄.list (by rw [refs_length]; exact hpos) (by rw [refs_length]; omega) ?_
          intro h₅ hl₅ k₅
          rw [refs_set] at hl₅
          have H₅ : HeapIs h₅ l (X'.set p' p0) := H₄.upd k₅ hl₅ fun q hq => by
            rcases List.mem_or_eq_of_mem_set hq with e | e
            · exact Or.inl e
            · rw [e]; exact Or.inl (List.mem_of_getElem? hp0)
          have hn₅ := ns_o hn₄ H₄.list k₅
          dsimp only
          refine wpAny_execs_cons ?_
          refine wpAny_Assign_Name ?_
          refine g_ld (env := fenv 7 L a cd) hn₅ at2 ?_
          refine g_st (env := fenv 7 L a cd) hn₅ ?_
          intro h₆ tk₉ hn₆ k₆
          have H₆ := H₅.ns hn₅ k₆
          dsimp only
          refine wpAny_execs_cons ?_
          refine wpAny_Continue ?_
          dsimp only
          exact ⟨0, by decide, (hP2 _ _).mpr ⟨h₆, tk₉, _, _, 0, rfl, hn₆, ⟨up3 hm1, ⟨ts, up3 hm2⟩, ⟨t₄, eq_up⟩, up3 hm4⟩, H₆, (kk₄.trans (k₅.mono fun b hb => by simp at hb; simp [hb])).trans k₆.cons, Or.inr ⟨rfl, rfl, rfl, h0, hlt⟩⟩⟩
        · rw [if_neg hlt]
          refine wpAny_execs_nil ?_
          refine wpAny_execs_cons ?_
          refine wpAny_Break ?_
          dsimp only
          refine (hP1 _ _).mpr ⟨rfl, h₄, tk₈, _, X', p', rfl, hn₄, ⟨up2 hm1, ⟨ts, up2 hm2⟩, ⟨tp, up2 hm3⟩, up2 hm4⟩, H₄, kk₄, hpos, rfl, ?_⟩
          unfold sd
          rw [hx, hp0]
          have hlt' : Ent.lt x.2 p0.2 = false := by simpa using hlt
          simp only [hlt', Bool.and_false, Bool.false_eq_true, if_false]
          exact set_self hx
    · rw [if_neg (by simp)]
      refine wpAny_execs_nil ?_
      refine (hP1 _ _).mpr ⟨rfl, h', tk', m', _, 0, rfl, hn', ⟨hm1, ⟨ts, hm2⟩, ⟨tp, hm3⟩, hm4⟩, H', k', by simp; omega, by simp, ?_⟩
      unfold sd
      rw [hx, hp0]
      simp only [hlt, Bool.and_true, decide_eq_true_eq]
      rw [if_pos hp]
  · intro f s' hf
    obtain ⟨rfl, h₃, tk₃, m', X', p', rfl, hn', ⟨hm1, ⟨ts, hm2⟩, ⟨tp, hm3⟩, hm4⟩, H', k', hlen, hlenX, hsd⟩ := (hP1 _ _).mp hf
    clear hf
    dsimp only
    refine wpAny_execs_cons ?_
    refine wpAny_Assign_Subscript ?_
    refine g_ld (env := fenv 7 L a cd) hn' hm4 ?_
    refine g_ld (env := fenv 7 L a cd) hn' hm1 ?_
    refine g_ld (env := fenv 7 L a cd) hn' hm3 ?_
    refine l_set H'.list (by rw [refs_length]; exact hlen) (by rw [refs_length]; omega) ?_
    intro h₅ hl₅ k₅
    rw [refs_set] at hl₅
    have hxe : IsEnt h₃ x.1 x.2 := (H₁.ents x (List.mem_of_getElem? hx)).at fun o e => k' _ o (by
      have e1 := (H₁.ents x (List.mem_of_getElem? hx)).ne_list H₁.list
      have e2 := (H₁.ents x (List.mem_of_getElem? hx)).ne_ns hn₁
      simp [e1, e2]) e
    have H₅ : HeapIs h₅ l (X'.set p' x) := H'.upd k₅ hl₅ fun q hq => by
      rcases List.mem_or_eq_of_mem_set hq with e | e
      · exact Or.inl e
      · rw [e]; exact Or.inr hxe
    dsimp only
    refine wpAny_execs_nil ?_
    rw [hsd] at H₅
    refine hq h₅ tk₃ H₅ ?_
    intro b o hb e
    have hb' : b ≠ l := by simpa using hb
    have hbL := (keep b o e).2
    exact k₅ b o hb (k' b o (by simp [hb', hbL]) (k₁ b o e))

set_option maxHeartbeats 1000000 in
theorem siftdown_max_spec {w : World} {A : Around} {E : Value → Shared → Prop} {s : Shared} {B h : Heap} {tk : Nat} {mg mb : Str → Option Value} {k b1 b3 l : Addr} {X : List Item} {pos : Nat} {t u : Tok} {Q : Value → Shared → Prop}
    (T : Tops w B mg mb k b1 b3) (kB : Kp B h) (R : Room A 4 15) (H : HeapIs h l X) (hX : X.length ≤ 3) (hpos : pos < X.length) (hap : Apart X)
    (hq : ∀ h' tk', HeapIs h' l (sd lt' X pos) → KpO [l] h h' → Q .none (St s h' tk')) :
    wpAny (model Pg w) A (call (.ref (fa mg 9)) [.ref l, .int (0 : Int) t, .int (pos : Int) u]) Q E (St s h tk) := by
  refine enter (i := 9) (d := 3) (u := 12) (binds := [("heap", .ref l), ("startpos", .int (0 : Int) t), ("pos", .int (pos : Int) u)]) ["heap", "startpos", "pos"] T kB mem9 R (fun pm cd doc => by rfl) rfl (by decide +kernel) (Kp.refl h) (Nat.le_refl _) ?_
  intro A' L a cd h₁ tk₁ R' hL F keep
  have k₁ : Kp h h₁ := fun b o e => (keep b o e).1
  have hLh : h.get? L = none := by rw [hL]; exact noAt h
  have H₁ := H.keeps k₁
  have hn₁ := F.ns
  have hu : A'.units < cLine := by have := R'.units; omega
  obtain ⟨x, hx⟩ : ∃ x, X[pos]? = some x := ⟨X[pos], by simp [hpos]⟩
  obtain ⟨p0, hp0⟩ : ∃ p, X[0]? = some p := ⟨X[0], by simp⟩
  conv in (dOf 9).body => whnf
  refine wpAny_execs_cons ?_
  refine wpAny_Assign_Name ?_
  refine Subscript_ ?_
  refine g_ld (env := fenv 9 L a cd) hn₁ (by rfl) ?_
  refine g_ld (env := fenv 9 L a cd) hn₁ (by rfl) ?_
  refine l_item H₁.list (by omega) (refs_get hx) ?_
  refine g_st (env := fenv 9 L a cd) hn₁ ?_
  intro h₂ tk₂ hn₂ k₂
  have H₂ := H₁.ns hn₁ k₂
  dsimp only
  refine wpAny_execs_cons ?_
  obtain ⟨P1, hP1⟩ : ∃ P : Flow → Shared → Prop, ∀ f s', P f s' ↔ (f = .next ∧ ∃ h' tk' m' X' p', s' = St s h' tk' ∧ h'.Ns L m' ∧ SdM l x.1 p' m' ∧ HeapIs h' l X' ∧ KpO [l, L] h₁ h' ∧ p' < X'.length ∧ X'.length = X.length ∧ X'.set p' x = sd lt' X pos) := ⟨_, fun _ _ => Iff.rfl⟩
  refine wpAny_mono (Q := P1) ?_ ?_ (fun _ _ e => e)
  · refine wpAny_While ?_
    obtain ⟨P2, hP2⟩ : ∃ P : Nat → Shared → Prop, ∀ n s', P n s' ↔ (∃ h' tk' m' X' p', s' = St s h' tk' ∧ h'.Ns L m' ∧ SdM l x.1 p' m' ∧ HeapIs h' l X' ∧ KpO [l, L] h₁ h' ∧
      ((n = 1 ∧ p' = pos ∧ X' = X) ∨ (n = 0 ∧ p' = 0 ∧ X' = X.set pos p0 ∧ pos ≠ 0 ∧ lt' x.2 p0.2 = true))) := ⟨_, fun _ _ => Iff.rfl⟩
    refine codeAny_whileLoop P2 ?_ 1
      ((hP2 _ _).mpr ⟨h₂, tk₂, _, X, pos, rfl, hn₂, ⟨by rfl, ⟨t, by rfl⟩, ⟨u, by rfl⟩, by rfl⟩, H₂, k₂.cons, Or.inl ⟨rfl, rfl, rfl⟩⟩)
    intro n s' hI
    obtain ⟨h', tk', m', X', p', rfl, hn', M', H', k', hcase⟩ := (hP2 _ _).mp hI
    clear hI
    obtain ⟨hm1, ⟨ts, hm2⟩, ⟨tp, hm3⟩, hm4⟩ := M'
    refine wpAny_isTrue_Compare1 ?_
    refine g_ld (env := fenv 9 L a cd) hn' hm3 ?_
    refine g_ld (env := fenv 9 L a cd) hn' hm2 ?_
    refine i_gt ?_
    refine wpAny_truthy_bool ?_
    rcases hcase with ⟨rfl, rfl, rfl⟩ | ⟨rfl, rfl, rfl, hp, hlt⟩
    · by_cases h0 : p' = 0
      · rw [if_neg (by simp; omega)]
        refine wpAny_execs_nil ?_
        refine (hP1 _ _).mpr ⟨rfl, h', tk', m', X', p', rfl, hn', ⟨hm1, ⟨ts, hm2⟩, ⟨tp, hm3⟩, hm4⟩, H', k', hpos, rfl, ?_⟩
        unfold sd
        rw [hx, hp0]
        subst h0
        simp only [ne_eq, not_true, decide_false, Bool.false_and, Bool.false_eq_true, if_false]
        rw [hx] at hp0; cases hp0
        exact set_self hx
      · rw [if_pos (by simp; omega)]
        refine wpAny_execs_cons ?_
        refine wpAny_Assign_Name ?_
        refine wpAny_BinOp ?_
        refine wpAny_BinOp ?_
        refine g_ld (env := fenv 9 L a cd) hn' hm3 ?_
        refine r_int ?_
        intro t₁ tk₃
        refine i_sub ?_
        intro t₂ tk₄
        refine r_int ?_
        intro t₃ tk₅
        refine i_rshift (by decide) ?_
        intro t₄ tk₆
        have e0 : Int.fdiv ((p' : Int) - 1) (2 ^ (1 : Int).toNat) = ((0 : Nat) : Int) := by
          have : p' = 1 ∨ p' = 2 := by omega
          rcases this with rfl | rfl <;> decide
        rw [e0]
        refine g_st (env := fenv 9 L a cd) hn' ?_
        intro h₃ tk₇ hn₃ k₃
        have H₃ := H'.ns hn' k₃
        dsimp only
        refine wpAny_execs_cons ?_
        refine wpAny_Assign_Name ?_
        refine Subscript_ ?_
        refine g_ld (env := fenv 9 L a cd) hn₃ (ne_up hm1) ?_
        refine g_ld (env := fenv 9 L a cd) hn₃ eq_up ?_
        refine l_item H₃.list (by omega) (refs_get hp0) ?_
        refine g_st (env := fenv 9 L a cd) hn₃ ?_
        intro h₄ tk₈ hn₄ k₄
        have H₄ := H₃.ns hn₃ k₄
        have kk₄ : KpO [l, L] h₁ h₄ := (k'.trans k₃.cons).trans k₄.cons
        dsimp only
        refine wpAny_execs_cons ?_
        refine wpAny_If ?_
        refine wpAny_isTrue_Compare1 ?_
        refine g_ld (env := fenv 9 L a cd) hn₄ eq_up ?_
        refine g_ld (env := fenv 9 L a cd) hn₄ (up2 hm4) ?_
        refine tup_lt (H₄.ents p0 (List.mem_of_getElem? hp0)) (H₄.ents x (List.mem_of_getElem? hx)) (hap 0 p' p0 x hp0 hx (Ne.symm h0)) hu ?_
        rw [show p0.2.lt x.2 = lt' x.2 p0.2 from rfl]
        refine wpAny_truthy_bool ?_
        by_cases hlt : lt' x.2 p0.2 = true
        · rw [if_pos hlt]
          refine wpAny_execs_cons ?_
          refine wpAny_Assign_Subscript ?_
          refine g_ld (env := fenv 9 L a cd) hn₄ eq_up ?_
          refine g_ld (env := fenv 9 L a cd) hn₄ (up2 hm1) ?_
          refine g_ld (env := fenv 9 L a cd) hn₄ (up2 hm3) ?_
          refine l_set H₄.list (by rw [refs_length]; exact hpos) (by rw [refs_length]; omega) ?_
          intro h₅ hl₅ k₅
          rw [refs_set] at hl₅
          have H₅ : HeapIs h₅ l (X'.set p' p0) := H₄.upd k₅ hl₅ fun q hq => by
            rcases List.mem_or_eq_of_mem_set hq with e | e
            · exact Or.inl e
            · rw [e]; exact Or.inl (List.mem_of_getElem? hp0)
          have hn₅ := ns_o hn₄ H₄.list k₅
          dsimp only
          refine wpAny_execs_cons ?_
          refine wpAny_Assign_Name ?_
          refine g_ld (env := fenv 9 L a cd) hn₅ at2 ?_
          refine g_st (env := fenv 9 L a cd) hn₅ ?_
          intro h₆ tk₉ hn₆ k₆
          have H₆ := H₅.ns hn₅ k₆
          dsimp only
          refine wpAny_execs_cons ?_
          refine wpAny_Continue ?_
          dsimp only
          exact ⟨0, by decide, (hP2 _ _).mpr ⟨h₆, tk₉, _, _, 0, rfl, hn₆, ⟨up3 hm1, ⟨ts, up3 hm2⟩, ⟨t₄, eq_up⟩, up3 hm4⟩, H₆, (kk₄.trans (k₅.mono fun b hb => by simp at hb; simp [hb])).trans k₆.cons, Or.inr ⟨rfl, rfl, rfl, h0, hlt⟩⟩⟩
        · rw [if_neg hlt]
          refine wpAny_execs_nil ?_
          refine wpAny_execs_cons ?_
          refine wpAny_Break ?_
          dsimp only
          refine (hP1 _ _).mpr ⟨rfl, h₄, tk₈, _, X', p', rfl, hn₄, ⟨up2 hm1, ⟨ts, up2 hm2⟩, ⟨tp, up2 hm3⟩, up2 hm4⟩, H₄, kk₄, hpos, rfl, ?_⟩
          unfold sd
          rw [hx, hp0]
          have hlt' : lt' x.2 p0.2 = false := by simpa using hlt
          simp only [hlt', Bool.and_false, Bool.false_eq_true, if_false]
          exact set_self hx
    · rw [if_neg (by simp)]
      refine wpAny_execs_nil ?_
      refine (hP1 _ _).mpr ⟨rfl, h', tk', m', _, 0, rfl, hn', ⟨hm1, ⟨ts, hm2⟩, ⟨tp, hm3⟩, hm4⟩, H', k', by simp; omega, by simp, ?_⟩
      unfold sd
      rw [hx, hp0]
      simp only [hlt, Bool.and_true, decide_eq_true_eq]
      rw [if_pos hp]
  · intro f s' hf
    obtain ⟨rfl, h₃, tk₃, m', X', p', rfl, hn', ⟨hm1, ⟨ts, hm2⟩, ⟨tp, hm3⟩, hm4⟩, H', k', hlen, hlenX, hsd⟩ := (hP1 _ _).mp hf
    clear hf
    dsimp only
    refine wpAny_execs_cons ?_
    refine wpAny_Assign_Subscript ?_
    refine g_ld (env := fenv 9 L a cd) hn' hm4 ?_
    refine g_ld (env := fenv 9 L a cd) hn' hm1 ?_
    refine g_ld (env := fenv 9 L a cd) hn' hm3 ?_
    refine l_set H'.list (by rw [refs_length]; exact hlen) (by rw [refs_length]; omega) ?_
    intro h₅ hl₅ k₅
    rw [refs_set] at hl₅
    have hxe : IsEnt h₃ x.1 x.2 := (H₁.ents x (List.mem_of_getElem? hx)).at fun o e => k' _ o (by
      have e1 := (H₁.ents x (List.mem_of_getElem? hx)).ne_list H₁.list
      have e2 := (H₁.ents x (List.mem_of_getElem? hx)).ne_ns hn₁
      simp [e1, e2]) e
    have H₅ : HeapIs h₅ l (X'.set p' x) := H'.upd k₅ hl₅ fun q hq => by
      rcases List.mem_or_eq_of_mem_set hq with e | e
      · exact Or.inl e
      · rw [e]; exact Or.inr hxe
    dsimp only
    refine wpAny_execs_nil ?_
    rw [hsd] at H₅
    refine hq h₅ tk₃ H₅ ?_
    intro b o hb e
    have hb' : b ≠ l := by simpa using hb
    have hbL := (keep b o e).2
    exact k₅ b o hb (k' b o (by simp [hb', hbL]) (k₁ b o e))

end Mine

namespace Mine

/-- the child that goes up -/
noncomputable def cIdx (lt : Ent → Ent → Bool) : List Item → Nat
  | [_, _] => 1
  | [_, y, z] => if lt y.2 z.2 then 1 else 2
  | _ => 0
/-- what _siftup does to at most three items -/
noncomputable def su (lt : Ent → Ent → Bool) : List Item → List Item
  | [x, y] => if lt x.2 y.2 then [x, y] else [y, x]
  | [x, y, z] => if lt y.2 z.2 then (if lt x.2 y.2 then [x, y, z] else [y, x, z]) else (if lt x.2 z.2 then [x, y, z] else [z, y, x])
  | X => X
theorem cIdx_range {lt : Ent → Ent → Bool} {X : List Item} (hX : X.length ≤ 3) (h2 : 2 ≤ X.length) : 1 ≤ cIdx lt X ∧ cIdx lt X < X.length ∧ cIdx lt X ≤ 2 := by
  match X, hX, h2 with
  | [a, b], _, _ => exact ⟨Nat.le_refl 1, Nat.lt_succ_self 1, Nat.le_succ 1⟩
  | [a, b, c], _, _ =>
    simp only [cIdx, List.length_cons, List.length_nil]
    split <;> decide
theorem cIdx_3 {lt : Ent → Ent → Bool} {X : List Item} {y z : Item} (h3 : X.length = 3) (hy : X[1]? = some y) (hz : X[2]? = some z) : cIdx lt X = if lt y.2 z.2 then 1 else 2 := by
  match X, h3, hy, hz with
  | [a, b, c], _, hy, hz =>
    simp only [List.getElem?_cons_zero, List.getElem?_cons_succ, Option.some.injEq] at hy hz
    subst hy hz
    rfl
theorem cIdx_2 {lt : Ent → Ent → Bool} {X : List Item} (h2 : X.length = 2) : cIdx lt X = 1 := by
  match X, h2 with
  | [a, b], _ => rfl
/-- the names of _siftup -/
structure SuM (l x : Addr) (n p c : Nat) (m : Str → Option Value) : Prop where
  heap : m "heap" = some (.ref l)
  endp : ∃ t, m "endpos" = some (.int (n : Int) t)
  start : ∃ t, m "startpos" = some (.int (0 : Int) t)
  pos : ∃ t, m "pos" = some (.int (p : Int) t)
  child : ∃ t, m "childpos" = some (.int (c : Int) t)
  new : m "newitem" = some (.ref x)
theorem su_sd (lt : Ent → Ent → Bool) {X : List Item} {x xc : Item} (hX : X.length ≤ 3) (h2 : 2 ≤ X.length) (hx : X[0]? = some x) (hc : X[cIdx lt X]? = some xc) :
    sd lt ((X.set 0 xc).set (cIdx lt X) x) (cIdx lt X) = su lt X := by
  match X, hX, h2 with
  | [a, b], _, _ =>
    simp only [cIdx, List.getElem?_cons_zero, List.getElem?_cons_succ, Option.some.injEq] at hx hc ⊢
    subst hx hc
    simp [sd, su]
  | [a, b, c], _, _ =>
    by_cases hbc : lt b.2 c.2 = true
    · simp only [cIdx, hbc, if_true, List.getElem?_cons_zero, List.getElem?_cons_succ, Option.some.injEq] at hx hc ⊢
      subst hx hc
      simp [sd, su, hbc]
    · simp only [cIdx, hbc, if_false, List.getElem?_cons_zero, List.getElem?_cons_succ, Option.some.injEq, Bool.false_eq_true] at hx hc ⊢
      subst hx hc
      simp [sd, su, hbc]
theorem su_sd1 (lt : Ent → Ent → Bool) {X : List Item} {x : Item} (h1 : X.length = 1) (hx : X[0]? = some x) : sd lt (X.set 0 x) 0 = su lt X := by
  match X, h1 with
  | [a], _ =>
    simp only [List.getElem?_cons_zero, Option.some.injEq] at hx
    subst hx
    simp [sd, su]

theorem apart_swap {X : List Item} {x xc : Item} {c : Nat} (hap : Apart X) (hx : X[0]? = some x) (hxc : X[c]? = some xc) (hc : c ≠ 0) : Apart ((X.set 0 xc).set c x) := by
  have h0 : 0 < X.length := (List.getElem?_eq_some_iff.mp hx).1
  have hcl : c < X.length := (List.getElem?_eq_some_iff.mp hxc).1
  have val : ∀ (i : Nat) (p : Item), ((X.set 0 xc).set c x)[i]? = some p → X[if i = 0 then c else if i = c then 0 else i]? = some p := by
    intro i p hi
    rw [List.getElem?_set] at hi
    by_cases e : c = i
    · rw [if_pos e, if_pos (by simp; omega)] at hi
      rw [if_neg (by omega), if_pos e.symm, hx]; exact hi
    · rw [if_neg e, List.getElem?_set] at hi
      by_cases e0 : 0 = i
      · rw [if_pos e0, if_pos (by omega)] at hi
        rw [if_pos e0.symm, hxc]; exact hi
      · rw [if_neg e0] at hi
        rw [if_neg (Ne.symm e0), if_neg (Ne.symm e)]; exact hi
  intro i j p q hi hj hij
  refine hap _ _ p q (val i p hi) (val j q hj) ?_
  repeat' split
  all_goals omega
theorem Call_Name3 {M : Model} {A : Around} {E : Value → Shared → Prop} {s : Shared} {env : Env} {x : Str} {p pos : Pos} {e₁ e₂ e₃ : Expr} {Q : Value → Shared → Prop}
    (h : wpAny M A (eval (.Name x p) env) (fun f s₁ => wpAny M A (callWith pos f [] [(false, eval e₁ env), (false, eval e₂ env), (false, eval e₃ env)] []) Q E s₁) E s)
    (hs : starEach [e₁, e₂, e₃] env = [(false, eval e₁ env), (false, eval e₂ env), (false, eval e₃ env)] := by rfl) :
    wpAny M A (eval (.Call (.Name x p) [e₁, e₂, e₃] [] pos) env) Q E s := Call_Name (by rw [hs]; rfl) h

set_option maxHeartbeats 1000000 in
theorem siftup_spec {w : World} {A : Around} {E : Value → Shared → Prop} {s : Shared} {B h : Heap} {tk : Nat} {mg mb : Str → Option Value} {k b1 b3 l : Addr} {X : List Item} {t : Tok} {Q : Value → Shared → Prop}
    (T : Tops w B mg mb k b1 b3) (kB : Kp B h) (hlB : B.get? l = none) (R : Room A 5 18) (H : HeapIs h l X) (hX : X.length ≤ 3) (h1 : 1 ≤ X.length) (hap : Apart X)
    (hq : ∀ h' tk', HeapIs h' l (su Ent.lt X) → KpO [l] h h' → Q .none (St s h' tk')) :
    wpAny (model Pg w) A (call (.ref (fa mg 8)) [.ref l, .int (0 : Int) t]) Q E (St s h tk) := by
  refine enter (i := 8) (d := 4) (u := 15) (binds := [("heap", .ref l), ("pos", .int (0 : Int) t)]) ["heap", "pos"] T kB mem8 R (fun pm cd doc => by rfl) rfl (by decide +kernel) (Kp.refl h) (Nat.le_refl _) ?_
  intro A' L a cd h₁ tk₁ R' hL F keep
  have k₁ : Kp h h₁ := fun b o e => (keep b o e).1
  have kB₁ : Kp B h₁ := kB.trans k₁
  have hLB : B.get? L = none := by rw [hL]; exact base_L kB
  have H₁ := H.keeps k₁
  have hn₁ := F.ns
  have hu : A'.units < cLine := by have := R'.units; omega
  obtain ⟨x, hx⟩ : ∃ x, X[0]? = some x := ⟨X[0], by simp⟩
  conv in (dOf 8).body => whnf
  refine wpAny_execs_cons ?_
  refine wpAny_Assign_Name ?_
  refine Call_Name1 ?_
  refine g_bi T kB₁ boot_len' ?_
  refine PySem.callWith_builtin1 ?_
  refine g_ld (env := fenv 8 L a cd) hn₁ (by rfl) ?_
  refine l_len H₁.list (by rw [refs_length]; omega) ?_
  intro t₁ tk₂
  rw [refs_length]
  refine g_st (env := fenv 8 L a cd) hn₁ ?_
  intro h₂ tk₃ hn₂ k₂
  have H₂ := H₁.ns hn₁ k₂
  dsimp only
  refine wpAny_execs_cons ?_
  refine wpAny_Assign_Name ?_
  refine g_ld (env := fenv 8 L a cd) hn₂ (by rfl) ?_
  refine g_st (env := fenv 8 L a cd) hn₂ ?_
  intro h₃ tk₄ hn₃ k₃
  have H₃ := H₂.ns hn₂ k₃
  dsimp only
  refine wpAny_execs_cons ?_
  refine wpAny_Assign_Name ?_
  refine Subscript_ ?_
  refine g_ld (env := fenv 8 L a cd) hn₃ (by rfl) ?_
  refine g_ld (env := fenv 8 L a cd) hn₃ (by rfl) ?_
  refine l_item (i := 0) H₃.list (by decide) (refs_get hx) ?_
  refine g_st (env := fenv 8 L a cd) hn₃ ?_
  intro h₄ tk₅ hn₄ k₄
  have H₄ := H₃.ns hn₃ k₄
  dsimp only
  refine wpAny_execs_cons ?_
  refine wpAny_Assign_Name ?_
  refine wpAny_BinOp ?_
  refine wpAny_BinOp ?_
  refine r_int ?_
  intro t₂ tk₆
  refine g_ld (env := fenv 8 L a cd) hn₄ (by rfl) ?_
  refine i_mul (mulOk_left (by decide +kernel)) ?_
  intro t₃ tk₇
  refine r_int ?_
  intro t₄ tk₈
  refine i_add ?_
  intro t₅ tk₉
  rw [show (2 : Int) * 0 + 1 = ((1 : Nat) : Int) from rfl]
  refine g_st (env := fenv 8 L a cd) hn₄ ?_
  intro h₅ tk₁₀ hn₅ k₅
  have H₅ := H₄.ns hn₄ k₅
  have kk₅ : KpO [l, L] h₁ h₅ := ((k₂.trans k₃).trans (k₄.trans k₅)).cons
  dsimp only
  refine wpAny_execs_cons ?_
  obtain ⟨P1, hP1⟩ : ∃ P : Flow → Shared → Prop, ∀ f s', P f s' ↔ (f = .next ∧ ∃ h' tk' m' X' p' c', s' = St s h' tk' ∧ h'.Ns L m' ∧ SuM l x.1 X.length p' c' m' ∧ HeapIs h' l X' ∧ KpO [l, L] h₁ h' ∧ p' < X.length ∧ X'.length = X.length ∧ sd Ent.lt (X'.set p' x) p' = su Ent.lt X ∧ (X' = X ∧ p' = 0 ∨ ∃ xc c, X[c]? = some xc ∧ c ≠ 0 ∧ p' = c ∧ X' = X.set 0 xc)) := ⟨_, fun _ _ => Iff.rfl⟩
  refine wpAny_mono (Q := P1) ?_ ?_ (fun _ _ e => e)
  · refine wpAny_While ?_
    obtain ⟨P2, hP2⟩ : ∃ P : Nat → Shared → Prop, ∀ n s', P n s' ↔ (∃ h' tk' m' X' p' c', s' = St s h' tk' ∧ h'.Ns L m' ∧ SuM l x.1 X.length p' c' m' ∧ HeapIs h' l X' ∧ KpO [l, L] h₁ h' ∧
      ((n = 1 ∧ p' = 0 ∧ c' = 1 ∧ X' = X) ∨ (n = 0 ∧ 2 ≤ X.length ∧ p' = cIdx Ent.lt X ∧ 3 ≤ c' ∧ ∃ xc, X[cIdx Ent.lt X]? = some xc ∧ cIdx Ent.lt X ≠ 0 ∧ X' = X.set 0 xc))) := ⟨_, fun _ _ => Iff.rfl⟩
    refine codeAny_whileLoop P2 ?_ 1
      ((hP2 _ _).mpr ⟨h₅, tk₁₀, _, X, 0, 1, rfl, hn₅, ⟨by rfl, ⟨t₁, by rfl⟩, ⟨t, by rfl⟩, ⟨t, by rfl⟩, ⟨t₅, by rfl⟩, by rfl⟩, H₅, kk₅, Or.inl ⟨rfl, rfl, rfl, rfl⟩⟩)
    intro n s' hI
    obtain ⟨h', tk', m', X', p', c', rfl, hn', M', H', k', hcase⟩ := (hP2 _ _).mp hI
    clear hI
    obtain ⟨hm1, ⟨te, hm2⟩, ⟨ts, hm3⟩, ⟨tp, hm4⟩, ⟨tc, hm5⟩, hm6⟩ := M'
    refine wpAny_isTrue_Compare1 ?_
    refine g_ld (env := fenv 8 L a cd) hn' hm5 ?_
    refine g_ld (env := fenv 8 L a cd) hn' hm2 ?_
    refine i_lt ?_
    refine wpAny_truthy_bool ?_
    rcases hcase with ⟨rfl, rfl, rfl, rfl⟩ | ⟨rfl, h2, rfl, hc3, xc, hxc, hc0, rfl⟩
    · by_cases h2 : 2 ≤ X'.length
      · rw [if_pos (by simp; omega)]
        obtain ⟨y, hy⟩ : ∃ y, X'[1]? = some y := ⟨X'[1], by simp⟩
        refine wpAny_execs_cons ?_
        refine wpAny_Assign_Name ?_
        refine wpAny_BinOp ?_
        refine g_ld (env := fenv 8 L a cd) hn' hm5 ?_
        refine r_int ?_
        intro t₆ tk₁₁
        refine i_add ?_
        intro t₇ tk₁₂
        rw [show ((1 : Nat) : Int) + 1 = ((2 : Nat) : Int) from rfl]
        refine g_st (env := fenv 8 L a cd) hn' ?_
        intro h₆ tk₁₃ hn₆ k₆
        have H₆ := H'.ns hn' k₆
        dsimp only
        refine wpAny_execs_cons ?_
        obtain ⟨P3, hP3⟩ : ∃ P : Flow → Shared → Prop, ∀ f s', P f s' ↔ (f = .next ∧ ∃ h' tk' m'', s' = St s h' tk' ∧ h'.Ns L m'' ∧ SuM l x.1 X'.length 0 (cIdx Ent.lt X') m'' ∧ HeapIs h' l X' ∧ KpO [l, L] h₁ h') := ⟨_, fun _ _ => Iff.rfl⟩
        refine wpAny_mono (Q := P3) ?_ ?_ (fun _ _ e => e)
        · refine wpAny_If ?_
          refine wpAny_isTrue_BoolOp ?_
          refine wpAny_allTrue_And_cons ?_
          refine wpAny_isTrue_Compare1 ?_
          refine g_ld (env := fenv 8 L a cd) hn₆ eq_up ?_
          refine g_ld (env := fenv 8 L a cd) hn₆ (ne_up hm2) ?_
          refine i_lt ?_
          refine wpAny_truthy_bool ?_
          by_cases h3 : X'.length = 3
          · rw [if_pos (by simp; omega)]
            obtain ⟨z, hz⟩ : ∃ z, X'[2]? = some z := ⟨X'[2], by simp⟩
            have hcx : cIdx Ent.lt X' = if Ent.lt y.2 z.2 then 1 else 2 := cIdx_3 h3 hy hz
            refine wpAny_allTrue_And_cons ?_
            refine wpAny_isTrue_Not ?_
            refine wpAny_isTrue_Compare1 ?_
            refine Subscript_ ?_
            refine g_ld (env := fenv 8 L a cd) hn₆ (ne_up hm1) ?_
            refine g_ld (env := fenv 8 L a cd) hn₆ (ne_up hm5) ?_
            refine l_item (i := 1) H₆.list (by decide) (refs_get hy) ?_
            refine Subscript_ ?_
            refine g_ld (env := fenv 8 L a cd) hn₆ (ne_up hm1) ?_
            refine g_ld (env := fenv 8 L a cd) hn₆ eq_up ?_
            refine l_item (i := 2) H₆.list (by decide) (refs_get hz) ?_
            refine tup_lt (H₆.ents y (List.mem_of_getElem? hy)) (H₆.ents z (List.mem_of_getElem? hz)) (hap 1 2 y z hy hz (by decide)) hu ?_
            refine wpAny_truthy_bool ?_
            by_cases hlt : Ent.lt y.2 z.2 = true
            · rw [hlt] at hcx ⊢
              rw [if_pos rfl] at hcx
              rw [if_neg (by simp)]
              rw [if_neg (by simp)]
              refine wpAny_execs_nil ?_
              refine (hP3 _ _).mpr ⟨rfl, h₆, _, _, rfl, hn₆, ⟨ne_up hm1, ⟨te, ne_up hm2⟩, ⟨ts, ne_up hm3⟩, ⟨tp, ne_up hm4⟩, ⟨tc, ?_⟩, ne_up hm6⟩, H₆, k'.trans k₆.cons⟩
              rw [hcx]; exact ne_up hm5
            · have hlt : Ent.lt y.2 z.2 = false := by simpa using hlt
              rw [hlt] at hcx ⊢
              rw [if_neg (by simp)] at hcx
              rw [if_pos (by rfl)]
              refine wpAny_allTrue_And_nil ?_
              rw [if_pos rfl]
              refine wpAny_execs_cons ?_
              refine wpAny_Assign_Name ?_
              refine g_ld (env := fenv 8 L a cd) hn₆ eq_up ?_
              refine g_st (env := fenv 8 L a cd) hn₆ ?_
              intro h₇ tk₁₄ hn₇ k₇
              have H₇ := H₆.ns hn₆ k₇
              dsimp only
              refine wpAny_execs_nil ?_
              refine (hP3 _ _).mpr ⟨rfl, h₇, tk₁₄, _, rfl, hn₇, ⟨up2 hm1, ⟨te, up2 hm2⟩, ⟨ts, up2 hm3⟩, ⟨tp, up2 hm4⟩, ⟨t₇, ?_⟩, up2 hm6⟩, H₇, (k'.trans k₆.cons).trans k₇.cons⟩
              rw [hcx]; exact eq_up
          · have hl2 : X'.length = 2 := by omega
            have hcx : cIdx Ent.lt X' = 1 := cIdx_2 hl2
            rw [if_neg (by simp; omega)]
            rw [if_neg (by simp)]
            refine wpAny_execs_nil ?_
            refine (hP3 _ _).mpr ⟨rfl, h₆, _, _, rfl, hn₆, ⟨ne_up hm1, ⟨te, ne_up hm2⟩, ⟨ts, ne_up hm3⟩, ⟨tp, ne_up hm4⟩, ⟨tc, ?_⟩, ne_up hm6⟩, H₆, k'.trans k₆.cons⟩
            rw [hcx]; exact ne_up hm5
        · intro f s' hf
          obtain ⟨rfl, h₇, tk₁₄, m₇, rfl, hn₇, ⟨g1, ⟨te', g2⟩, ⟨ts', g3⟩, ⟨tp', g4⟩, ⟨tc', g5⟩, g6⟩, H₇, k₇⟩ := (hP3 _ _).mp hf
          clear hf
          have hcr : 1 ≤ cIdx Ent.lt X' ∧ cIdx Ent.lt X' < X'.length ∧ cIdx Ent.lt X' ≤ 2 := cIdx_range hX h2
          obtain ⟨xc, hxc⟩ : ∃ y, X'[cIdx Ent.lt X']? = some y := ⟨X'[cIdx Ent.lt X'], by simp [hcr.2.1]⟩
          dsimp only
          refine wpAny_execs_cons ?_
          refine wpAny_Assign_Subscript ?_
          refine Subscript_ ?_
          refine g_ld (env := fenv 8 L a cd) hn₇ g1 ?_
          refine g_ld (env := fenv 8 L a cd) hn₇ g5 ?_
          refine l_item H₇.list (by omega) (refs_get hxc) ?_
          refine g_ld (env := fenv 8 L a cd) hn₇ g1 ?_
          refine g_ld (env := fenv 8 L a cd) hn₇ g4 ?_
          refine l_set (i := 0) H₇.list (by rw [refs_length]; omega) (by rw [refs_length]; omega) ?_
          intro h₈ hl₈ k₈
          rw [refs_set] at hl₈
          have H₈ : HeapIs h₈ l (X'.set 0 xc) := H₇.upd k₈ hl₈ fun q hq => by
            rcases List.mem_or_eq_of_mem_set hq with e | e
            · exact Or.inl e
            · rw [e]; exact Or.inl (List.mem_of_getElem? hxc)
          have hn₈ := ns_o hn₇ H₇.list k₈
          dsimp only
          refine wpAny_execs_cons ?_
          refine wpAny_Assign_Name ?_
          refine g_ld (env := fenv 8 L a cd) hn₈ g5 ?_
          refine g_st (env := fenv 8 L a cd) hn₈ ?_
          intro h₉ tk₁₅ hn₉ k₉
          have H₉ := H₈.ns hn₈ k₉
          dsimp only
          refine wpAny_execs_cons ?_
          refine wpAny_Assign_Name ?_
          refine wpAny_BinOp ?_
          refine wpAny_BinOp ?_
          refine r_int ?_
          intro t₈ tk₁₆
          refine g_ld (env := fenv 8 L a cd) hn₉ eq_up ?_
          refine i_mul (mulOk_left (by decide +kernel)) ?_
          intro t₉ tk₁₇
          refine r_int ?_
          intro t₁₀ tk₁₈
          refine i_add ?_
          intro t₁₁ tk₁₉
          rw [show (2 : Int) * ((cIdx Ent.lt X' : Nat) : Int) + 1 = ((2 * cIdx Ent.lt X' + 1 : Nat) : Int) from by omega]
          refine g_st (env := fenv 8 L a cd) hn₉ ?_
          intro h₁₀ tk₂₀ hn₁₀ k₁₀
          have H₁₀ := H₉.ns hn₉ k₁₀
          dsimp only
          refine wpAny_execs_nil ?_
          refine ⟨0, by decide, (hP2 _ _).mpr ⟨h₁₀, tk₂₀, _, _, _, _, rfl, hn₁₀, ⟨up2 g1, ⟨te', up2 g2⟩, ⟨ts', up2 g3⟩, ⟨tc', at2⟩, ⟨t₁₁, eq_up⟩, up2 g6⟩, H₁₀,
            ((k₇.trans (k₈.mono fun b hb => by simp at hb; simp [hb])).trans k₉.cons).trans k₁₀.cons, Or.inr ⟨rfl, h2, rfl, by omega, xc, hxc, by omega, rfl⟩⟩⟩
      · rw [if_neg (by simp; omega)]
        refine wpAny_execs_nil ?_
        exact (hP1 _ _).mpr ⟨rfl, h', tk', m', X', 0, 1, rfl, hn', ⟨hm1, ⟨te, hm2⟩, ⟨ts, hm3⟩, ⟨tp, hm4⟩, ⟨tc, hm5⟩, hm6⟩, H', k', by omega, rfl, su_sd1 _ (by omega) hx, Or.inl ⟨rfl, rfl⟩⟩
    · rw [if_neg (by simp; omega)]
      refine wpAny_execs_nil ?_
      have hlt : cIdx Ent.lt X < X.length := (List.getElem?_eq_some_iff.mp hxc).1
      exact (hP1 _ _).mpr ⟨rfl, h', tk', m', _, _, c', rfl, hn', ⟨hm1, ⟨te, hm2⟩, ⟨ts, hm3⟩, ⟨tp, hm4⟩, ⟨tc, hm5⟩, hm6⟩, H', k', hlt, by simp, su_sd _ hX h2 hx hxc, Or.inr ⟨xc, _, hxc, hc0, rfl, rfl⟩⟩
  · intro f s' hf
    obtain ⟨rfl, h₆, tk₆', m', X', p', c', rfl, hn', ⟨hm1, ⟨te, hm2⟩, ⟨ts, hm3⟩, ⟨tp, hm4⟩, ⟨tc, hm5⟩, hm6⟩, H', k', hlen, hlenX, hsd, hform⟩ := (hP1 _ _).mp hf
    clear hf
    dsimp only
    refine wpAny_execs_cons ?_
    refine wpAny_Assign_Subscript ?_
    refine g_ld (env := fenv 8 L a cd) hn' hm6 ?_
    refine g_ld (env := fenv 8 L a cd) hn' hm1 ?_
    refine g_ld (env := fenv 8 L a cd) hn' hm4 ?_
    refine l_set H'.list (by rw [refs_length]; omega) (by rw [refs_length]; omega) ?_
    intro h₇ hl₇ k₇
    rw [refs_set] at hl₇
    have hxe : IsEnt h₆ x.1 x.2 := (H₁.ents x (List.mem_of_getElem? hx)).at fun o e => k' _ o (by
      have e1 := (H₁.ents x (List.mem_of_getElem? hx)).ne_list H₁.list
      have e2 := (H₁.ents x (List.mem_of_getElem? hx)).ne_ns hn₁
      simp [e1, e2]) e
    have H₇ : HeapIs h₇ l (X'.set p' x) := H'.upd k₇ hl₇ fun q hq => by
      rcases List.mem_or_eq_of_mem_set hq with e | e
      · exact Or.inl e
      · rw [e]; exact Or.inr hxe
    have hn₇ := ns_o hn' H'.list k₇
    have kk₇ : KpO [l, L] h₁ h₇ := k'.trans (k₇.mono fun b hb => by simp at hb; simp [hb])
    have kB₇ : Kp B h₇ := KpO.base kB₁ kk₇ fun b hb => by simp at hb; rcases hb with rfl | rfl; exact hlB; exact hLB
    have hap' : Apart (X'.set p' x) := by
      rcases hform with ⟨rfl, rfl⟩ | ⟨xc, c, hxc, hc0, rfl, rfl⟩
      · rw [set_self hx]; exact hap
      · exact apart_swap hap hx hxc hc0
    dsimp only
    refine wpAny_execs_cons ?_
    refine wpAny_Expr ?_
    refine Call_Name3 ?_
    refine g_fn T kB₇ mem7 (by rfl) ?_
    refine c_fn3 T mem7 ?_
    refine g_ld (env := fenv 8 L a cd) hn₇ hm1 ?_
    refine g_ld (env := fenv 8 L a cd) hn₇ hm3 ?_
    refine g_ld (env := fenv 8 L a cd) hn₇ hm4 ?_
    refine ⟨⟨_, _, rfl, kB₇⟩, ?_⟩
    refine siftdown_spec T kB₇ (R'.less (by decide) (by decide)) H₇ (by simp; omega) (by simp; omega) hap' ?_
    intro h₈ tk₈' H₈ k₈
    dsimp only
    refine wpAny_execs_nil ?_
    rw [hsd] at H₈
    refine hq h₈ tk₈' H₈ ?_
    intro b o hb e
    have hb' : b ≠ l := by simpa using hb
    have hbL := (keep b o e).2
    exact k₈ b o hb (kk₇ b o (by simp [hb', hbL]) (k₁ b o e))

set_option maxHeartbeats 1000000 in
theorem siftup_max_spec {w : World} {A : Around} {E : Value → Shared → Prop} {s : Shared} {B h : Heap} {tk : Nat} {mg mb : Str → Option Value} {k b1 b3 l : Addr} {X : List Item} {t : Tok} {Q : Value → Shared → Prop}
    (T : Tops w B mg mb k b1 b3) (kB : Kp B h) (hlB : B.get? l = none) (R : Room A 5 18) (H : HeapIs h l X) (hX : X.length ≤ 3) (h1 : 1 ≤ X.length) (hap : Apart X)
    (hq : ∀ h' tk', HeapIs h' l (su lt' X) → KpO [l] h h' → Q .none (St s h' tk')) :
    wpAny (model Pg w) A (call (.ref (fa mg 10)) [.ref l, .int (0 : Int) t]) Q E (St s h tk) := by
  refine enter (i := 10) (d := 4) (u := 15) (binds := [("heap", .ref l), ("pos", .int (0 : Int) t)]) ["heap", "pos"] T kB mem10 R (fun pm cd doc => by rfl) rfl (by decide +kernel) (Kp.refl h) (Nat.le_refl _) ?_
  intro A' L a cd h₁ tk₁ R' hL F keep
  have k₁ : Kp h h₁ := fun b o e => (keep b o e).1
  have kB₁ : Kp B h₁ := kB.trans k₁
  have hLB : B.get? L = none := by rw [hL]; exact base_L kB
  have H₁ := H.keeps k₁
  have hn₁ := F.ns
  have hu : A'.units < cLine := by have := R'.units; omega
  obtain ⟨x, hx⟩ : ∃ x, X[0]? = some x := ⟨X[0], by simp⟩
  conv in (dOf 10).body => whnf
  refine wpAny_execs_cons ?_
  refine wpAny_Assign_Name ?_
  refine Call_Name1 ?_
  refine g_bi T kB₁ boot_len' ?_
  refine PySem.callWith_builtin1 ?_
  refine g_ld (env := fenv 10 L a cd) hn₁ (by rfl) ?_
  refine l_len H₁.list (by rw [refs_length]; omega) ?_
  intro t₁ tk₂
  rw [refs_length]
  refine g_st (env := fenv 10 L a cd) hn₁ ?_
  intro h₂ tk₃ hn₂ k₂
  have H₂ := H₁.ns hn₁ k₂
  dsimp only
  refine wpAny_execs_cons ?_
  refine wpAny_Assign_Name ?_
  refine g_ld (env := fenv 10 L a cd) hn₂ (by rfl) ?_
  refine g_st (env := fenv 10 L a cd) hn₂ ?_
  intro h₃ tk₄ hn₃ k₃
  have H₃ := H₂.ns hn₂ k₃
  dsimp only
  refine wpAny_execs_cons ?_
  refine wpAny_Assign_Name ?_
  refine Subscript_ ?_
  refine g_ld (env := fenv 10 L a cd) hn₃ (by rfl) ?_
  refine g_ld (env := fenv 10 L a cd) hn₃ (by rfl) ?_
  refine l_item (i := 0) H₃.list (by decide) (refs_get hx) ?_
  refine g_st (env := fenv 10 L a cd) hn₃ ?_
  intro h₄ tk₅ hn₄ k₄
  have H₄ := H₃.ns hn₃ k₄
  dsimp only
  refine wpAny_execs_cons ?_
  refine wpAny_Assign_Name ?_
  refine wpAny_BinOp ?_
  refine wpAny_BinOp ?_
  refine r_int ?_
  intro t₂ tk₆
  refine g_ld (env := fenv 10 L a cd) hn₄ (by rfl) ?_
  refine i_mul (mulOk_left (by decide +kernel)) ?_
  intro t₃ tk₇
  refine r_int ?_
  intro t₄ tk₈
  refine i_add ?_
  intro t₅ tk₉
  rw [show (2 : Int) * 0 + 1 = ((1 : Nat) : Int) from rfl]
  refine g_st (env := fenv 10 L a cd) hn₄ ?_
  intro h₅ tk₁₀ hn₅ k₅
  have H₅ := H₄.ns hn₄ k₅
  have kk₅ : KpO [l, L] h₁ h₅ := ((k₂.trans k₃).trans (k₄.trans k₅)).cons
  dsimp only
  refine wpAny_execs_cons ?_
  obtain ⟨P1, hP1⟩ : ∃ P : Flow → Shared → Prop, ∀ f s', P f s' ↔ (f = .next ∧ ∃ h' tk' m' X' p' c', s' = St s h' tk' ∧ h'.Ns L m' ∧ SuM l x.1 X.length p' c' m' ∧ HeapIs h' l X' ∧ KpO [l, L] h₁ h' ∧ p' < X.length ∧ X'.length = X.length ∧ sd lt' (X'.set p' x) p' = su lt' X ∧ (X' = X ∧ p' = 0 ∨ ∃ xc c, X[c]? = some xc ∧ c ≠ 0 ∧ p' = c ∧ X' = X.set 0 xc)) := ⟨_, fun _ _ => Iff.rfl⟩
  refine wpAny_mono (Q := P1) ?_ ?_ (fun _ _ e => e)
  · refine wpAny_While ?_
    obtain ⟨P2, hP2⟩ : ∃ P : Nat → Shared → Prop, ∀ n s', P n s' ↔ (∃ h' tk' m' X' p' c', s' = St s h' tk' ∧ h'.Ns L m' ∧ SuM l x.1 X.length p' c' m' ∧ HeapIs h' l X' ∧ KpO [l, L] h₁ h' ∧
      ((n = 1 ∧ p' = 0 ∧ c' = 1 ∧ X' = X) ∨ (n = 0 ∧ 2 ≤ X.length ∧ p' = cIdx lt' X ∧ 3 ≤ c' ∧ ∃ xc, X[cIdx lt' X]? = some xc ∧ cIdx lt' X ≠ 0 ∧ X' = X.set 0 xc))) := ⟨_, fun _ _ => Iff.rfl⟩
    refine codeAny_whileLoop P2 ?_ 1
      ((hP2 _ _).mpr ⟨h₅, tk₁₀, _, X, 0, 1, rfl, hn₅, ⟨by rfl, ⟨t₁, by rfl⟩, ⟨t, by rfl⟩, ⟨t, by rfl⟩, ⟨t₅, by rfl⟩, by rfl⟩, H₅, kk₅, Or.inl ⟨rfl, rfl, rfl, rfl⟩⟩)
    intro n s' hI
    obtain ⟨h', tk', m', X', p', c', rfl, hn', M', H', k', hcase⟩ := (hP2 _ _).mp hI
    clear hI
    obtain ⟨hm1, ⟨te, hm2⟩, ⟨ts, hm3⟩, ⟨tp, hm4⟩, ⟨tc, hm5⟩, hm6⟩ := M'
    refine wpAny_isTrue_Compare1 ?_
    refine g_ld (env := fenv 10 L a cd) hn' hm5 ?_
    refine g_ld (env := fenv 10 L a cd) hn' hm2 ?_
    refine i_lt ?_
    refine wpAny_truthy_bool ?_
    rcases hcase with ⟨rfl, rfl, rfl, rfl⟩ | ⟨rfl, h2, rfl, hc3, xc, hxc, hc0, rfl⟩
    · by_cases h2 : 2 ≤ X'.length
      · rw [if_pos (by simp; omega)]
        obtain ⟨y, hy⟩ : ∃ y, X'[1]? = some y := ⟨X'[1], by simp⟩
        refine wpAny_execs_cons ?_
        refine wpAny_Assign_Name ?_
        refine wpAny_BinOp ?_
        refine g_ld (env := fenv 10 L a cd) hn' hm5 ?_
        refine r_int ?_
        intro t₆ tk₁₁
        refine i_add ?_
        intro t₇ tk₁₂
        rw [show ((1 : Nat) : Int) + 1 = ((2 : Nat) : Int) from rfl]
        refine g_st (env := fenv 10 L a cd) hn' ?_
        intro h₆ tk₁₃ hn₆ k₆
        have H₆ := H'.ns hn' k₆
        dsimp only
        refine wpAny_execs_cons ?_
        obtain ⟨P3, hP3⟩ : ∃ P : Flow → Shared → Prop, ∀ f s', P f s' ↔ (f = .next ∧ ∃ h' tk' m'', s' = St s h' tk' ∧ h'.Ns L m'' ∧ SuM l x.1 X'.length 0 (cIdx lt' X') m'' ∧ HeapIs h' l X' ∧ KpO [l, L] h₁ h') := ⟨_, fun _ _ => Iff.rfl⟩
        refine wpAny_mono (Q := P3) ?_ ?_ (fun _ _ e => e)
        · refine wpAny_If ?_
          refine wpAny_isTrue_BoolOp ?_
          refine wpAny_allTrue_And_cons ?_
          refine wpAny_isTrue_Compare1 ?_
          refine g_ld (env := fenv 10 L a cd) hn₆ eq_up ?_
          refine g_ld (env := fenv 10 L a cd) hn₆ (ne_up hm2) ?_
          refine i_lt ?_
          refine wpAny_truthy_bool ?_
          by_cases h3 : X'.length = 3
          · rw [if_pos (by simp; omega)]
            obtain ⟨z, hz⟩ : ∃ z, X'[2]? = some z := ⟨X'[2], by simp⟩
            have hcx : cIdx lt' X' = if lt' y.2 z.2 then 1 else 2 := cIdx_3 h3 hy hz
            refine wpAny_allTrue_And_cons ?_
            refine wpAny_isTrue_Not ?_
            refine wpAny_isTrue_Compare1 ?_
            refine Subscript_ ?_
            refine g_ld (env := fenv 10 L a cd) hn₆ (ne_up hm1) ?_
            refine g_ld (env := fenv 10 L a cd) hn₆ eq_up ?_
            refine l_item (i := 2) H₆.list (by decide) (refs_get hz) ?_
            refine Subscript_ ?_
            refine g_ld (env := fenv 10 L a cd) hn₆ (ne_up hm1) ?_
            refine g_ld (env := fenv 10 L a cd) hn₆ (ne_up hm5) ?_
            refine l_item (i := 1) H₆.list (by decide) (refs_get hy) ?_
            refine tup_lt (H₆.ents z (List.mem_of_getElem? hz)) (H₆.ents y (List.mem_of_getElem? hy)) (hap 2 1 z y hz hy (by decide)) hu ?_
            rw [show z.2.lt y.2 = lt' y.2 z.2 from rfl]
            refine wpAny_truthy_bool ?_
            by_cases hlt : lt' y.2 z.2 = true
            · rw [hlt] at hcx ⊢
              rw [if_pos rfl] at hcx
              rw [if_neg (by simp)]
              rw [if_neg (by simp)]
              refine wpAny_execs_nil ?_
              refine (hP3 _ _).mpr ⟨rfl, h₆, _, _, rfl, hn₆, ⟨ne_up hm1, ⟨te, ne_up hm2⟩, ⟨ts, ne_up hm3⟩, ⟨tp, ne_up hm4⟩, ⟨tc, ?_⟩, ne_up hm6⟩, H₆, k'.trans k₆.cons⟩
              rw [hcx]; exact ne_up hm5
            · have hlt : lt' y.2 z.2 = false := by simpa using hlt
              rw [hlt] at hcx ⊢
              rw [if_neg (by simp)] at hcx
              rw [if_pos (by rfl)]
              refine wpAny_allTrue_And_nil ?_
              rw [if_pos rfl]
              refine wpAny_execs_cons ?_
              refine wpAny_Assign_Name ?_
              refine g_ld (env := fenv 10 L a cd) hn₆ eq_up ?_
              refine g_st (env := fenv 10 L a cd) hn₆ ?_
              intro h₇ tk₁₄ hn₇ k₇
              have H₇ := H₆.ns hn₆ k₇
              dsimp only
              refine wpAny_execs_nil ?_
              refine (hP3 _ _).mpr ⟨rfl, h₇, tk₁₄, _, rfl, hn₇, ⟨up2 hm1, ⟨te, up2 hm2⟩, ⟨ts, up2 hm3⟩, ⟨tp, up2 hm4⟩, ⟨t₇, ?_⟩, up2 hm6⟩, H₇, (k'.trans k₆.cons).trans k₇.cons⟩
              rw [hcx]; exact eq_up
          · have hl2 : X'.length = 2 := by omega
            have hcx : cIdx lt' X' = 1 := cIdx_2 hl2
            rw [if_neg (by simp; omega)]
            rw [if_neg (by simp)]
            refine wpAny_execs_nil ?_
            refine (hP3 _ _).mpr ⟨rfl, h₆, _, _, rfl, hn₆, ⟨ne_up hm1, ⟨te, ne_up hm2⟩, ⟨ts, ne_up hm3⟩, ⟨tp, ne_up hm4⟩, ⟨tc, ?_⟩, ne_up hm6⟩, H₆, k'.trans k₆.cons⟩
            rw [hcx]; exact ne_up hm5
        · intro f s' hf
          obtain ⟨rfl, h₇, tk₁₄, m₇, rfl, hn₇, ⟨g1, ⟨te', g2⟩, ⟨ts', g3⟩, ⟨tp', g4⟩, ⟨tc', g5⟩, g6⟩, H₇, k₇⟩ := (hP3 _ _).mp hf
          clear hf
          have hcr : 1 ≤ cIdx lt' X' ∧ cIdx lt' X' < X'.length ∧ cIdx lt' X' ≤ 2 := cIdx_range hX h2
          obtain ⟨xc, hxc⟩ : ∃ y, X'[cIdx lt' X']? = some y := ⟨X'[cIdx lt' X'], by simp [hcr.2.1]⟩
          dsimp only
          refine wpAny_execs_cons ?_
          refine wpAny_Assign_Subscript ?_
          refine Subscript_ ?_
          refine g_ld (env := fenv 10 L a cd) hn₇ g1 ?_
          refine g_ld (env := fenv 10 L a cd) hn₇ g5 ?_
          refine l_item H₇.list (by omega) (refs_get hxc) ?_
          refine g_ld (env := fenv 10 L a cd) hn₇ g1 ?_
          refine g_ld (env := fenv 10 L a cd) hn₇ g4 ?_
          refine l_set (i := 0) H₇.list (by rw [refs_length]; omega) (by rw [refs_length]; omega) ?_
          intro h₈ hl₈ k₈
          rw [refs_set] at hl₈
          have H₈ : HeapIs h₈ l (X'.set 0 xc) := H₇.upd k₈ hl₈ fun q hq => by
            rcases List.mem_or_eq_of_mem_set hq with e | e
            · exact Or.inl e
            · rw [e]; exact Or.inl (List.mem_of_getElem? hxc)
          have hn₈ := ns_o hn₇ H₇.list k₈
          dsimp only
          refine wpAny_execs_cons ?_
          refine wpAny_Assign_Name ?_
          refine g_ld (env := fenv 10 L a cd) hn₈ g5 ?_
          refine g_st (env := fenv 10 L a cd) hn₈ ?_
          intro h₉ tk₁₅ hn₉ k₉
          have H₉ := H₈.ns hn₈ k₉
          dsimp only
          refine wpAny_execs_cons ?_
          refine wpAny_Assign_Name ?_
          refine wpAny_BinOp ?_
          refine wpAny_BinOp ?_
          refine r_int ?_
          intro t₈ tk₁₆
          refine g_ld (env := fenv 10 L a cd) hn₉ eq_up ?_
          refine i_mul (mulOk_left (by decide +kernel)) ?_
          intro t₉ tk₁₇
          refine r_int ?_
          intro t₁₀ tk₁₈
          refine i_add ?_
          intro t₁₁ tk₁₉
          rw [show (2 : Int) * ((cIdx lt' X' : Nat) : Int) + 1 = ((2 * cIdx lt' X' + 1 : Nat) : Int) from by omega]
          refine g_st (env := fenv 10 L a cd) hn₉ ?_
          intro h₁₀ tk₂₀ hn₁₀ k₁₀
          have H₁₀ := H₉.ns hn₉ k₁₀
          dsimp only
          refine wpAny_execs_nil ?_
          refine ⟨0, by decide, (hP2 _ _).mpr ⟨h₁₀, tk₂₀, _, _, _, _, rfl, hn₁₀, ⟨up2 g1, ⟨te', up2 g2⟩, ⟨ts', up2 g3⟩, ⟨tc', at2⟩, ⟨t₁₁, eq_up⟩, up2 g6⟩, H₁₀,
            ((k₇.trans (k₈.mono fun b hb => by simp at hb; simp [hb])).trans k₉.cons).trans k₁₀.cons, Or.inr ⟨rfl, h2, rfl, by omega, xc, hxc, by omega, rfl⟩⟩⟩
      · rw [if_neg (by simp; omega)]
        refine wpAny_execs_nil ?_
        exact (hP1 _ _).mpr ⟨rfl, h', tk', m', X', 0, 1, rfl, hn', ⟨hm1, ⟨te, hm2⟩, ⟨ts, hm3⟩, ⟨tp, hm4⟩, ⟨tc, hm5⟩, hm6⟩, H', k', by omega, rfl, su_sd1 _ (by omega) hx, Or.inl ⟨rfl, rfl⟩⟩
    · rw [if_neg (by simp; omega)]
      refine wpAny_execs_nil ?_
      have hlt : cIdx lt' X < X.length := (List.getElem?_eq_some_iff.mp hxc).1
      exact (hP1 _ _).mpr ⟨rfl, h', tk', m', _, _, c', rfl, hn', ⟨hm1, ⟨te, hm2⟩, ⟨ts, hm3⟩, ⟨tp, hm4⟩, ⟨tc, hm5⟩, hm6⟩, H', k', hlt, by simp, su_sd _ hX h2 hx hxc, Or.inr ⟨xc, _, hxc, hc0, rfl, rfl⟩⟩
  · intro f s' hf
    obtain ⟨rfl, h₆, tk₆', m', X', p', c', rfl, hn', ⟨hm1, ⟨te, hm2⟩, ⟨ts, hm3⟩, ⟨tp, hm4⟩, ⟨tc, hm5⟩, hm6⟩, H', k', hlen, hlenX, hsd, hform⟩ := (hP1 _ _).mp hf
    clear hf
    dsimp only
    refine wpAny_execs_cons ?_
    refine wpAny_Assign_Subscript ?_
    refine g_ld (env := fenv 10 L a cd) hn' hm6 ?_
    refine g_ld (env := fenv 10 L a cd) hn' hm1 ?_
    refine g_ld (env := fenv 10 L a cd) hn' hm4 ?_
    refine l_set H'.list (by rw [refs_length]; omega) (by rw [refs_length]; omega) ?_
    intro h₇ hl₇ k₇
    rw [refs_set] at hl₇
    have hxe : IsEnt h₆ x.1 x.2 := (H₁.ents x (List.mem_of_getElem? hx)).at fun o e => k' _ o (by
      have e1 := (H₁.ents x (List.mem_of_getElem? hx)).ne_list H₁.list
      have e2 := (H₁.ents x (List.mem_of_getElem? hx)).ne_ns hn₁
      simp [e1, e2]) e
    have H₇ : HeapIs h₇ l (X'.set p' x) := H'.upd k₇ hl₇ fun q hq => by
      rcases List.mem_or_eq_of_mem_set hq with e | e
      · exact Or.inl e
      · rw [e]; exact Or.inr hxe
    have hn₇ := ns_o hn' H'.list k₇
    have kk₇ : KpO [l, L] h₁ h₇ := k'.trans (k₇.mono fun b hb => by simp at hb; simp [hb])
    have kB₇ : Kp B h₇ := KpO.base kB₁ kk₇ fun b hb => by simp at hb; rcases hb with rfl | rfl; exact hlB; exact hLB
    have hap' : Apart (X'.set p' x) := by
      rcases hform with ⟨rfl, rfl⟩ | ⟨xc, c, hxc, hc0, rfl, rfl⟩
      · rw [set_self hx]; exact hap
      · exact apart_swap hap hx hxc hc0
    dsimp only
    refine wpAny_execs_cons ?_
    refine wpAny_Expr ?_
    refine Call_Name3 ?_
    refine g_fn T kB₇ mem9 (by rfl) ?_
    refine c_fn3 T mem9 ?_
    refine g_ld (env := fenv 10 L a cd) hn₇ hm1 ?_
    refine g_ld (env := fenv 10 L a cd) hn₇ hm3 ?_
    refine g_ld (env := fenv 10 L a cd) hn₇ hm4 ?_
    refine ⟨⟨_, _, rfl, kB₇⟩, ?_⟩
    refine siftdown_max_spec T kB₇ (R'.less (by decide) (by decide)) H₇ (by simp; omega) (by simp; omega) hap' ?_
    intro h₈ tk₈' H₈ k₈
    dsimp only
    refine wpAny_execs_nil ?_
    rw [hsd] at H₈
    refine hq h₈ tk₈' H₈ ?_
    intro b o hb e
    have hb' : b ≠ l := by simpa using hb
    have hbL := (keep b o e).2
    exact k₈ b o hb (kk₇ b o (by simp [hb', hbL]) (k₁ b o e))
end Mine

namespace Mine
section
variable {w : World} {A : Around} {E : Value → Shared → Prop} {s : Shared} {h : Heap} {tk : Nat} {env : Env}

/-- a for over an iterator, the target one local name; its body always runs to its end -/
theorem r_for {x : Str} {px pos : Pos} {iter : Expr} {body : List Stmt} {Q : Flow → Shared → Prop}
    (hx : env.kindOf x = some .local) (hp : (env.scope.kind == .class || (env.scope.kind == .module && env.locals != env.globals)) = false)
    (hi : wpAny (model Pg w) A (eval iter env) (fun xv s₁ => wpAny (model Pg w) A (pyIter xv) (fun it s₂ => ∃ I fp wr N P It h₂ tk₂ m, ∃ J : Nat → Heap → (Str → Option Value) → Prop, it = .ref I ∧ s₂ = St s h₂ tk₂ ∧
      Walks Pg w A I fp wr N P It ∧ It 0 h₂ ∧ h₂.Ns env.locals m ∧ env.locals ∉ fp ∧ J 0 h₂ m ∧
      (∀ i h h' m, J i h m → KpO (env.locals :: wr) h h' → J i h' m) ∧
      (∀ i v h tk m (E' : Value → Shared → Prop), i < N → P i v → J i h m → h.Ns env.locals (fun y => if y = x then some v else m y) → It (i + 1) h →
        wpAny (model Pg w) A (execs body env) (fun f s' => f = .next ∧ ∃ h' tk' m', s' = St s h' tk' ∧ h'.Ns env.locals m' ∧ J (i + 1) h' m' ∧ ∀ b ∈ fp, ∀ o, h.get? b = some o → h'.get? b = some o) E' (St s h tk)) ∧
      (∀ h' tk' m', J N h' m' → h'.Ns env.locals m' → Q .next (St s h' tk'))) E s₁) E (St s h tk))
    (hs : ∀ x, foldedSetIterable iter env x = pure x := by intro _; rfl) :
    wpAny (model Pg w) A (exec (.For (.Name x px) iter body [] pos) env) Q E (St s h tk) := by
  refine wpAny_For (wpAny_mono hi (fun xv s₁ h₁ => wpAny_mono h₁ (fun it s₂ h₂ => ?_) fun _ _ e => e) fun _ _ e => e) hs
  obtain ⟨I, fp, wr, N, P, It, h₂, tk₂, m, J, rfl, rfl, W, h0, hn, hLf, hJ0, hfr, step, fin⟩ := h₂
  refine codeAny_forLoop_any (fun n s' => ∃ i h' tk' m', s' = St s h' tk' ∧ i ≤ N ∧ n = N - i ∧ It i h' ∧ h'.Ns env.locals m' ∧ J i h' m') ?_ N ⟨0, h₂, tk₂, m, rfl, Nat.zero_le _, rfl, h0, hn, hJ0⟩
  rintro n s' ⟨i, h', tk', m', rfl, hiN, rfl, hIt, hn', hJ⟩
  have hLw : env.locals ∉ wr := fun hm => hLf (W.sub _ hm)
  by_cases hlt : i < N
  · refine W.item i (St s h' tk') _ _ hlt hIt ?_
    intro v h₃ tk₃ hP hIt₃ k₃
    refine wpAny_of_eq (show letOwnedTupleGo (.Name x px) (.ref I) v = pure () from rfl) ?_
    refine wpAny_assign_Name (wpAny_storeName_local hx (hn'.at' (h' := h₃) fun o e => k₃ _ o hLw e) (fun h₄ hn₄ hs₄ => ?_) hp)
    have hIt₄ : It (i + 1) h₄ := W.frame _ _ _ hIt₃ fun b hb o e => (hs₄.2 b (fun q => hLf (q ▸ hb))).trans e
    have hJ₄ : J i h₄ m' := hfr _ _ _ _ hJ fun b o hb e => by
      have hb' : b ≠ env.locals ∧ b ∉ wr := by simpa using hb
      exact (hs₄.2 b hb'.1).trans (k₃ b o hb'.2 e)
    refine wpAny_mono (step i v h₄ _ m' _ hlt hP hJ₄ hn₄ hIt₄) ?_ (fun _ _ e => e)
    rintro f s₅ ⟨rfl, h₅, tk₅, m₅, rfl, hn₅, hJ₅, k₅⟩
    exact ⟨N - (i + 1), by omega, i + 1, h₅, tk₅, m₅, rfl, hlt, rfl, W.frame _ _ _ hIt₄ k₅, hn₅, hJ₅⟩
  · have hiN' : i = N := by omega
    subst hiN'
    refine W.done (St s h' tk') _ _ hIt ?_
    intro h₃ tk₃ k₃
    refine wpAny_execs_nil ?_
    refine fin h₃ tk₃ m' (hfr _ _ _ _ hJ fun b o hb e => ?_) (hn'.at' fun o e => k₃ _ o hLw e)
    have hb' : b ≠ env.locals ∧ b ∉ wr := by simpa using hb
    exact k₃ b o hb'.2 e
theorem fits_small {a : Int} (h1 : -(2 ^ 62) ≤ a) (h2 : a < 2 ^ 62) : Builtin.Range.rangeFitsLong a = true := by
  unfold Builtin.Range.rangeFitsLong
  simp only [Bool.and_eq_true, decide_eq_true_eq]
  omega
theorem asInt_int (a : Int) (t : Tok) : asInt? (.int a t) = pure (some a) := rfl
theorem wp_rangeFields {r : Addr} {a b c : Int} {t u v : Tok} {M : Model} {Q : Int × Int × Int → Shared → Prop} (hr : IsRange h r a b c t u v) (hq : Q (a, b, c) (St s h tk)) :
    wpAny M A (Builtin.Range.rangeFields (.ref r)) Q E (St s h tk) := by
  unfold Builtin.Range.rangeFields
  refine wpAny_bind (wpAny_field (s := St s h tk) hr rfl (x := .int a t) rfl ?_)
  refine wpAny_bind (wpAny_of_eq (asInt_int _ _) ?_)
  refine wpAny_bind (wpAny_field (s := St s h tk) hr rfl (x := .int b u) rfl ?_)
  refine wpAny_bind (wpAny_of_eq (asInt_int _ _) ?_)
  refine wpAny_bind (wpAny_field (s := St s h tk) hr rfl (x := .int c v) rfl ?_)
  refine wpAny_bind (wpAny_of_eq (asInt_int _ _) ?_)
  exact wpAny_pure hq
theorem call_rev_range {r : Addr} {n : Nat} {t u v : Tok} {Q : Value → Shared → Prop} (hr : IsRange h r 0 (n : Int) 1 t u v) (hn : n ≤ 1000)
    (hq : ∀ I h', Kp h h' → h.get? I = none → IsRangeIter h' I ((n : Int) - 1) (n : Int) (-1) → I < h'.objs.size → Q (.ref I) (St s h' tk)) :
    wpAny (model Pg w) A (call (.builtin "range.__reversed__") [.ref r]) Q E (St s h tk) := by
  have hT : (St s h tk).TypeIs (.ref r) "range" := ⟨_, hr, rfl⟩
  refine wpAny_call_entry PySem.F.slot_range_reversed hT PySem.F.entry_range_reversed ?_ (PySem.F.args_range_reversed_1 _)
  unfold Builtin.«range.__reversed__»
  refine wpAny_bind (wpAny_of_eq (a := Value.ref r) rfl ?_)
  refine wpAny_bind (wp_rangeFields hr ?_)
  have hsz : Builtin.Range.rangeSize 0 (n : Int) 1 = (n : Int) := by rw [rangeSize_one]; split <;> omega
  have f0 : Builtin.Range.rangeFitsLong 0 = true := fits_small (by omega) (by omega)
  have f1 : Builtin.Range.rangeFitsLong 1 = true := fits_small (by omega) (by omega)
  have f2 : Builtin.Range.rangeFitsLong (-1) = true := fits_small (by omega) (by omega)
  have f3 : Builtin.Range.rangeFitsLong (0 - 1) = true := fits_small (by omega) (by omega)
  have f4 : Builtin.Range.rangeFitsLong (n : Int) = true := fits_small (by omega) (by omega)
  have hsm : (Builtin.Range.rangeFitsLong 0 && Builtin.Range.rangeFitsLong (n : Int) && Builtin.Range.rangeFitsLong 1 && Builtin.Range.rangeFitsLong (-1) && Builtin.Range.rangeFitsLong (0 - 1) && Builtin.Range.rangeFitsLong (n : Int)) = true := by
    rw [f0, f4, f1, f2, f3]
    rfl
  dsimp only
  rw [hsz, hsm]
  simp only [Bool.not_true, Bool.false_eq_true, if_false, if_true]
  refine wpAny_bind ?_
  refine wpAny_newObj_type (s := St s h tk) ?_ (by size_fits)
  refine wpAny_pure ⟨_, rfl, ?_⟩
  rw [show (0 : Int) + ((n : Int) - 1) * 1 = (n : Int) - 1 from by omega]
  refine hq _ _ (Kp.push h _) (noAt h) (Heap.get?_push_size _ rfl) ?_
  rw [Heap.size_push]; exact Nat.lt_succ_self _
theorem sub_ri_reversed : isSubtype (.type "range_iterator") (.type "reversed") = pure false := by rw [isSubtype_type]; kernel_rfl
theorem code_rev_new {r : Addr} {n : Nat} {t u v : Tok} {Q₁ : Value → Shared → Prop} (hr : IsRange h r 0 (n : Int) 1 t u v) (hn : n ≤ 1000)
    (hq : ∀ I h', Kp h h' → h.get? I = none → IsRangeIter h' I ((n : Int) - 1) (n : Int) (-1) → I < h'.objs.size → Q₁ (.ref I) (St s h' tk)) :
    codeAny (model Pg w) A (.call (.builtin "reversed.__new__") ⟨[.type "reversed", .ref r], []⟩) (wants Q₁ E) (St s h tk) := by
  have hT : (St s h tk).TypeIs (.ref r) "range" := ⟨_, hr, rfl⟩
  refine codeAny_of_tree ?_
  show wpAny _ A.in1 (do checkBuiltinCall "reversed.__new__" ⟨[.type "reversed", .ref r], []⟩; again (.builtin "reversed.__new__" ⟨[.type "reversed", .ref r], []⟩)) _ _ _
  refine wpAny_bind (wpAny_of_eq (PySem.F.newCall_reversed_1 _) (wpAny_pure ⟨plainId_quiet PySem.F.plain_reversed_new _, codeAny_builtin PySem.F.entry_reversed_new ?_⟩))
  rw [Around.under_plainId PySem.F.plain_reversed_new _]
  unfold Builtin.«reversed.__new__»
  refine wpAny_bind (wpAny_of_eq (newClass_reversed _) ?_)
  dsimp only
  refine wpAny_bind (wpAny_of_eq (a := ()) (by first | rfl | kernel_rfl) ?_)
  refine wpAny_bind (wpAny_of_eq (a := ()) (by first | rfl | kernel_rfl) ?_)
  try dsimp only
  refine wpAny_bind (wpAny_specialOf hT PySem.F.slot_range_reversed.lookup ?_)
  try dsimp only
  refine wpAny_bind (wpAny_of_eq (PySem.F.slot_range_reversed.bind _) ?_)
  try dsimp only
  first
  | rw [if_neg (show ¬ ((Value.builtin "range.__reversed__" == Value.none) = true) from Bool.false_ne_true)]
  | (show wpAny _ _ (if (Value.builtin "range.__reversed__" == Value.none) = true then _ else _) _ _ _; rw [if_neg (show ¬ ((Value.builtin "range.__reversed__" == Value.none) = true) from Bool.false_ne_true)])
  refine wpAny_bind (wpAny_rule ?_)
  refine wpAny_bind (m := runValue (.call (.builtin "range.__reversed__") ⟨[.ref r], []⟩)) (show wpAny _ _ (call (.builtin "range.__reversed__") [.ref r]) _ _ _ from call_rev_range hr hn ?_)
  intro I h' k hI hit hlt
  first
  | exact wpAny_pure (hq I h' k hI hit hlt)
  | exact wpAny_bind (wpAny_pure (wpAny_pure (hq I h' k hI hit hlt)))
theorem c_reversed {r : Addr} {n : Nat} {t u v : Tok} {Q : Value → Shared → Prop} (hr : IsRange h r 0 (n : Int) 1 t u v) (hn : n ≤ 1000)
    (hq : ∀ I h', Kp h h' → h.get? I = none → IsRangeIter h' I ((n : Int) - 1) (n : Int) (-1) → I < h'.objs.size → Q (.ref I) (St s h' tk)) :
    wpAny (model Pg w) A (call (.type "reversed") [.ref r]) Q E (St s h tk) := by
  refine callType_other (U := "range_iterator") (Q₁ := fun obj s₁ => ∃ I h', obj = .ref I ∧ s₁ = St s h' tk ∧ Kp h h' ∧ h.get? I = none ∧ IsRangeIter h' I ((n : Int) - 1) (n : Int) (-1) ∧ I < h'.objs.size) (by decide +kernel) PySem.F.create_reversed ⟨_, _, PySem.F.mro_reversed⟩ PySem.F.made_reversed sub_ri_reversed (PySem.F.typeCall_reversed_1 _)
    (code_rev_new hr hn fun I h' k hI hit hlt => ⟨I, h', rfl, rfl, k, hI, hit, hlt⟩) ?_
  rintro obj s₁ ⟨I, h', rfl, rfl, k, hI, hit, hlt⟩
  exact ⟨⟨_, hit, rfl⟩, hq I h' k hI hit hlt⟩
end
end Mine

namespace Mine
theorem boot_rev : bootBuiltins "reversed" = some (.type "reversed") := boots.2.2.2.2.2.2.1
theorem boot_rng : bootBuiltins "range" = some (.type "range") := boot_range
theorem mem1 : dOf 1 ∈ allDefs := by simp [allDefs, ds1]
theorem mem2 : dOf 2 ∈ allDefs := by simp [allDefs, ds1]
theorem mem3 : dOf 3 ∈ allDefs := by simp [allDefs, ds1]
theorem mem4 : dOf 4 ∈ allDefs := by simp [allDefs, ds1]
theorem mem5 : dOf 5 ∈ allDefs := by simp [allDefs, ds1]
theorem mem6 : dOf 6 ∈ allDefs := by simp [allDefs, ds1]
theorem IsEnt.ns {h h' : Heap} {r L : Addr} {e : Ent} {m : Str → Option Value} (x : IsEnt h r e) (hn : h.Ns L m) (k : KpO [L] h h') : IsEnt h' r e := x.at fun o e => k _ o (by simpa using x.ne_ns hn) e
theorem c_range {w : World} {A : Around} {E : Value → Shared → Prop} {s : Shared} {h : Heap} {tk : Nat} {n : Int} {t : Tok} {Q : Value → Shared → Prop}
    (hq : ∀ r h' tk' t₁ t₂, Kp h h' → h.get? r = none → IsRange h' r 0 n 1 t₁ t t₂ → Q (.ref r) (St s h' tk')) : wpAny (model Pg w) A (call (.type "range") [.int n t]) Q E (St s h tk) :=
  call_range_1 (s := St s h tk) (hq _ _ _ _ _ (Kp.push h _) (noAt h) (IsRange.new ..))
theorem ns_ne_none {h : Heap} {L I : Addr} {m : Str → Option Value} (hn : h.Ns L m) (hI : h.get? I = none) : L ≠ I := fun e => by obtain ⟨o, es, ep, ho, _⟩ := hn; rw [e, hI] at ho; cases ho
theorem list_ne_none {h : Heap} {l I : Addr} {its : Array Value} (hn : h.PlainList l its) (hI : h.get? I = none) : l ≠ I := fun e => by obtain ⟨o, ho⟩ := hn; rw [e, hI] at ho; cases ho
theorem IsEnt.ne_none {h : Heap} {r I : Addr} {x : Ent} (hn : IsEnt h r x) (hI : h.get? I = none) : r ≠ I := fun e => by obtain ⟨_, _, _, o, ho, _⟩ := hn; rw [e, hI] at ho; cases ho
theorem none_of {h h' : Heap} {I : Addr} (k : Kp h h') (hI : h'.get? I = none) : h.get? I = none := by
  cases e : h.get? I with
  | none => rfl
  | some o => rw [k _ _ e] at hI; cases hI
theorem refs_append (X Y : List Item) : refs (X ++ Y) = refs X ++ refs Y := by simp [refs]

theorem su_mem {lt : Ent → Ent → Bool} {X : List Item} {p : Item} (hp : p ∈ su lt X) : p ∈ X := by
  match X with
  | [] => exact hp
  | [a] => exact hp
  | [a, b] =>
    simp only [su] at hp
    split at hp <;> simp at hp ⊢ <;> rcases hp with h | h <;> simp [h]
  | [a, b, c] =>
    simp only [su] at hp
    split at hp <;> split at hp <;> simp at hp ⊢ <;> rcases hp with h | h | h <;> simp [h]
  | _ :: _ :: _ :: _ :: _ => exact hp

set_option maxHeartbeats 1000000 in
theorem heapreplace_spec {w : World} {A : Around} {E : Value → Shared → Prop} {s : Shared} {B h : Heap} {tk : Nat} {mg mb : Str → Option Value} {k b1 b3 l : Addr} {x it : Item} {Y : List Item} {Q : Value → Shared → Prop}
    (T : Tops w B mg mb k b1 b3) (kB : Kp B h) (hlB : B.get? l = none) (R : Room A 6 21) (H : HeapIs h l (x :: Y)) (hY : Y.length ≤ 2) (hit : IsEnt h it.1 it.2) (hap : Apart (it :: Y))
    (hq : ∀ h' tk', HeapIs h' l (su Ent.lt (it :: Y)) → KpO [l] h h' → Q (.ref x.1) (St s h' tk')) :
    wpAny (model Pg w) A (call (.ref (fa mg 2)) [.ref l, .ref it.1]) Q E (St s h tk) := by
  refine enter (i := 2) (d := 5) (u := 18) (binds := [("heap", .ref l), ("item", .ref it.1)]) ["heap", "item"] T kB mem2 R (fun pm cd doc => by rfl) rfl (by decide +kernel) (Kp.refl h) (Nat.le_refl _) ?_
  intro A' L a cd h₁ tk₁ R' hL F keep
  have k₁ : Kp h h₁ := fun b o e => (keep b o e).1
  have kB₁ : Kp B h₁ := kB.trans k₁
  have hLB : B.get? L = none := by rw [hL]; exact base_L kB
  have H₁ := H.keeps k₁
  have hn₁ := F.ns
  have hit₁ := hit.keeps k₁
  conv in (dOf 2).body => whnf
  refine wpAny_execs_cons ?_
  refine wpAny_Assign_Name ?_
  refine Subscript_ ?_
  refine g_ld (env := fenv 2 L a cd) hn₁ (by rfl) ?_
  refine r_int ?_
  intro t₁ tk₂
  refine l_item (i := 0) (x := .ref x.1) H₁.list (by decide) rfl ?_
  refine g_st (env := fenv 2 L a cd) hn₁ ?_
  intro h₂ tk₃ hn₂ k₂
  have H₂ := H₁.ns hn₁ k₂
  have hit₂ : IsEnt h₂ it.1 it.2 := hit₁.ns hn₁ k₂
  dsimp only
  refine wpAny_execs_cons ?_
  refine wpAny_Assign_Subscript ?_
  refine g_ld (env := fenv 2 L a cd) hn₂ (by rfl) ?_
  refine g_ld (env := fenv 2 L a cd) hn₂ (by rfl) ?_
  refine r_int ?_
  intro t₂ tk₄
  refine l_set (i := 0) H₂.list (by rw [refs_length]; simp) (by rw [refs_length]; simp; omega) ?_
  intro h₃ hl₃ k₃
  rw [refs_set] at hl₃
  have H₃ : HeapIs h₃ l (it :: Y) := H₂.upd k₃ hl₃ fun q hq => by
    rcases List.mem_cons.mp hq with e | e
    · rw [e]; exact Or.inr hit₂
    · exact Or.inl (List.mem_cons_of_mem _ e)
  have hn₃ := ns_o hn₂ H₂.list k₃
  have kk₃ : KpO [l, L] h₁ h₃ := (KpO.cons k₂).trans (k₃.mono fun b hb => by simp at hb; simp [hb])
  have kB₃ : Kp B h₃ := KpO.base kB₁ kk₃ fun b hb => by simp at hb; rcases hb with rfl | rfl; exact hlB; exact hLB
  dsimp only
  refine wpAny_execs_cons ?_
  refine wpAny_Expr ?_
  refine Call_Name2 ?_
  refine g_fn T kB₃ mem8 (by rfl) ?_
  refine c_fn2 T mem8 ?_
  refine g_ld (env := fenv 2 L a cd) hn₃ (by rfl) ?_
  refine r_int ?_
  intro t₃ tk₅
  refine ⟨⟨_, _, rfl, kB₃⟩, ?_⟩
  refine siftup_spec T kB₃ hlB (R'.less (by decide) (by decide)) H₃ (by simp; omega) (by simp) hap ?_
  intro h₄ tk₆ H₄ k₄
  have hn₄ := ns_o hn₃ H₃.list k₄
  dsimp only
  refine wpAny_execs_cons ?_
  refine wpAny_Return_some ?_
  refine g_ld (env := fenv 2 L a cd) hn₄ (by rfl) ?_
  refine hq h₄ tk₆ H₄ ?_
  intro b o hb e
  have hb' : b ≠ l := by simpa using hb
  have hbL := (keep b o e).2
  exact k₄ b o hb (kk₃ b o (by simp [hb', hbL]) (k₁ b o e))

set_option maxHeartbeats 1000000 in
theorem heappop_spec {w : World} {A : Around} {E : Value → Shared → Prop} {s : Shared} {B h : Heap} {tk : Nat} {mg mb : Str → Option Value} {k b1 b3 l : Addr} {X : List Item} {z : Item} {Q : Value → Shared → Prop}
    (T : Tops w B mg mb k b1 b3) (kB : Kp B h) (hlB : B.get? l = none) (R : Room A 6 21) (H : HeapIs h l (X ++ [z])) (hX : X.length ≤ 2) (hap : ∀ x Y, X = x :: Y → Apart (z :: Y))
    (hq : ∀ v h' tk' X', HeapIs h' l X' → (X = [] → X' = []) → (∀ x Y, X = x :: Y → X' = su Ent.lt (z :: Y)) → KpO [l] h h' → Q v (St s h' tk')) :
    wpAny (model Pg w) A (call (.ref (fa mg 1)) [.ref l]) Q E (St s h tk) := by
  refine enter (i := 1) (d := 5) (u := 18) (binds := [("heap", .ref l)]) ["heap"] T kB mem1 R (fun pm cd doc => by rfl) rfl (by decide +kernel) (Kp.refl h) (Nat.le_refl _) ?_
  intro A' L a cd h₁ tk₁ R' hL F keep
  have k₁ : Kp h h₁ := fun b o e => (keep b o e).1
  have kB₁ : Kp B h₁ := kB.trans k₁
  have hLB : B.get? L = none := by rw [hL]; exact base_L kB
  have H₁ := H.keeps k₁
  have hn₁ := F.ns
  have hz₁ := H₁.ents z (by simp)
  conv in (dOf 1).body => whnf
  refine wpAny_execs_cons ?_
  refine wpAny_Assign_Name ?_
  refine Call_method0 (by rfl) (by rfl) ?_
  refine g_ld (env := fenv 1 L a cd) hn₁ (by rfl) ?_
  refine ⟨"list", _, PySem.F.plainAttrs_list, PySem.F.slot_list_pop, PySem.F.type_list_pop, H₁.list.isList.typeIs (s := St s h₁ tk₁), PlainList.noDict H₁.list, ?_⟩
  refine l_pop (vs := refs X) (y := .ref z.1) (by have := H₁.list; rw [refs_append] at this; exact this) (by rw [refs_length]; omega) ?_
  intro h₂ hl₂ k₂
  have H₂ : HeapIs h₂ l X := H₁.upd k₂ hl₂ fun q hq => Or.inl (List.mem_append_left _ hq)
  have hz₂ : IsEnt h₂ z.1 z.2 := hz₁.at fun o e => k₂ _ o (by simpa using hz₁.ne_list H₁.list) e
  have hn₂ := ns_o hn₁ H₁.list k₂
  refine g_st (env := fenv 1 L a cd) hn₂ ?_
  intro h₃ tk₃ hn₃ k₃
  have H₃ := H₂.ns hn₂ k₃
  have hz₃ : IsEnt h₃ z.1 z.2 := hz₂.ns hn₂ k₃
  have kk₃ : KpO [l, L] h₁ h₃ := (k₂.mono fun b hb => by simp at hb; simp [hb]).trans (KpO.cons k₃)
  dsimp only
  refine wpAny_execs_cons ?_
  refine wpAny_If ?_
  refine wpAny_isTrue_value ?_
  refine g_ld (env := fenv 1 L a cd) hn₃ (by rfl) ?_
  refine l_truthy H₃.list (by rw [refs_length]; omega) ?_
  intro tk₄
  cases X with
  | nil =>
    rw [if_neg (by simp [refs])]
    refine wpAny_execs_nil ?_
    dsimp only
    refine wpAny_execs_cons ?_
    refine wpAny_Return_some ?_
    refine g_ld (env := fenv 1 L a cd) hn₃ (by rfl) ?_
    refine hq _ h₃ tk₄ [] H₃ (fun _ => rfl) (fun x Y e => nomatch e) ?_
    intro b o hb e
    have hb' : b ≠ l := by simpa using hb
    have hbL := (keep b o e).2
    exact kk₃ b o (by simp [hb', hbL]) (k₁ b o e)
  | cons x Y =>
    rw [if_pos (by simp [refs])]
    refine wpAny_execs_cons ?_
    refine wpAny_Assign_Name ?_
    refine Subscript_ ?_
    refine g_ld (env := fenv 1 L a cd) hn₃ (by rfl) ?_
    refine r_int ?_
    intro t₁ tk₅
    refine l_item (i := 0) (x := .ref x.1) H₃.list (by decide) rfl ?_
    refine g_st (env := fenv 1 L a cd) hn₃ ?_
    intro h₄ tk₆ hn₄ k₄
    have H₄ := H₃.ns hn₃ k₄
    have hz₄ : IsEnt h₄ z.1 z.2 := hz₃.ns hn₃ k₄
    dsimp only
    refine wpAny_execs_cons ?_
    refine wpAny_Assign_Subscript ?_
    refine g_ld (env := fenv 1 L a cd) hn₄ (by rfl) ?_
    refine g_ld (env := fenv 1 L a cd) hn₄ (by rfl) ?_
    refine r_int ?_
    intro t₂ tk₇
    refine l_set (i := 0) H₄.list (by rw [refs_length]; simp) (by rw [refs_length]; omega) ?_
    intro h₅ hl₅ k₅
    rw [refs_set] at hl₅
    have H₅ : HeapIs h₅ l (z :: Y) := H₄.upd k₅ hl₅ fun q hq => by
      rcases List.mem_cons.mp hq with e | e
      · rw [e]; exact Or.inr hz₄
      · exact Or.inl (List.mem_cons_of_mem _ e)
    have hn₅ := ns_o hn₄ H₄.list k₅
    have kk₅ : KpO [l, L] h₁ h₅ := (kk₃.trans (KpO.cons k₄)).trans (k₅.mono fun b hb => by simp at hb; simp [hb])
    have kB₅ : Kp B h₅ := KpO.base kB₁ kk₅ fun b hb => by simp at hb; rcases hb with rfl | rfl; exact hlB; exact hLB
    dsimp only
    refine wpAny_execs_cons ?_
    refine wpAny_Expr ?_
    refine Call_Name2 ?_
    refine g_fn T kB₅ mem8 (by rfl) ?_
    refine c_fn2 T mem8 ?_
    refine g_ld (env := fenv 1 L a cd) hn₅ (by rfl) ?_
    refine r_int ?_
    intro t₃ tk₈
    refine ⟨⟨_, _, rfl, kB₅⟩, ?_⟩
    refine siftup_spec T kB₅ hlB (R'.less (by decide) (by decide)) H₅ (by simp at hX ⊢; omega) (by simp) (hap x Y rfl) ?_
    intro h₆ tk₉ H₆ k₆
    have hn₆ := ns_o hn₅ H₅.list k₆
    dsimp only
    refine wpAny_execs_cons ?_
    refine wpAny_Return_some ?_
    refine g_ld (env := fenv 1 L a cd) hn₆ (by rfl) ?_
    refine hq _ h₆ tk₉ _ H₆ (fun e => nomatch e) (fun x' Y' e => by cases e; rfl) ?_
    intro b o hb e
    have hb' : b ≠ l := by simpa using hb
    have hbL := (keep b o e).2
    exact k₆ b o hb (kk₅ b o (by simp [hb', hbL]) (k₁ b o e))

set_option maxHeartbeats 1000000 in
theorem heapify_spec {w : World} {A : Around} {E : Value → Shared → Prop} {s : Shared} {B h : Heap} {tk : Nat} {mg mb : Str → Option Value} {k b1 b3 l : Addr} {X : List Item} {Q : Value → Shared → Prop}
    (T : Tops w B mg mb k b1 b3) (kB : Kp B h) (hlB : B.get? l = none) (R : Room A 6 21) (H : HeapIs h l X) (hX : X.length = 3) (hap : Apart X)
    (hq : ∀ h' tk', HeapIs h' l (su Ent.lt X) → KpO [l] h h' → Q .none (St s h' tk')) :
    wpAny (model Pg w) A (call (.ref (fa mg 3)) [.ref l]) Q E (St s h tk) := by
  refine enter (i := 3) (d := 5) (u := 18) (binds := [("x", .ref l)]) ["x"] T kB mem3 R (fun pm cd doc => by rfl) rfl (by decide +kernel) (Kp.refl h) (Nat.le_refl _) ?_
  intro A' L a cd h₁ tk₁ R' hL F keep
  have k₁ : Kp h h₁ := fun b o e => (keep b o e).1
  have kB₁ : Kp B h₁ := kB.trans k₁
  have hLB : B.get? L = none := by rw [hL]; exact base_L kB
  have H₁ := H.keeps k₁
  have hn₁ := F.ns
  conv in (dOf 3).body => whnf
  refine wpAny_execs_cons ?_
  refine wpAny_Assign_Name ?_
  refine Call_Name1 ?_
  refine g_bi T kB₁ boot_len' ?_
  refine PySem.callWith_builtin1 ?_
  refine g_ld (env := fenv 3 L a cd) hn₁ (by rfl) ?_
  refine l_len H₁.list (by rw [refs_length]; omega) ?_
  intro t₁ tk₂
  rw [refs_length, hX]
  refine g_st (env := fenv 3 L a cd) hn₁ ?_
  intro h₂ tk₃ hn₂ k₂
  have H₂ := H₁.ns hn₁ k₂
  have kk₂ : KpO [l, L] h₁ h₂ := KpO.cons k₂
  have kB₂ : Kp B h₂ := KpO.base kB₁ kk₂ fun b hb => by simp at hb; rcases hb with rfl | rfl; exact hlB; exact hLB
  dsimp only
  refine wpAny_execs_cons ?_
  refine r_for (env := fenv 3 L a cd) (by rfl) (by rfl) ?_
  refine Call_Name1 ?_
  refine g_bi T kB₂ boot_rev ?_
  refine PySem.callWith_type1 ?_
  refine Call_Name1 ?_
  refine g_bi T kB₂ boot_rng ?_
  refine PySem.callWith_type1 ?_
  refine wpAny_BinOp ?_
  refine g_ld (env := fenv 3 L a cd) hn₂ (by rfl) ?_
  refine r_int ?_
  intro t₂ tk₄
  refine i_fdiv (by decide) (PyProof.noPylong_small (by decide)) ?_
  intro t₃ tk₅
  rw [show Int.fdiv ((3 : Nat) : Int) 2 = ((1 : Nat) : Int) from by decide]
  refine c_range ?_
  intro rr h₂' tk₅' tr₁ tr₂ kr hrr hrange
  refine c_reversed (n := 1) hrange (by decide) ?_
  intro I h₃ k₃ hI hit hlt
  have k₂₃ : Kp h₂ h₃ := kr.trans k₃
  have hI₂ : h₂.get? I = none := none_of kr hI
  refine wpAny_pyIter_rangeiter (s := St s h₃ _) hit ?_
  have H₃ := H₂.keeps k₂₃
  have hn₃ := hn₂.keeps k₂₃
  have hIL : L ≠ I := ns_ne_none hn₂ hI₂
  have hIl : l ≠ I := list_ne_none H₂.list hI₂
  have hIe : ∀ p ∈ X, p.1 ≠ I := fun p hp => (H₂.ents p hp).ne_none hI₂
  have W := Walks.range (prog := Pg) (w := w) R'.handled I 0 (-1) 1
  refine ⟨I, [I], [I], 1, _, _, h₃, _, _, fun i hh mm => hh.PlainList l (refs (if i = 0 then X else su Ent.lt X)).toArray ∧ (∀ p ∈ (if i = 0 then X else su Ent.lt X), IsEnt hh p.1 p.2 ∧ p.1 ≠ I ∧ p.1 ≠ L) ∧ mm "x" = some (Value.ref l) ∧ KpO [I, l, L] h₂ hh, rfl, rfl, W, by simpa using hit, hn₃, (fun hm => hIL (List.mem_singleton.mp hm)), ?_, ?_, ?_, ?_⟩
  · show h₃.PlainList l (refs X).toArray ∧ _
    exact ⟨H₃.list, fun p hp => ⟨H₃.ents p hp, hIe p hp, (H₃.ents p hp).ne_ns hn₃⟩, by rfl, k₂₃.o _⟩
  · rintro i hh hh' mm ⟨hl, he, hx, hk⟩ kk
    have kk' : KpO [L, I] hh hh' := kk
    have hlL : l ≠ L := list_ne_ns H₃.list hn₃
    refine ⟨hl.at fun o e => kk' l o (by simp [hlL, hIl]) e, fun p hp => ⟨(he p hp).1.at fun o e => kk' _ o (by simp [(he p hp).2.1, (he p hp).2.2]) e, (he p hp).2⟩, hx, hk.trans (kk'.mono fun b hb => by simp at hb ⊢; rcases hb with rfl | rfl <;> simp)⟩
  · rintro i v hh tkk mm E' hi ⟨tv, rfl⟩ ⟨hl, he, hx, hk⟩ hn hIt
    have hi0 : i = 0 := by omega
    subst hi0
    rw [if_pos rfl] at hl he
    have HH : HeapIs hh l X := ⟨hl, fun p hp => (he p hp).1⟩
    have kBB : Kp B hh := KpO.base kB₂ hk fun b hb => by
      simp at hb
      rcases hb with rfl | rfl | rfl
      · cases e : B.get? b with
        | none => rfl
        | some o => rw [kB₂ _ _ e] at hI₂; cases hI₂
      · exact hlB
      · exact hLB
    refine wpAny_execs_cons ?_
    refine wpAny_Expr ?_
    refine Call_Name2 ?_
    refine g_fn T kBB mem8 (by rfl) ?_
    refine c_fn2 T mem8 ?_
    refine g_ld (env := fenv 3 L a cd) hn (ne_up hx) ?_
    refine g_ld (env := fenv 3 L a cd) hn eq_up ?_
    refine ⟨⟨_, _, rfl, kBB⟩, ?_⟩
    rw [show (0 : Int) + ((0 : Nat) : Int) * (-1) = 0 from by decide]
    refine siftup_spec T kBB hlB (R'.less (by decide) (by decide)) HH (by omega) (by omega) hap ?_
    intro h₄ tk₆ H₄ k₄
    dsimp only
    refine wpAny_execs_nil ?_
    have hn₄ := ns_o hn HH.list k₄
    refine ⟨rfl, h₄, tk₆, _, rfl, hn₄, ⟨?_, ?_, ne_up hx, hk.trans (k₄.mono fun b hb => by simp at hb; simp [hb])⟩, ?_⟩
    · rw [if_neg (by decide)]; exact H₄.list
    · rw [if_neg (by decide)]
      intro p hp
      have hpX : p ∈ X := su_mem hp
      exact ⟨H₄.ents p hp, (he p hpX).2⟩
    · intro b hb o e
      simp at hb
      subst hb
      exact k₄ b o (by simp; exact hIl.symm) e
  · rintro h₄ tk₆ mm ⟨hl, he, hx, hk⟩ hn
    rw [if_neg (by decide)] at hl he
    dsimp only
    refine wpAny_execs_nil ?_
    refine hq h₄ tk₆ ⟨hl, fun p hp => (he p hp).1⟩ ?_
    intro b o hb e
    have hb' : b ≠ l := by simpa using hb
    have hbL := (keep b o e).2
    have e₂ := kk₂ b o (by simp [hb', hbL]) (k₁ b o e)
    have hbI : b ≠ I := fun q => by rw [q, hI₂] at e₂; cases e₂
    exact hk b o (by simp [hb', hbL, hbI]) e₂

set_option maxHeartbeats 1000000 in
theorem heapreplace_max_spec {w : World} {A : Around} {E : Value → Shared → Prop} {s : Shared} {B h : Heap} {tk : Nat} {mg mb : Str → Option Value} {k b1 b3 l : Addr} {x it : Item} {Y : List Item} {Q : Value → Shared → Prop}
    (T : Tops w B mg mb k b1 b3) (kB : Kp B h) (hlB : B.get? l = none) (R : Room A 6 21) (H : HeapIs h l (x :: Y)) (hY : Y.length ≤ 2) (hit : IsEnt h it.1 it.2) (hap : Apart (it :: Y))
    (hq : ∀ h' tk', HeapIs h' l (su lt' (it :: Y)) → KpO [l] h h' → Q (.ref x.1) (St s h' tk')) :
    wpAny (model Pg w) A (call (.ref (fa mg 5)) [.ref l, .ref it.1]) Q E (St s h tk) := by
  refine enter (i := 5) (d := 5) (u := 18) (binds := [("heap", .ref l), ("item", .ref it.1)]) ["heap", "item"] T kB mem5 R (fun pm cd doc => by rfl) rfl (by decide +kernel) (Kp.refl h) (Nat.le_refl _) ?_
  intro A' L a cd h₁ tk₁ R' hL F keep
  have k₁ : Kp h h₁ := fun b o e => (keep b o e).1
  have kB₁ : Kp B h₁ := kB.trans k₁
  have hLB : B.get? L = none := by rw [hL]; exact base_L kB
  have H₁ := H.keeps k₁
  have hn₁ := F.ns
  have hit₁ := hit.keeps k₁
  conv in (dOf 5).body => whnf
  refine wpAny_execs_cons ?_
  refine wpAny_Assign_Name ?_
  refine Subscript_ ?_
  refine g_ld (env := fenv 5 L a cd) hn₁ (by rfl) ?_
  refine r_int ?_
  intro t₁ tk₂
  refine l_item (i := 0) (x := .ref x.1) H₁.list (by decide) rfl ?_
  refine g_st (env := fenv 5 L a cd) hn₁ ?_
  intro h₂ tk₃ hn₂ k₂
  have H₂ := H₁.ns hn₁ k₂
  have hit₂ : IsEnt h₂ it.1 it.2 := hit₁.ns hn₁ k₂
  dsimp only
  refine wpAny_execs_cons ?_
  refine wpAny_Assign_Subscript ?_
  refine g_ld (env := fenv 5 L a cd) hn₂ (by rfl) ?_
  refine g_ld (env := fenv 5 L a cd) hn₂ (by rfl) ?_
  refine r_int ?_
  intro t₂ tk₄
  refine l_set (i := 0) H₂.list (by rw [refs_length]; simp) (by rw [refs_length]; simp; omega) ?_
  intro h₃ hl₃ k₃
  rw [refs_set] at hl₃
  have H₃ : HeapIs h₃ l (it :: Y) := H₂.upd k₃ hl₃ fun q hq => by
    rcases List.mem_cons.mp hq with e | e
    · rw [e]; exact Or.inr hit₂
    · exact Or.inl (List.mem_cons_of_mem _ e)
  have hn₃ := ns_o hn₂ H₂.list k₃
  have kk₃ : KpO [l, L] h₁ h₃ := (KpO.cons k₂).trans (k₃.mono fun b hb => by simp at hb; simp [hb])
  have kB₃ : Kp B h₃ := KpO.base kB₁ kk₃ fun b hb => by simp at hb; rcases hb with rfl | rfl; exact hlB; exact hLB
  dsimp only
  refine wpAny_execs_cons ?_
  refine wpAny_Expr ?_
  refine Call_Name2 ?_
  refine g_fn T kB₃ mem10 (by rfl) ?_
  refine c_fn2 T mem10 ?_
  refine g_ld (env := fenv 5 L a cd) hn₃ (by rfl) ?_
  refine r_int ?_
  intro t₃ tk₅
  refine ⟨⟨_, _, rfl, kB₃⟩, ?_⟩
  refine siftup_max_spec T kB₃ hlB (R'.less (by decide) (by decide)) H₃ (by simp; omega) (by simp) hap ?_
  intro h₄ tk₆ H₄ k₄
  have hn₄ := ns_o hn₃ H₃.list k₄
  dsimp only
  refine wpAny_execs_cons ?_
  refine wpAny_Return_some ?_
  refine g_ld (env := fenv 5 L a cd) hn₄ (by rfl) ?_
  refine hq h₄ tk₆ H₄ ?_
  intro b o hb e
  have hb' : b ≠ l := by simpa using hb
  have hbL := (keep b o e).2
  exact k₄ b o hb (kk₃ b o (by simp [hb', hbL]) (k₁ b o e))

set_option maxHeartbeats 1000000 in
theorem heappop_max_spec {w : World} {A : Around} {E : Value → Shared → Prop} {s : Shared} {B h : Heap} {tk : Nat} {mg mb : Str → Option Value} {k b1 b3 l : Addr} {X : List Item} {z : Item} {Q : Value → Shared → Prop}
    (T : Tops w B mg mb k b1 b3) (kB : Kp B h) (hlB : B.get? l = none) (R : Room A 6 21) (H : HeapIs h l (X ++ [z])) (hX : X.length ≤ 2) (hap : ∀ x Y, X = x :: Y → Apart (z :: Y))
    (hq : ∀ v h' tk' X', HeapIs h' l X' → (X = [] → X' = []) → (∀ x Y, X = x :: Y → X' = su lt' (z :: Y)) → KpO [l] h h' → Q v (St s h' tk')) :
    wpAny (model Pg w) A (call (.ref (fa mg 4)) [.ref l]) Q E (St s h tk) := by
  refine enter (i := 4) (d := 5) (u := 18) (binds := [("heap", .ref l)]) ["heap"] T kB mem4 R (fun pm cd doc => by rfl) rfl (by decide +kernel) (Kp.refl h) (Nat.le_refl _) ?_
  intro A' L a cd h₁ tk₁ R' hL F keep
  have k₁ : Kp h h₁ := fun b o e => (keep b o e).1
  have kB₁ : Kp B h₁ := kB.trans k₁
  have hLB : B.get? L = none := by rw [hL]; exact base_L kB
  have H₁ := H.keeps k₁
  have hn₁ := F.ns
  have hz₁ := H₁.ents z (by simp)
  conv in (dOf 4).body => whnf
  refine wpAny_execs_cons ?_
  refine wpAny_Assign_Name ?_
  refine Call_method0 (by rfl) (by rfl) ?_
  refine g_ld (env := fenv 4 L a cd) hn₁ (by rfl) ?_
  refine ⟨"list", _, PySem.F.plainAttrs_list, PySem.F.slot_list_pop, PySem.F.type_list_pop, H₁.list.isList.typeIs (s := St s h₁ tk₁), PlainList.noDict H₁.list, ?_⟩
  refine l_pop (vs := refs X) (y := .ref z.1) (by have := H₁.list; rw [refs_append] at this; exact this) (by rw [refs_length]; omega) ?_
  intro h₂ hl₂ k₂
  have H₂ : HeapIs h₂ l X := H₁.upd k₂ hl₂ fun q hq => Or.inl (List.mem_append_left _ hq)
  have hz₂ : IsEnt h₂ z.1 z.2 := hz₁.at fun o e => k₂ _ o (by simpa using hz₁.ne_list H₁.list) e
  have hn₂ := ns_o hn₁ H₁.list k₂
  refine g_st (env := fenv 4 L a cd) hn₂ ?_
  intro h₃ tk₃ hn₃ k₃
  have H₃ := H₂.ns hn₂ k₃
  have hz₃ : IsEnt h₃ z.1 z.2 := hz₂.ns hn₂ k₃
  have kk₃ : KpO [l, L] h₁ h₃ := (k₂.mono fun b hb => by simp at hb; simp [hb]).trans (KpO.cons k₃)
  dsimp only
  refine wpAny_execs_cons ?_
  refine wpAny_If ?_
  refine wpAny_isTrue_value ?_
  refine g_ld (env := fenv 4 L a cd) hn₃ (by rfl) ?_
  refine l_truthy H₃.list (by rw [refs_length]; omega) ?_
  intro tk₄
  cases X with
  | nil =>
    rw [if_neg (by simp [refs])]
    refine wpAny_execs_nil ?_
    dsimp only
    refine wpAny_execs_cons ?_
    refine wpAny_Return_some ?_
    refine g_ld (env := fenv 4 L a cd) hn₃ (by rfl) ?_
    refine hq _ h₃ tk₄ [] H₃ (fun _ => rfl) (fun x Y e => nomatch e) ?_
    intro b o hb e
    have hb' : b ≠ l := by simpa using hb
    have hbL := (keep b o e).2
    exact kk₃ b o (by simp [hb', hbL]) (k₁ b o e)
  | cons x Y =>
    rw [if_pos (by simp [refs])]
    refine wpAny_execs_cons ?_
    refine wpAny_Assign_Name ?_
    refine Subscript_ ?_
    refine g_ld (env := fenv 4 L a cd) hn₃ (by rfl) ?_
    refine r_int ?_
    intro t₁ tk₅
    refine l_item (i := 0) (x := .ref x.1) H₃.list (by decide) rfl ?_
    refine g_st (env := fenv 4 L a cd) hn₃ ?_
    intro h₄ tk₆ hn₄ k₄
    have H₄ := H₃.ns hn₃ k₄
    have hz₄ : IsEnt h₄ z.1 z.2 := hz₃.ns hn₃ k₄
    dsimp only
    refine wpAny_execs_cons ?_
    refine wpAny_Assign_Subscript ?_
    refine g_ld (env := fenv 4 L a cd) hn₄ (by rfl) ?_
    refine g_ld (env := fenv 4 L a cd) hn₄ (by rfl) ?_
    refine r_int ?_
    intro t₂ tk₇
    refine l_set (i := 0) H₄.list (by rw [refs_length]; simp) (by rw [refs_length]; omega) ?_
    intro h₅ hl₅ k₅
    rw [refs_set] at hl₅
    have H₅ : HeapIs h₅ l (z :: Y) := H₄.upd k₅ hl₅ fun q hq => by
      rcases List.mem_cons.mp hq with e | e
      · rw [e]; exact Or.inr hz₄
      · exact Or.inl (List.mem_cons_of_mem _ e)
    have hn₅ := ns_o hn₄ H₄.list k₅
    have kk₅ : KpO [l, L] h₁ h₅ := (kk₃.trans (KpO.cons k₄)).trans (k₅.mono fun b hb => by simp at hb; simp [hb])
    have kB₅ : Kp B h₅ := KpO.base kB₁ kk₅ fun b hb => by simp at hb; rcases hb with rfl | rfl; exact hlB; exact hLB
    dsimp only
    refine wpAny_execs_cons ?_
    refine wpAny_Expr ?_
    refine Call_Name2 ?_
    refine g_fn T kB₅ mem10 (by rfl) ?_
    refine c_fn2 T mem10 ?_
    refine g_ld (env := fenv 4 L a cd) hn₅ (by rfl) ?_
    refine r_int ?_
    intro t₃ tk₈
    refine ⟨⟨_, _, rfl, kB₅⟩, ?_⟩
    refine siftup_max_spec T kB₅ hlB (R'.less (by decide) (by decide)) H₅ (by simp at hX ⊢; omega) (by simp) (hap x Y rfl) ?_
    intro h₆ tk₉ H₆ k₆
    have hn₆ := ns_o hn₅ H₅.list k₆
    dsimp only
    refine wpAny_execs_cons ?_
    refine wpAny_Return_some ?_
    refine g_ld (env := fenv 4 L a cd) hn₆ (by rfl) ?_
    refine hq _ h₆ tk₉ _ H₆ (fun e => nomatch e) (fun x' Y' e => by cases e; rfl) ?_
    intro b o hb e
    have hb' : b ≠ l := by simpa using hb
    have hbL := (keep b o e).2
    exact k₆ b o hb (kk₅ b o (by simp [hb', hbL]) (k₁ b o e))

set_option maxHeartbeats 1000000 in
theorem heapify_max_spec {w : World} {A : Around} {E : Value → Shared → Prop} {s : Shared} {B h : Heap} {tk : Nat} {mg mb : Str → Option Value} {k b1 b3 l : Addr} {X : List Item} {Q : Value → Shared → Prop}
    (T : Tops w B mg mb k b1 b3) (kB : Kp B h) (hlB : B.get? l = none) (R : Room A 6 21) (H : HeapIs h l X) (hX : X.length = 3) (hap : Apart X)
    (hq : ∀ h' tk', HeapIs h' l (su lt' X) → KpO [l] h h' → Q .none (St s h' tk')) :
    wpAny (model Pg w) A (call (.ref (fa mg 6)) [.ref l]) Q E (St s h tk) := by
  refine enter (i := 6) (d := 5) (u := 18) (binds := [("x", .ref l)]) ["x"] T kB mem6 R (fun pm cd doc => by rfl) rfl (by decide +kernel) (Kp.refl h) (Nat.le_refl _) ?_
  intro A' L a cd h₁ tk₁ R' hL F keep
  have k₁ : Kp h h₁ := fun b o e => (keep b o e).1
  have kB₁ : Kp B h₁ := kB.trans k₁
  have hLB : B.get? L = none := by rw [hL]; exact base_L kB
  have H₁ := H.keeps k₁
  have hn₁ := F.ns
  conv in (dOf 6).body => whnf
  refine wpAny_execs_cons ?_
  refine wpAny_Assign_Name ?_
  refine Call_Name1 ?_
  refine g_bi T kB₁ boot_len' ?_
  refine PySem.callWith_builtin1 ?_
  refine g_ld (env := fenv 6 L a cd) hn₁ (by rfl) ?_
  refine l_len H₁.list (by rw [refs_length]; omega) ?_
  intro t₁ tk₂
  rw [refs_length, hX]
  refine g_st (env := fenv 6 L a cd) hn₁ ?_
  intro h₂ tk₃ hn₂ k₂
  have H₂ := H₁.ns hn₁ k₂
  have kk₂ : KpO [l, L] h₁ h₂ := KpO.cons k₂
  have kB₂ : Kp B h₂ := KpO.base kB₁ kk₂ fun b hb => by simp at hb; rcases hb with rfl | rfl; exact hlB; exact hLB
  dsimp only
  refine wpAny_execs_cons ?_
  refine r_for (env := fenv 6 L a cd) (by rfl) (by rfl) ?_
  refine Call_Name1 ?_
  refine g_bi T kB₂ boot_rev ?_
  refine PySem.callWith_type1 ?_
  refine Call_Name1 ?_
  refine g_bi T kB₂ boot_rng ?_
  refine PySem.callWith_type1 ?_
  refine wpAny_BinOp ?_
  refine g_ld (env := fenv 6 L a cd) hn₂ (by rfl) ?_
  refine r_int ?_
  intro t₂ tk₄
  refine i_fdiv (by decide) (PyProof.noPylong_small (by decide)) ?_
  intro t₃ tk₅
  rw [show Int.fdiv ((3 : Nat) : Int) 2 = ((1 : Nat) : Int) from by decide]
  refine c_range ?_
  intro rr h₂' tk₅' tr₁ tr₂ kr hrr hrange
  refine c_reversed (n := 1) hrange (by decide) ?_
  intro I h₃ k₃ hI hit hlt
  have k₂₃ : Kp h₂ h₃ := kr.trans k₃
  have hI₂ : h₂.get? I = none := none_of kr hI
  refine wpAny_pyIter_rangeiter (s := St s h₃ _) hit ?_
  have H₃ := H₂.keeps k₂₃
  have hn₃ := hn₂.keeps k₂₃
  have hIL : L ≠ I := ns_ne_none hn₂ hI₂
  have hIl : l ≠ I := list_ne_none H₂.list hI₂
  have hIe : ∀ p ∈ X, p.1 ≠ I := fun p hp => (H₂.ents p hp).ne_none hI₂
  have W := Walks.range (prog := Pg) (w := w) R'.handled I 0 (-1) 1
  refine ⟨I, [I], [I], 1, _, _, h₃, _, _, fun i hh mm => hh.PlainList l (refs (if i = 0 then X else su lt' X)).toArray ∧ (∀ p ∈ (if i = 0 then X else su lt' X), IsEnt hh p.1 p.2 ∧ p.1 ≠ I ∧ p.1 ≠ L) ∧ mm "x" = some (Value.ref l) ∧ KpO [I, l, L] h₂ hh, rfl, rfl, W, by simpa using hit, hn₃, (fun hm => hIL (List.mem_singleton.mp hm)), ?_, ?_, ?_, ?_⟩
  · show h₃.PlainList l (refs X).toArray ∧ _
    exact ⟨H₃.list, fun p hp => ⟨H₃.ents p hp, hIe p hp, (H₃.ents p hp).ne_ns hn₃⟩, by rfl, k₂₃.o _⟩
  · rintro i hh hh' mm ⟨hl, he, hx, hk⟩ kk
    have kk' : KpO [L, I] hh hh' := kk
    have hlL : l ≠ L := list_ne_ns H₃.list hn₃
    refine ⟨hl.at fun o e => kk' l o (by simp [hlL, hIl]) e, fun p hp => ⟨(he p hp).1.at fun o e => kk' _ o (by simp [(he p hp).2.1, (he p hp).2.2]) e, (he p hp).2⟩, hx, hk.trans (kk'.mono fun b hb => by simp at hb ⊢; rcases hb with rfl | rfl <;> simp)⟩
  · rintro i v hh tkk mm E' hi ⟨tv, rfl⟩ ⟨hl, he, hx, hk⟩ hn hIt
    have hi0 : i = 0 := by omega
    subst hi0
    rw [if_pos rfl] at hl he
    have HH : HeapIs hh l X := ⟨hl, fun p hp => (he p hp).1⟩
    have kBB : Kp B hh := KpO.base kB₂ hk fun b hb => by
      simp at hb
      rcases hb with rfl | rfl | rfl
      · cases e : B.get? b with
        | none => rfl
        | some o => rw [kB₂ _ _ e] at hI₂; cases hI₂
      · exact hlB
      · exact hLB
    refine wpAny_execs_cons ?_
    refine wpAny_Expr ?_
    refine Call_Name2 ?_
    refine g_fn T kBB mem10 (by rfl) ?_
    refine c_fn2 T mem10 ?_
    refine g_ld (env := fenv 6 L a cd) hn (ne_up hx) ?_
    refine g_ld (env := fenv 6 L a cd) hn eq_up ?_
    refine ⟨⟨_, _, rfl, kBB⟩, ?_⟩
    rw [show (0 : Int) + ((0 : Nat) : Int) * (-1) = 0 from by decide]
    refine siftup_max_spec T kBB hlB (R'.less (by decide) (by decide)) HH (by omega) (by omega) hap ?_
    intro h₄ tk₆ H₄ k₄
    dsimp only
    refine wpAny_execs_nil ?_
    have hn₄ := ns_o hn HH.list k₄
    refine ⟨rfl, h₄, tk₆, _, rfl, hn₄, ⟨?_, ?_, ne_up hx, hk.trans (k₄.mono fun b hb => by simp at hb; simp [hb])⟩, ?_⟩
    · rw [if_neg (by decide)]; exact H₄.list
    · rw [if_neg (by decide)]
      intro p hp
      have hpX : p ∈ X := su_mem hp
      exact ⟨H₄.ents p hp, (he p hpX).2⟩
    · intro b hb o e
      simp at hb
      subst hb
      exact k₄ b o (by simp; exact hIl.symm) e
  · rintro h₄ tk₆ mm ⟨hl, he, hx, hk⟩ hn
    rw [if_neg (by decide)] at hl he
    dsimp only
    refine wpAny_execs_nil ?_
    refine hq h₄ tk₆ ⟨hl, fun p hp => (he p hp).1⟩ ?_
    intro b o hb e
    have hb' : b ≠ l := by simpa using hb
    have hbL := (keep b o e).2
    have e₂ := kk₂ b o (by simp [hb', hbL]) (k₁ b o e)
    have hbI : b ≠ I := fun q => by rw [q, hI₂] at e₂; cases e₂
    exact hk b o (by simp [hb', hbL, hbI]) e₂
end Mine

namespace Mine

theorem slice_from (a : List Nat) (i : Nat) (hi : i ≤ a.length) : Txt.slice (sg a) (some (i : Int)) none = sg (a.drop i) := by
  rw [slice_from_eq (b := (a.length : Int)) (by omega) (by rw [sg_length]; omega) (by rw [sg_length])]
  have : ((a.length : Int) - (i : Int)).toNat = (a.drop i).length := by rw [List.length_drop]; omega
  show (⟨_⟩ : Str) = ⟨_⟩
  rw [this, List.take_of_length_le (by simp [sg])]
  simp [sg]
theorem slice_one (a : List Nat) (i : Nat) (hi : i ≤ a.length) : Txt.slice (sg a) (some (i : Int)) (some ((i + 1 : Nat) : Int)) = sg ((a.drop i).take 1) := by
  by_cases h : i < a.length
  · have hx := slice_closesL (x := sg a) (i := (i : Int)) (j := ((i + 1 : Nat) : Int)) (by omega) (by omega) (by rw [sg_length]; omega)
    have hx := eq_of_beq hx
    rw [hx]
    have : (((i + 1 : Nat) : Int) - (i : Int)).toNat = 1 := by omega
    show (⟨_⟩ : Str) = ⟨_⟩
    rw [this]
    simp [sg]
  · have hi' : i = a.length := by omega
    subst hi'
    have e : Txt.slice (sg a) (some ((a.length : Nat) : Int)) (some ((a.length + 1 : Nat) : Int)) = Txt.slice (sg a) (some ((a.length : Nat) : Int)) none := by
      have k : Builtin.Str.strSliceIndices (some ((a.length : Nat) : Int)) (some ((a.length + 1 : Nat) : Int)) 1 (sg a).length = Builtin.Str.strSliceIndices (some ((a.length : Nat) : Int)) none 1 (sg a).length := by
        unfold Builtin.Str.strSliceIndices
        rw [sg_length]
        dsimp only
        congr 1
        simp only [show (1 : Int) > 0 by decide, if_true]
        rw [if_neg (by omega)]
        omega
      unfold Txt.slice
      rw [k]
    rw [e, slice_from _ _ (Nat.le_refl _)]
    simp
theorem sub_tailS {w : World} {A : Around} {E : Value → Shared → Prop} {s : Shared} {value slice : Expr} {o i : Value} {ops : List Value} {T id : String} {Q : Value → Shared → Prop} (hT : s.TypeIs o T)
    (hl : typeLookup (.type T) "__getitem__" = pure (some (.builtin id))) (hs : subscripted slice false o i = operate ops (getItem o i)) (h : wpAny (model Pg w) A (getItem o i) Q E s) :
    wpAny (model Pg w) A (subscriptTail value slice o i) Q E s := by
  unfold subscriptTail
  refine wpAny_bind ?_
  rw [getitemInPython_of_ne hT.not_modules]
  refine wpAny_bind (wpAny_specialOf hT hl ?_)
  have fin : wpAny (model Pg w) A (subscripted slice false o i) (fun r s₃ => wpAny (model Pg w) A (letTemporaryGo value o r >>= fun _ => pure r) Q E s₃) E s := by
    rw [hs]
    exact wpAny_operating (wpAny_mono h (fun r s₃ h₃ => wpAny_bind (wpAny_letTemporaryGo (wpAny_pure h₃))) fun _ _ x => x)
  first
    | exact wpAny_pure (wpAny_bind fin)
    | exact wpAny_bind (wpAny_pure (wpAny_bind fin))
    | exact wpAny_bind fin
section
variable {w : World} {A : Around} {E : Value → Shared → Prop} {s : Shared} {h : Heap} {tk : Nat} {env : Env} {M : Model}
/-- x[i:] of a text -/
theorem s_from {value : Expr} {lo up : Option Expr} {p : Pos} {a : List Nat} {i : Nat} {t u : Tok} {sl : Addr} {Q : Value → Shared → Prop} (hs : h.IsSlice sl (some ((i : Int), u)) none none) (hi : i ≤ a.length) (hsz : a.length ≤ 1000)
    (hq : ∀ t' tk', Q (.str (sg (a.drop i)) t') (St s h tk')) : wpAny (model Pg w) A (subscriptTail value (.Slice lo up none p) (.str (sg a) t) (.ref sl)) Q E (St s h tk) := by
  refine sub_tailS (typeIs_str _ _ _) PySem.F.slot_str_getitem.lookup rfl ?_
  refine wpAny_getItem_str_slice (s := St s h tk) hs rfl ?_
  refine post_val_or_str ⟨Nat.le_trans (Txt.slice_le (sg a) _ _) (by rw [sg_length]; unfold sizeLine; omega), fun t' k => ?_⟩
  show Q (.str (Txt.slice (sg a) (some (i : Int)) none) t') (St s h k)
  rw [slice_from a i hi]
  exact hq _ _
theorem s_one {value : Expr} {lo up : Option Expr} {p : Pos} {a : List Nat} {i : Nat} {t u u' : Tok} {sl : Addr} {Q : Value → Shared → Prop} (hs : h.IsSlice sl (some ((i : Int), u)) (some (((i + 1 : Nat) : Int), u')) none) (hi : i ≤ a.length) (hsz : a.length ≤ 1000)
    (hq : ∀ t' tk', Q (.str (sg ((a.drop i).take 1)) t') (St s h tk')) : wpAny (model Pg w) A (subscriptTail value (.Slice lo up none p) (.str (sg a) t) (.ref sl)) Q E (St s h tk) := by
  refine sub_tailS (typeIs_str _ _ _) PySem.F.slot_str_getitem.lookup rfl ?_
  refine wpAny_getItem_str_slice (s := St s h tk) hs rfl ?_
  refine post_val_or_str ⟨Nat.le_trans (Txt.slice_le (sg a) _ _) (by rw [sg_length]; unfold sizeLine; omega), fun t' k => ?_⟩
  show Q (.str (Txt.slice (sg a) (some (i : Int)) (some ((i + 1 : Nat) : Int))) t') (St s h k)
  rw [slice_one a i hi]
  exact hq _ _
/-- t[1:] of a tuple -/
theorem t_from {value : Expr} {lo up : Option Expr} {p : Pos} {r sl : Addr} {vs : List Value} {i : Nat} {u : Tok} {Q : Value → Shared → Prop} (hr : h.IsTuple r vs.toArray) (hs : h.IsSlice sl (some ((i : Int), u)) none none) (h1 : 1 ≤ i) (hi : i ≤ vs.length) (hsz : vs.length ≤ 1000)
    (hq : ∀ r' h', Kp h h' → h.get? r' = none → h'.IsTuple r' (vs.drop i).toArray → Q (.ref r') (St s h' tk)) : wpAny (model Pg w) A (subscriptTail value (.Slice lo up none p) (.ref r) (.ref sl)) Q E (St s h tk) := by
  refine sub_tailS (s := St s h tk) hr.typeIs PyProof.Rows.slot_tuple_getitem.lookup rfl ?_
  refine getItem_tuple_from (s := St s h tk) hr hs h1 (by simpa using hi) ?_ (by unfold sizeLine; simp; omega)
  exact hq _ _ (Kp.push h _) (noAt h) ⟨_, Heap.get?_push_size _ rfl, rfl, _, rfl⟩
/-- l[:k] of a list -/
theorem l_upto {value : Expr} {lo up : Option Expr} {p : Pos} {l sl : Addr} {items : Array Value} {k : Nat} {u : Tok} {Q : Value → Shared → Prop} (hl : h.IsList l items) (hs : h.IsSlice sl none (some ((k : Int), u)) none) (hsz : items.size ≤ 1000)
    (hq : ∀ l' h', Kp h h' → h.get? l' = none → h'.PlainList l' (items.toList.take k).toArray → Q (.ref l') (St s h' tk)) : wpAny (model Pg w) A (subscriptTail value (.Slice lo up none p) (.ref l) (.ref sl)) Q E (St s h tk) := by
  refine sub_tailS (s := St s h tk) hl.typeIs slot_list_getitem.lookup rfl ?_
  obtain ⟨o, ho, hc, hd⟩ := hs
  refine wpAny_getItem_list_slice (s := St s h tk) (lo := none) (hi := some (k : Int)) (st := none) hl ⟨o, ho, hc, hd⟩ ?_ ?_ ?_ (by simp) ?_ (by unfold sizeLine; omega)
  · exact IsPart.none
  · exact IsPart.int _ _
  · exact IsPart.none
  · rw [slicePick_upto']
    exact hq _ _ (Kp.push h _) (noAt h) ⟨_, Heap.get?_push_size _ rfl⟩
/-- the written slices -/
theorem r_slice {lo up : Option Expr} {p : Pos} {Q : Value → Shared → Prop}
    (hq : wpAny M A (evalPart lo env) (fun vl s₁ => wpAny M A (evalPart up env) (fun vu s₂ => ∃ l u h₂ tk₂, vl = partValue l ∧ vu = partValue u ∧ s₂ = St s h₂ tk₂ ∧
      (∀ sl h', Kp h₂ h' → h₂.get? sl = none → h'.IsSlice sl l u none → Q (.ref sl) (St s h' tk₂))) E s₁) E (St s h tk)) :
    wpAny M A (eval (.Slice lo up none p) env) Q E (St s h tk) := by
  refine wpAny_Slice (wpAny_mono hq (fun vl s₁ h₁ => wpAny_mono h₁ (fun vu s₂ h₂ => ?_) fun _ _ e => e) fun _ _ e => e)
  obtain ⟨l, u, h₃, tk₃, rfl, rfl, rfl, hq⟩ := h₂
  refine wpAny_evalPart_none ?_
  exact hq _ _ (Kp.push h₃ _) (noAt h₃) ⟨_, Heap.get?_push_size _ rfl, rfl, rfl⟩
end
end Mine

namespace Mine

noncomputable abbrev Rests := Nat → List Nat
noncomputable def setR (f : Rests) (i : Nat) (r : List Nat) : Rests := fun j => if j = i then r else f j
theorem setR_eq (f : Rests) (i : Nat) (r : List Nat) : setR f i r i = r := if_pos rfl
theorem setR_ne (f : Rests) {i j : Nat} (r : List Nat) (h : j ≠ i) : setR f i r j = f j := if_neg h

/-- t is a riffle of the three texts f 0, f 1, f 2 -/
inductive Rif : Rests → List Nat → Prop
  | nil {f : Rests} : (∀ i, i < 3 → f i = []) → Rif f []
  | step {f : Rests} {i x : Nat} {r t : List Nat} : i < 3 → f i = x :: r → Rif (setR f i r) t → Rif f (x :: t)

noncomputable def total (f : Rests) : Nat := (f 0).length + (f 1).length + (f 2).length
theorem total_set {f : Rests} {i x : Nat} {r : List Nat} (hi : i < 3) (h : f i = x :: r) : total (setR f i r) + 1 = total f := by
  have : i = 0 ∨ i = 1 ∨ i = 2 := by omega
  rcases this with rfl | rfl | rfl <;> simp [total, setR, h] <;> omega
theorem total_pos {f : Rests} (h : 0 < total f) : ∃ i x r, i < 3 ∧ f i = x :: r := by
  rcases h0 : f 0 with _ | ⟨x, r⟩
  · rcases h1 : f 1 with _ | ⟨x, r⟩
    · rcases h2 : f 2 with _ | ⟨x, r⟩
      · simp [total, h0, h1, h2] at h
      · exact ⟨2, x, r, by omega, h2⟩
    · exact ⟨1, x, r, by omega, h1⟩
  · exact ⟨0, x, r, by omega, h0⟩
theorem total_zero {f : Rests} (h : total f = 0) : ∀ i, i < 3 → f i = [] := by
  intro i hi
  rcases h0 : f i with _ | ⟨x, r⟩
  · rfl
  · have := total_set hi h0; omega
theorem rif_exists : ∀ (n : Nat) (f : Rests), total f = n → ∃ t, Rif f t
  | 0, _, h => ⟨[], .nil (total_zero h)⟩
  | n + 1, f, h => by
    obtain ⟨i, x, r, hi, hx⟩ := total_pos (by omega : 0 < total f)
    obtain ⟨t, ht⟩ := rif_exists n (setR f i r) (by have := total_set hi hx; omega)
    exact ⟨x :: t, .step hi hx ht⟩
theorem rif_len {f : Rests} {t : List Nat} (h : Rif f t) : t.length = total f := by
  induction h with
  | nil h => simp [total, h 0, h 1, h 2]
  | step hi hx _ ih => have := total_set hi hx; simp; omega

/-- a is as good as b -/
noncomputable def ge (bt : Nat → Nat → Bool) : List Nat → List Nat → Bool
  | _, [] => true
  | [], _ :: _ => false
  | x :: a, y :: b => bt x y || (decide (x = y) && ge bt a b)
theorem ge_nil (bt : Nat → Nat → Bool) (a : List Nat) : ge bt a [] = true := by cases a <;> rfl
structure Ord (bt : Nat → Nat → Bool) : Prop where
  irr : ∀ x, bt x x = false
  trans : ∀ x y z, bt x y = true → bt y z = true → bt x z = true
theorem ge_refl (bt : Nat → Nat → Bool) : ∀ a, ge bt a a = true
  | [] => rfl
  | x :: a => by simp [ge, ge_refl bt a]
theorem ge_cons {bt : Nat → Nat → Bool} {x : Nat} {a b : List Nat} (h : ge bt a b = true) : ge bt (x :: a) (x :: b) = true := by simp [ge, h]
theorem ge_bt {bt : Nat → Nat → Bool} {x y : Nat} {a b : List Nat} (h : bt x y = true) : ge bt (x :: a) (y :: b) = true := by simp [ge, h]
theorem ge_trans {bt : Nat → Nat → Bool} (O : Ord bt) : ∀ {a b c : List Nat}, ge bt a b = true → ge bt b c = true → ge bt a c = true
  | _, _, [], _, _ => ge_nil _ _
  | _, [], _ :: _, _, h => by cases h
  | [], _ :: _, _ :: _, h, _ => by cases h
  | x :: a, y :: b, z :: c, h1, h2 => by
    simp only [ge, Bool.or_eq_true, Bool.and_eq_true, decide_eq_true_eq] at h1 h2 ⊢
    rcases h1 with h1 | ⟨rfl, h1⟩
    · rcases h2 with h2 | ⟨rfl, h2⟩
      · exact Or.inl (O.trans _ _ _ h1 h2)
      · exact Or.inl h1
    · rcases h2 with h2 | ⟨rfl, h2⟩
      · exact Or.inl h2
      · exact Or.inr ⟨rfl, ge_trans O h1 h2⟩
theorem ge_anti {bt : Nat → Nat → Bool} (O : Ord bt) : ∀ {a b : List Nat}, ge bt a b = true → ge bt b a = true → a = b
  | [], [], _, _ => rfl
  | [], _ :: _, h, _ => by cases h
  | _ :: _, [], _, h => by cases h
  | x :: a, y :: b, h1, h2 => by
    simp only [ge, Bool.or_eq_true, Bool.and_eq_true, decide_eq_true_eq] at h1 h2
    rcases h1 with h1 | ⟨rfl, h1⟩
    · rcases h2 with h2 | ⟨rfl, h2⟩
      · have := O.trans _ _ _ h1 h2; rw [O.irr] at this; cases this
      · rw [O.irr] at h1; cases h1
    · rcases h2 with h2 | ⟨_, h2⟩
      · rw [O.irr] at h2; cases h2
      · rw [ge_anti O h1 h2]

theorem setR_self {f : Rests} {i : Nat} {r : List Nat} (h : f i = r) : setR f i r = f := by
  funext j; unfold setR; split
  · subst j; exact h.symm
  · rfl
theorem setR_setR (f : Rests) (i : Nat) (r r' : List Nat) : setR (setR f i r) i r' = setR f i r' := by
  funext j; unfold setR; split <;> simp_all
theorem setR_comm (f : Rests) {i j : Nat} (r r' : List Nat) (h : i ≠ j) : setR (setR f i r) j r' = setR (setR f j r') i r := by
  funext k; unfold setR; split
  · subst k; rw [if_neg (Ne.symm h)]
  · rfl

/-- what stands ahead of the worse rest may as well stand ahead of the better -/
theorem exch {bt : Nat → Nat → Bool} {f : Rests} {t : List Nat} (h : Rif f t) : ∀ (i j : Nat) (p a b : List Nat), i < 3 → j < 3 → i ≠ j → f i = p ++ a → f j = b → ge bt a b = true →
    ∃ t', Rif (setR (setR f i a) j (p ++ b)) t' ∧ ge bt t' t = true := by
  induction h with
  | @nil f h =>
    intro i j p a b hi hj hij e1 e2 hg
    rw [h i hi] at e1
    have e1' := List.append_eq_nil_iff.mp e1.symm
    rw [e1'.1, e1'.2, List.nil_append, ← e2]
    rw [setR_self (h i hi), setR_self rfl]
    exact ⟨[], .nil h, rfl⟩
  | @step f k x r t hk hx ht ih =>
    intro i j p a b hi hj hij e1 e2 hg
    cases p with
    | nil =>
      refine ⟨x :: t, ?_, ge_refl bt _⟩
      rw [List.nil_append, setR_self (f := f) (i := i) (by simpa using e1), setR_self e2]
      exact .step hk hx ht
    | cons x0 q =>
      by_cases hki : k = i
      · subst hki
        rw [e1] at hx
        injection hx with hx1 hx2
        subst hx1
        obtain ⟨t', h1, h2⟩ := ih k j q a b hi hj hij (by rw [setR_eq]; exact hx2.symm) (by rw [setR_ne _ _ (Ne.symm hij)]; exact e2) hg
        refine ⟨x0 :: t', .step hj (by rw [setR_eq]; rfl) ?_, ge_cons h2⟩
        rw [setR_setR] at h1 ⊢
        exact h1
      · by_cases hkj : k = j
        · subst hkj
          rw [e2] at hx
          subst hx
          rcases a with _ | ⟨x', a'⟩
          · cases hg
          · simp only [ge, Bool.or_eq_true, Bool.and_eq_true, decide_eq_true_eq] at hg
            rcases hg with hg | ⟨rfl, hg⟩
            · obtain ⟨t', ht'⟩ := rif_exists _ (setR (setR f i a') k (x0 :: q ++ x :: r)) rfl
              refine ⟨x' :: t', .step hi (by rw [setR_ne _ _ hij, setR_eq]) ?_, ge_bt hg⟩
              rw [setR_comm _ _ _ (Ne.symm hij), setR_setR]
              exact ht'
            · obtain ⟨t', h1, h2⟩ := ih i k (x0 :: q ++ [x']) a' r hi hj hij (by rw [setR_ne _ _ hij, e1]; simp) (by rw [setR_eq]) hg
              refine ⟨x' :: t', .step hi (by rw [setR_ne _ _ hij, setR_eq]) ?_, ge_cons h2⟩
              rw [setR_comm _ _ _ (Ne.symm hij), setR_setR]
              rw [setR_comm _ _ _ (Ne.symm hij), setR_setR] at h1
              simpa using h1
        · obtain ⟨t', h1, h2⟩ := ih i j (x0 :: q) a b hi hj hij (by rw [setR_ne _ _ (Ne.symm hki)]; exact e1) (by rw [setR_ne _ _ (Ne.symm hkj)]; exact e2) hg
          refine ⟨x :: t', .step hk (by rw [setR_ne _ _ hkj, setR_ne _ _ hki]; exact hx) ?_, ge_cons h2⟩
          rw [setR_comm f _ _ hki, setR_comm _ _ _ hkj] at h1
          exact h1

noncomputable def Best (bt : Nat → Nat → Bool) (f : Rests) (t : List Nat) : Prop := Rif f t ∧ ∀ t', Rif f t' → ge bt t t' = true
theorem Best.unique {bt : Nat → Nat → Bool} (O : Ord bt) {f : Rests} {t t' : List Nat} (h : Best bt f t) (h' : Best bt f t') : t = t' := ge_anti O (h.2 _ h'.1) (h'.2 _ h.1)
theorem Best.congr {bt : Nat → Nat → Bool} {f g : Rests} (e : ∀ i, i < 3 → f i = g i) {t : List Nat} (h : Best bt f t) : Best bt g t := by
  have key : ∀ {f : Rests} {t : List Nat}, Rif f t → ∀ {g : Rests}, (∀ i, i < 3 → f i = g i) → Rif g t := by
    intro f t h
    induction h with
    | nil h => intro g e; exact .nil fun i hi => (e i hi).symm.trans (h i hi)
    | @step f k x r t hk hx ht ih =>
      intro g e
      refine .step hk ((e k hk).symm.trans hx) (ih fun i hi => ?_)
      unfold setR; split
      · rfl
      · exact e i hi
  exact ⟨key h.1 e, fun t' ht' => h.2 _ (key ht' fun i hi => (e i hi).symm)⟩
theorem Best.nil {bt : Nat → Nat → Bool} {f : Rests} (h : ∀ i, i < 3 → f i = []) : Best bt f [] :=
  ⟨.nil h, fun t' ht' => by have := rif_len ht'; simp [total, h 0, h 1, h 2] at this; subst this; rfl⟩

/-- the greedy step -/
theorem Best.greedy {bt : Nat → Nat → Bool} (O : Ord bt) {f : Rests} {i x : Nat} {r t : List Nat} (hi : i < 3) (hx : f i = x :: r) (hg : ∀ j, j < 3 → j ≠ i → ge bt (x :: r) (f j) = true)
    (h : Best bt (setR f i r) t) : Best bt f (x :: t) := by
  refine ⟨.step hi hx h.1, ?_⟩
  intro t' ht'
  cases ht' with
  | nil h0 => rfl
  | @step _ k y s t₁ hk hy hs =>
    by_cases hki : k = i
    · subst hki
      rw [hx] at hy
      injection hy with e1 e2
      subst e1 e2
      exact ge_cons (h.2 _ hs)
    · have := hg k hk hki
      rw [hy] at this
      simp only [ge, Bool.or_eq_true, Bool.and_eq_true, decide_eq_true_eq] at this
      rcases this with h1 | ⟨rfl, h1⟩
      · exact ge_bt h1
      · obtain ⟨t₂, h2, h3⟩ := exch hs i k [x] r s hi hk (Ne.symm hki) (by rw [setR_ne _ _ (Ne.symm hki), hx]; rfl) (setR_eq _ _ _) h1
        refine ge_cons (ge_trans O (h.2 t₂ ?_) h3)
        rw [setR_comm _ _ _ hki, setR_setR, show [x] ++ s = x :: s from rfl, setR_self (f := setR f i r)] at h2
        · exact h2
        · rw [setR_ne _ _ hki, hy]

/-- the ways from here: the table's step -/
theorem Best.ways {bt : Nat → Nat → Bool} (O : Ord bt) {f : Rests} {t : List Nat} (hmem : ∃ i x r t₁, i < 3 ∧ f i = x :: r ∧ Best bt (setR f i r) t₁ ∧ t = x :: t₁)
    (hall : ∀ i x r, i < 3 → f i = x :: r → ∃ t₁, Best bt (setR f i r) t₁ ∧ ge bt t (x :: t₁) = true) : Best bt f t := by
  obtain ⟨i, x, r, t₁, hi, hx, hb, rfl⟩ := hmem
  refine ⟨.step hi hx hb.1, ?_⟩
  intro t' ht'
  cases ht' with
  | nil h0 => rfl
  | @step _ k y s t₂ hk hy hs =>
    obtain ⟨t₃, h1, h2⟩ := hall k y s hk hy
    exact ge_trans O h2 (ge_cons (h1.2 _ hs))

noncomputable def lower (x y : Nat) : Bool := decide (x < y)
noncomputable def higher (x y : Nat) : Bool := decide (y < x)
theorem ord_lower : Ord lower := ⟨fun x => by simp [lower], fun x y z => by simp only [lower, decide_eq_true_eq]; omega⟩
theorem ord_higher : Ord higher := ⟨fun x => by simp [higher], fun x y z => by simp only [higher, decide_eq_true_eq]; omega⟩
theorem ge_higher : ∀ {a b : List Nat}, ¬ (a < b) → ge higher a b = true
  | _, [], _ => ge_nil _ _
  | [], _ :: _, h => absurd (List.nil_lt_cons _ _) h
  | x :: a, y :: b, h => by
    rw [List.cons_lt_cons_iff] at h
    simp only [ge, higher, Bool.or_eq_true, Bool.and_eq_true, decide_eq_true_eq]
    by_cases e : x = y
    · exact Or.inr ⟨e, ge_higher fun q => h (Or.inr ⟨e, q⟩)⟩
    · exact Or.inl (by have : ¬ x < y := fun q => h (Or.inl q); omega)
theorem ge_lower_len : ∀ {a b : List Nat}, a.length = b.length → ¬ (b < a) → ge lower a b = true
  | [], [], _, _ => rfl
  | [], _ :: _, h, _ => by cases h
  | _ :: _, [], h, _ => by cases h
  | x :: a, y :: b, hl, h => by
    rw [List.cons_lt_cons_iff] at h
    simp only [ge, lower, Bool.or_eq_true, Bool.and_eq_true, decide_eq_true_eq]
    by_cases e : x = y
    · exact Or.inr ⟨e, ge_lower_len (by simpa using hl) fun q => h (Or.inr ⟨e.symm, q⟩)⟩
    · exact Or.inl (by have : ¬ y < x := fun q => h (Or.inl q); omega)
theorem ge_lower_end : ∀ {a b : List Nat}, (∀ c ∈ a, c ≤ 122) → (∀ c ∈ b, c ≤ 122) → ¬ (b ++ [126] < a ++ [126]) → ge lower a b = true
  | _, [], _, _, _ => ge_nil _ _
  | [], y :: b, _, hb, h => by
    have := hb y List.mem_cons_self
    exact absurd (show y :: (b ++ [126]) < [126] from by rw [List.cons_lt_cons_iff]; exact Or.inl (by omega)) h
  | x :: a, y :: b, ha, hb, h => by
    rw [List.cons_append, List.cons_append, List.cons_lt_cons_iff] at h
    simp only [ge, lower, Bool.or_eq_true, Bool.and_eq_true, decide_eq_true_eq]
    by_cases e : x = y
    · exact Or.inr ⟨e, ge_lower_end (fun c hc => ha c (List.mem_cons_of_mem _ hc)) (fun c hc => hb c (List.mem_cons_of_mem _ hc)) fun q => h (Or.inr ⟨e.symm, q⟩)⟩
    · exact Or.inl (by have : ¬ y < x := fun q => h (Or.inl q); omega)

/-- the order of the heap -/
noncomputable def Mini (lt : Ent → Ent → Bool) : List Item → Prop
  | [] => True
  | x :: Y => ∀ y ∈ Y, lt y.2 x.2 = false
structure Total (lt : Ent → Ent → Bool) : Prop where
  asym : ∀ a b, lt a b = true → lt b a = false
  trans : ∀ a b c, lt a b = true → lt b c = true → lt a c = true
  conn : ∀ a b, a.place ≠ b.place → lt a b = false → lt b a = true
theorem total_lt : Total Ent.lt where
  asym := fun a b h => by
    unfold Ent.lt at h ⊢
    by_cases e : a.key = b.key
    · rw [if_pos e] at h; rw [if_pos e.symm]; simp at h ⊢; omega
    · rw [if_neg e] at h; rw [if_neg (Ne.symm e)]
      simp only [decide_eq_true_eq, decide_eq_false_iff_not] at h ⊢
      exact List.lt_asymm h
  trans := fun a b c h1 h2 => by
    unfold Ent.lt at h1 h2 ⊢
    by_cases e : a.key = b.key
    · rw [if_pos e] at h1
      rw [e]
      by_cases e' : b.key = c.key
      · rw [if_pos e'] at h2 ⊢; simp at h1 h2 ⊢; omega
      · rw [if_neg e'] at h2 ⊢; exact h2
    · rw [if_neg e] at h1
      by_cases e' : b.key = c.key
      · rw [if_pos e'] at h2; rw [← e', if_neg e]; exact h1
      · rw [if_neg e'] at h2
        simp only [decide_eq_true_eq] at h1 h2
        have h3 := List.lt_trans h1 h2
        rw [if_neg (fun q => List.lt_irrefl _ (q ▸ h3))]
        simpa using h3
  conn := fun a b hp h => by
    unfold Ent.lt at h ⊢
    by_cases e : a.key = b.key
    · rw [if_pos e] at h; rw [if_pos e.symm]; simp at h ⊢; omega
    · rw [if_neg e] at h; rw [if_neg (Ne.symm e)]
      simp only [decide_eq_true_eq, decide_eq_false_iff_not] at h ⊢
      exact Std.lt_of_le_of_ne (List.not_lt.mp h) (Ne.symm e)
theorem total_lt' : Total lt' where
  asym := fun a b h => total_lt.asym b a h
  trans := fun a b c h1 h2 => total_lt.trans c b a h2 h1
  conn := fun a b hp h => total_lt.conn b a (Ne.symm hp) h
theorem mini_su {lt : Ent → Ent → Bool} (O : Total lt) {X : List Item} (hX : X.length ≤ 3) (hap : Apart X) : Mini lt (su lt X) := by
  match X, hX with
  | [], _ => trivial
  | [a], _ => intro y hy; cases hy
  | [a, b], _ =>
    have hab : a.2.place ≠ b.2.place := hap 0 1 a b rfl rfl (by decide)
    simp only [su]
    split
    · rename_i h
      intro y hy; simp at hy; subst hy; exact O.asym _ _ h
    · rename_i h
      intro y hy; simp at hy; subst hy; simpa using h
  | [a, b, c], _ =>
    have hab : a.2.place ≠ b.2.place := hap 0 1 a b rfl rfl (by decide)
    have hac : a.2.place ≠ c.2.place := hap 0 2 a c rfl rfl (by decide)
    have hbc : b.2.place ≠ c.2.place := hap 1 2 b c rfl rfl (by decide)
    simp only [su]
    split
    · rename_i h1
      split
      · rename_i h2
        intro y hy
        simp at hy
        rcases hy with rfl | rfl
        · exact O.asym _ _ h2
        · exact O.asym _ _ (O.trans _ _ _ h2 h1)
      · rename_i h2
        intro y hy
        simp at hy
        rcases hy with rfl | rfl
        · simpa using h2
        · exact O.asym _ _ h1
    · rename_i h1
      have h1 : lt b.2 c.2 = false := by simpa using h1
      have h1' := O.conn _ _ hbc h1
      split
      · rename_i h2
        intro y hy
        simp at hy
        rcases hy with rfl | rfl
        · exact O.asym _ _ (O.trans _ _ _ h2 h1')
        · exact O.asym _ _ h2
      · rename_i h2
        have h2 : lt a.2 c.2 = false := by simpa using h2
        intro y hy
        simp at hy
        rcases hy with rfl | rfl
        · exact h1
        · exact h2
theorem su_perm (lt : Ent → Ent → Bool) (X : List Item) (hX : X.length ≤ 3) : (su lt X).Perm X := by
  match X, hX with
  | [], _ => exact .refl _
  | [a], _ => exact .refl _
  | [a, b], _ =>
    simp only [su]; split
    · exact .refl _
    · exact .swap _ _ _
  | [a, b, c], _ =>
    simp only [su]; split <;> split
    · exact .refl _
    · exact .swap _ _ _
    · exact .refl _
    · exact ((List.Perm.swap _ _ _).trans ((List.Perm.swap _ _ _).cons _)).trans (.swap _ _ _)
end Mine

namespace Mine

theorem bindL_local {kindOf : Str → Option NameKind} : ∀ (binds : List (Str × Value)) (m : Str → Option Value), (∀ x ∈ binds, kindOf x.1 = some .local) → bindL kindOf binds m = fun y => (binds.reverse.lookup y).or (m y)
  | [], m, _ => by funext y; rfl
  | (n, v) :: r, m, h => by
    have h1 := h (n, v) List.mem_cons_self
    unfold bindL
    rw [if_pos h1, bindL_local r _ fun x hx => h x (List.mem_cons_of_mem _ hx)]
    funext y
    rw [List.reverse_cons, List.lookup_append]
    cases r.reverse.lookup y with
    | some z => rfl
    | none =>
      simp only [Option.none_or, List.lookup_cons, List.lookup_nil]
      by_cases e : y = n
      · subst e; simp
      · have : (y == n) = false := by simpa using e
        rw [this]; simp [e]
theorem bindC_local {kindOf : Str → Option NameKind} : ∀ (binds : List (Str × Value)) (m : Str → Option Value), (∀ x ∈ binds, kindOf x.1 = some .local) → bindC kindOf binds m = m
  | [], m, _ => rfl
  | (n, v) :: r, m, h => by
    have h1 := h (n, v) List.mem_cons_self
    unfold bindC
    rw [if_pos h1, bindC_local r _ fun x hx => h x (List.mem_cons_of_mem _ hx)]

noncomputable abbrev genv (i : Nat) (L a : Addr) (cd : Value) : Env := envOfC (dOf i).name (dOf i).scope L a cd
noncomputable def scopeOkC (i : Nat) (names : List Str) : Bool :=
  names.all (fun x => decide ((dOf i).scope.names.lookup x = some .local)) && !(dOf i).scope.isCoroutine && !(dOf i).scope.isGenerator && decide ((dOf i).scope.kind = .function)
theorem IsCell.at {h h' : Heap} {c : Addr} {v : Option Value} (x : h.IsCell c v) (k : ∀ o, h.get? c = some o → h'.get? c = some o) : h'.IsCell c v := let ⟨o, ho, r⟩ := x; ⟨o, k o ho, r⟩
theorem IsCell.ko {h h' : Heap} {c : Addr} {v : Option Value} {ow : List Addr} (x : h.IsCell c v) (k : KpO ow h h') (hc : c ∉ ow) : h'.IsCell c v := IsCell.at x fun o e => k c o hc e
theorem Ns.ko {h h' : Heap} {c : Addr} {m : Str → Option Value} {ow : List Addr} (x : h.Ns c m) (k : KpO ow h h') (hc : c ∉ ow) : h'.Ns c m := x.at' fun o e => k c o hc e
theorem Pl.ko {h h' : Heap} {c : Addr} {its : Array Value} {ow : List Addr} (x : h.PlainList c its) (k : KpO ow h h') (hc : c ∉ ow) : h'.PlainList c its := x.at fun o e => k c o hc e
theorem Tu.ko {h h' : Heap} {c : Addr} {its : Array Value} {ow : List Addr} (x : h.IsTuple c its) (k : KpO ow h h') (hc : c ∉ ow) : h'.IsTuple c its := x.at fun o e => k c o hc e

section
variable {w : World} {A : Around} {E : Value → Shared → Prop} {s : Shared} {B h : Heap} {tk : Nat} {mg mb m : Str → Option Value} {k b1 b3 : Addr} {env : Env} {M : Model}
/-- a call of a def of the text with cells of its own, its parameters no cells -/
theorem enterC {i : Nat} {d u : Nat} {args : List Value} {binds : List (Str × Value)} (names : List Str) {Q : Value → Shared → Prop} (T : Tops w B mg mb k b1 b3) (kB : Kp B h) (hi : dOf i ∈ allDefs) (R : Room A (d + 1) (u + 3))
    (hbind : ∀ pm cd doc, bindArgs (docDef (dOf i).name (dOf i).params (dOf i).body (dOf i).scope pm cd doc) ⟨args, []⟩ = pure binds) (hnm : binds.map (·.1) = names) (hsc : scopeOkC i names = true)
    (body : ∀ (A' : Around) (L a : Addr) (cd : Value) (h₁ : Heap) (tk₁ : Nat), Room A' d u → L = h.objs.size → h₁.Ns L (fun x => binds.reverse.lookup x) → Cl L (cellsFrom (L + 1) (dOf i).scope.names []) h₁ (fun _ => none) → Kp h h₁ →
      wpAny (model Pg w) A' (execs (dOf i).body (genv i L a cd)) (fun f s' => Q (match f with | .ret v => v | _ => .none) s') (fun _ _ => False) (St s h₁ tk₁)) :
    wpAny (model Pg w) A (call (.ref (fa mg i)) args) Q E (St s h tk) := by
  subst hnm
  obtain ⟨o, pm, cd, doc, h1, h2, h3, h4⟩ := T.fa hi
  simp only [scopeOkC, Bool.and_eq_true, Bool.not_eq_true', decide_eq_true_eq, List.all_eq_true] at hsc
  obtain ⟨⟨⟨c1, c2⟩, c3⟩, c4⟩ := hsc
  have hR := R.depth
  have hU := R.units
  have hl : ∀ x ∈ binds, (dOf i).scope.names.lookup x.1 = some .local := fun x hx => c1 x.1 (List.mem_map_of_mem hx)
  refine wpAny_call (call_cells_ret (s := St s h tk) (by show A.depth < 1000; omega) (kB _ _ h2) h3 (T.nolimit.keeps kB) (h4.keeps kB) (hbind pm cd doc) (fun x hx => Or.inl (hl x hx)) ?_ c2 c3 c4)
  intro h₁ tk₁ F₁ C₁
  have F₁' : Fr h h.objs.size h₁ (bindL (envOfC (dOf i).name (dOf i).scope h.objs.size (fa mg i) cd).kindOf binds fun _ => none) := F₁
  have C₁' : Cl h.objs.size (cellsFrom (h.objs.size + 1) (dOf i).scope.names []) h₁ (bindC (envOfC (dOf i).name (dOf i).scope h.objs.size (fa mg i) cd).kindOf binds fun _ => none) := C₁
  rw [bindL_local binds _ hl] at F₁'
  rw [bindC_local binds _ hl] at C₁'
  have hns := F₁'.ns
  simp only [Option.or_none] at hns
  refine body _ _ _ cd h₁ _ ⟨R.handled, ?_, ?_⟩ rfl hns C₁' F₁'.keep
  · show A.depth + 1 + d < 900; omega
  · show A.units + 3 + u < cLine; omega

theorem g_stc {x : Str} {v : Value} {c : Addr} {v₀ : Option Value} {Q : Unit → Shared → Prop} (hv : h.IsCell c v₀) (hc : env.cells.lookup x = some c)
    (hq : ∀ h', h'.IsCell c (some v) → KpO [c] h h' → Q () (St s h' tk))
    (hk : env.scope.kind = .function := by rfl) (hl : env.kindOf x = some .cell := by rfl) :
    wpAny M A (storeName env x v) Q E (St s h tk) :=
  wpAny_storeName_cell (s := St s h tk) hk hl hc hv fun h' hv' hs => hq h' hv' (KpO.of_same hs)

/-- WalksU as Itr, the target a pair of local names -/
theorem Itr.walkU {I : Addr} {x y : Str} {px py pos : Pos} {kk : Nat} {cenv : Env} {fp wr : List Addr} {N : Nat} {P : Nat → Array Value → Prop} {It : Nat → Heap → Prop} {Mid : Nat → Addr → Heap → Prop} (W : WalksU Pg w A I fp wr N P It Mid)
    (hh : A.handled = none) (hlv : ∀ i h, It i h → ∀ b ∈ wr, ∃ o, h.get? b = some o) (hP : ∀ i vs, P i vs → ∃ v₁ v₂, vs = #[v₁, v₂]) (hC : cenv.locals ∉ fp) (hxy : x ≠ y)
    (hx : cenv.kindOf x = some .local) (hy : cenv.kindOf y = some .local) (hp : (cenv.scope.kind == .class || (cenv.scope.kind == .module && cenv.locals != cenv.globals)) = false) :
    Itr w A s I (.Tuple [.Name x px, .Name y py] kk pos) cenv (cenv.locals :: fp) (cenv.locals :: wr) N (fun i h => ∃ m v₁ v₂, h.Ns cenv.locals m ∧ m x = some v₁ ∧ m y = some v₂ ∧ P i #[v₁, v₂]) (fun i h => It i h ∧ ∃ m, h.Ns cenv.locals m) where
  next := fun i h tk E hi hIt => by
    obtain ⟨hIt, m, hm⟩ := hIt
    have hCw : cenv.locals ∉ wr := fun hm => hC (W.sub _ hm)
    refine W.item i (St s h tk) _ E hi hIt ?_
    intro T vals h₁ tk₁ hPi hT hMid hk₁
    obtain ⟨v₁, v₂, rfl⟩ := hP _ _ hPi
    refine ⟨.ref T, rfl, ?_⟩
    refine W.go _ kk pos i T (St s h₁ tk₁) _ E hMid ?_
    intro h₂ hIt₂ hk₂
    have hT₂ : h₂.IsTuple T #[v₁, v₂] := hT.at fun o e => hk₂ T o (W.apart _ _ _ hMid) e
    have hm₂ : h₂.Ns cenv.locals m := hm.at' fun o e => hk₂ _ o hCw (hk₁ _ o hCw e)
    refine a_pair (s := s) (h := h₂) (tk := tk₁) hh hT₂ ?_
    intro h₃ k₃
    refine wpAny_storeName_local (s := St s h₃ tk₁) hx (hm₂.keeps k₃) (fun h₄ hn₄ hs₄ => ?_) hp
    refine wpAny_storeName_local hy hn₄ (fun h₅ hn₅ hs₅ => ?_) hp
    refine ⟨h₅, _, rfl, ⟨_, v₁, v₂, hn₅, by simp [hxy], by simp, hPi⟩, ⟨?_, _, hn₅⟩, ?_⟩
    · exact W.frame _ _ _ hIt₂ fun b hb o e => (hs₅.2 b (fun q => hC (q ▸ hb))).trans ((hs₄.2 b (fun q => hC (q ▸ hb))).trans (k₃ _ _ e))
    · intro b o hb e
      have hb' : b ≠ cenv.locals ∧ b ∉ wr := by simpa using hb
      exact (hs₅.2 b hb'.1).trans ((hs₄.2 b hb'.1).trans (k₃ _ _ (hk₂ b o hb'.2 (hk₁ b o hb'.2 e))))
  stop := fun h tk E hIt => by
    obtain ⟨hIt, m, hm⟩ := hIt
    refine W.done (St s h tk) _ E hIt ?_
    intro h₁ tk₁ hk₁
    have hCw : cenv.locals ∉ wr := fun hm => hC (W.sub _ hm)
    refine ⟨rfl, h₁, tk₁, rfl, ⟨m, hm.at' fun o e => hk₁ _ o hCw e⟩, fun b o hb e => hk₁ b o (fun q => hb (List.mem_cons_of_mem _ q)) e⟩
  self := fun h tk Q E hIt hQ => W.self 0 (St s h tk) Q E hIt.1 hQ
  sub := fun b hb => by
    rcases List.mem_cons.mp hb with rfl | hb
    · exact List.mem_cons_self
    · exact List.mem_cons_of_mem _ (W.sub _ hb)
  frame := fun i h h' hIt hk => ⟨W.frame _ _ _ hIt.1 fun b hb o e => hk b (List.mem_cons_of_mem _ hb) o e, hIt.2.imp fun m hm => hm.at' fun o e => hk _ List.mem_cons_self o e⟩
  live := fun i h hIt b hb => by
    rcases List.mem_cons.mp hb with rfl | hb
    · obtain ⟨m, o, es, ep, ho, _⟩ := hIt.2; exact ⟨o, ho⟩
    · exact hlv i h hIt.1 b hb

theorem Start.walkU {scope : Scope} {cl : List (Str × Addr)} {x y : Str} {px py pos : Pos} {kk : Nat} {I : Addr} {fp wr : List Addr} {h₂ : Heap} {N : Nat} {P : Nat → Array Value → Prop} {It : Nat → Heap → Prop} {Mid : Nat → Addr → Heap → Prop}
    (W : WalksU Pg w A I fp wr N P It Mid) (hh : A.handled = none) (hP : ∀ i vs, P i vs → ∃ v₁ v₂, vs = #[v₁, v₂]) (hxy : x ≠ y) (keep : Kp h h₂) (size : N ≤ sizeLine) (fresh : ∀ b ∈ wr, h.get? b = none) (below : ∀ b ∈ fp, b < h₂.objs.size)
    (hlv : ∀ i h, It i h → ∀ b ∈ wr, ∃ o, h.get? b = some o) (h0 : It 0 h₂) (hx : scope.names.lookup x = some .local) (hy : scope.names.lookup y = some .local) (hkind : scope.kind = .function) :
    Start w A s env scope cl (.Tuple [.Name x px, .Name y py] kk pos) I fp wr h h₂ N (fun C i h => ∃ m v₁ v₂, h.Ns C m ∧ m x = some v₁ ∧ m y = some v₂ ∧ P i #[v₁, v₂]) (fun C i h => It i h ∧ ∃ m, h.Ns C m) where
  keep := keep
  size := size
  fresh := fresh
  below := below
  itr := fun C hC => Itr.walkU (cenv := compEnvC scope cl C env) W hh hlv hP (fun hm => Nat.lt_irrefl _ (Nat.lt_trans hC (below _ hm))) hxy (lookup_relabel_local hx) (lookup_relabel_local hy) (by simp [compEnvC, relabel, hkind])
  at0 := fun C h₃ m k hn => ⟨W.frame _ _ _ h0 fun b _ o e => k b o e, m, hn⟩

/-- the iterator of a list -/
theorem it_list {l : Addr} {vs : List Value} {Q : Value → Shared → Prop} (hA : A.handled = none) (hl : h.PlainList l vs.toArray)
    (hq : ∀ I h₂ (It : Nat → Heap → Prop), Walks Pg w A I [I, l] [I] vs.length (fun i v => vs[i]? = some v) It → (∀ i h, It i h → ∀ b ∈ [I], ∃ o, h.get? b = some o) → It 0 h₂ → Kp h h₂ → h.get? I = none → (∀ b ∈ [I, l], b < h₂.objs.size) → l ≠ I →
      h₂.IsListIter I l 0 → Q (.ref I) (St s h₂ tk)) : wpAny (model Pg w) A (pyIter (.ref l)) Q E (St s h tk) := by
  have hne : l ≠ h.objs.size := by obtain ⟨n, ho⟩ := hl; exact Nat.ne_of_lt (Heap.lt_size ho)
  have hlt : l < h.objs.size := by obtain ⟨n, ho⟩ := hl; exact Heap.lt_size ho
  have W := Walks.list (prog := Pg) (w := w) hA h.objs.size l hne vs.toArray
  have hit : (h.push { cls := .type "list_iterator", data := .fields #[.ref l, .int 0 0] }).IsListIter h.objs.size l 0 := ⟨_, Heap.get?_push_size _ rfl, rfl, rfl⟩
  refine wpAny_pyIter_list (s := St s h tk) hl.isList ?_
  refine hq h.objs.size _ (fun i hh => hh.IsListIter h.objs.size l i ∧ hh.IsList l vs.toArray) (by simpa using W) ?_ ⟨hit, (hl.at fun o e => Heap.get?_push_of_some _ e).isList⟩ (Kp.push h _) (noAt h) ?_ hne hit
  · intro i h hi b hb; obtain ⟨⟨o, ho, _⟩, _⟩ := hi; simp at hb; exact ⟨o, hb ▸ ho⟩
  · intro b hb
    rw [Heap.size_push]
    rcases List.mem_cons.mp hb with rfl | hb
    · exact Nat.lt_succ_self _
    · simp at hb; subst hb; exact Nat.lt_succ_of_lt hlt

/-- the iterator of enumerate over a list -/
theorem it_enum {l : Addr} {vs : List Value} {Q : Value → Shared → Prop} (hA : A.handled = none) (hl : h.PlainList l vs.toArray)
    (hq : ∀ I it h₂ (It : Nat → Heap → Prop) (Mid : Nat → Addr → Heap → Prop), WalksU Pg w A I [I, it, l] [I, it] vs.length (fun i vals => ∃ t x, vs[i]? = some x ∧ vals = #[.int i t, x]) It Mid →
      (∀ i h, It i h → ∀ b ∈ [I, it], ∃ o, h.get? b = some o) → It 0 h₂ → Kp h h₂ → h.get? I = none → h.get? it = none → (∀ b ∈ [I, it, l], b < h₂.objs.size) → l ≠ I → l ≠ it → Q (.ref I) (St s h₂ tk)) :
    wpAny (model Pg w) A (call (.type "enumerate") [.ref l]) (fun xv s₁ => wpAny (model Pg w) A (pyIter xv) Q E s₁) E (St s h tk) := by
  have hlt : l < h.objs.size := by obtain ⟨n, ho⟩ := hl; exact Heap.lt_size ho
  refine call_enumerate_list (s := St s h tk) hl.isList ?_
  intro h₂ hE hI hsz hk
  have hE : IsEnum h₂ (h.objs.size + 1) h.objs.size 0 .none := hE
  have hI : h₂.IsListIter h.objs.size l 0 := hI
  have hsz : h₂.objs.size = h.objs.size + 2 := hsz
  refine wpAny_pyIter_enum (s := St s h₂ tk) hE ?_
  have W := (WalksT.enumerate (prog := Pg) (w := w) hA (h.objs.size + 1) h.objs.size l (Nat.succ_ne_self _) (Nat.ne_of_lt (Nat.lt_succ_of_lt hlt)) (Nat.ne_of_lt hlt) vs.toArray).toU
  refine hq (h.objs.size + 1) h.objs.size h₂ (fun i hh => (∃ old, IsEnum hh (h.objs.size + 1) h.objs.size i old) ∧ hh.IsListIter h.objs.size l i ∧ hh.IsList l vs.toArray) (fun i T hh => (∃ x, IsEnumOut hh (h.objs.size + 1) h.objs.size ((i : Int) + 1) x T) ∧ hh.IsListIter h.objs.size l (i + 1) ∧ hh.IsList l vs.toArray ∧ T ≠ h.objs.size + 1 ∧ T ≠ h.objs.size) (by simpa using W) ?_ ⟨⟨_, hE⟩, hI, hl.isList.at fun o e => hk l o e⟩ hk (Heap.get?_none_of_le (Nat.le_succ _)) (noAt h) ?_ (Nat.ne_of_lt (Nat.lt_succ_of_lt hlt)) (Nat.ne_of_lt hlt)
  · rintro i h ⟨⟨old, he⟩, ⟨o, ho, _⟩, _⟩ b hb
    simp at hb
    rcases hb with rfl | rfl
    · exact ⟨_, he⟩
    · exact ⟨_, ho⟩
  · intro b hb
    rw [hsz]
    simp at hb
    rcases hb with rfl | rfl | rfl
    · exact Nat.lt_succ_self _
    · exact Nat.lt_succ_of_lt (Nat.lt_succ_self _)
    · exact Nat.lt_succ_of_lt (Nat.lt_succ_of_lt hlt)
end
end Mine

namespace Mine

structure RestOk (w : List Nat) : Prop where
  good : ∀ c ∈ w, goodSign c = true
  short : ∀ c ∈ w, (den c).length ≤ 1
  plain : ∀ c ∈ prep w, c ≤ 122
  len : w.length ≤ 5
theorem prep_cons (c : Nat) (r : List Nat) : prep (c :: r) = den c ++ prep r := by simp [prep]
theorem prep_append (a b : List Nat) : prep (a ++ b) = prep a ++ prep b := by simp [prep]
theorem RestOk.tail {c : Nat} {r : List Nat} (h : RestOk (c :: r)) : RestOk r :=
  ⟨fun d hd => h.good d (List.mem_cons_of_mem _ hd), fun d hd => h.short d (List.mem_cons_of_mem _ hd), fun d hd => h.plain d (by rw [prep_cons]; exact List.mem_append_right _ hd), by have := h.len; simp at this; omega⟩
theorem WordOk.rest {sp pl : List Nat} (h : WordOk sp pl) (hl : sp.length ≤ 5) : RestOk sp := ⟨h.good, h.short, fun c hc => (h.plain c (h.prep ▸ hc)).2, hl⟩

/-- the two ways to riffle -/
noncomputable def ltOf (b : Bool) : Ent → Ent → Bool := if b then Ent.lt else lt'
noncomputable def enOf (b : Bool) : List Nat := if b then [126] else []
noncomputable def btOf (b : Bool) : Nat → Nat → Bool := if b then lower else higher
theorem total_of (b : Bool) : Total (ltOf b) := by cases b; exact total_lt'; exact total_lt
theorem ord_of (b : Bool) : Ord (btOf b) := by cases b; exact ord_higher; exact ord_lower
theorem fit_of (b : Bool) {x y : Ent} (hx : x.key = prep x.word ++ enOf b) (hy : y.key = prep y.word ++ enOf b) (ox : RestOk x.word) (oy : RestOk y.word) (h : ltOf b y x = false) : ge (btOf b) (prep x.word) (prep y.word) = true := by
  have hlt : ∀ a b : Ent, a.lt b = false → ¬ (a.key < b.key) := by
    intro a b h q
    unfold Ent.lt at h
    rw [if_neg (fun e => List.lt_irrefl _ (e ▸ q))] at h
    simp only [decide_eq_false_iff_not] at h
    exact h q
  cases b with
  | false =>
    have h : x.lt y = false := h
    have := hlt _ _ h
    rw [hx, hy] at this
    simp only [enOf, Bool.false_eq_true, if_false, List.append_nil] at this
    exact ge_higher this
  | true =>
    have h : y.lt x = false := h
    have := hlt _ _ h
    rw [hx, hy] at this
    simp only [enOf, if_true] at this
    exact ge_lower_end ox.plain oy.plain this

noncomputable abbrev Told := Addr × (Nat × Nat)
structure Inv (b : Bool) (f : Rests) (H : List Item) (X : List Told) (R : Rests) : Prop where
  len : H.length ≤ 3
  apart : Apart H
  mini : Mini (ltOf b) H
  ent : ∀ p ∈ H, p.2.place < 3 ∧ p.2.key = prep p.2.word ++ enOf b ∧ RestOk p.2.word ∧ R p.2.place = p.2.word
  gone : ∀ i, i < 3 → (∀ p ∈ H, p.2.place ≠ i) → R i = []
  told : ∀ i, i < 3 → (X.filter (fun p => decide (p.2.1 = i))).map (·.2.2) ++ R i = f i
  best : ∀ t, Best (btOf b) (fun i => prep (R i)) t → Best (btOf b) (fun i => prep (f i)) (prep (X.map (·.2.2)) ++ t)
  signs : ∀ p ∈ X, p.2.1 < 3 ∧ goodSign p.2.2 = true
  count : X.length + total R = total f

theorem apart_perm {X Y : List Item} (h : X.Perm Y) (hx : Apart X) : Apart Y := by
  have key : ∀ Z : List Item, Apart Z ↔ (Z.map fun p => p.2.place).Nodup := by
    intro Z
    rw [List.Nodup, List.pairwise_iff_getElem]
    constructor
    · intro h i j hi hj hij
      simp only [List.length_map] at hi hj
      simp only [List.getElem_map]
      exact h i j _ _ (List.getElem?_eq_getElem hi) (List.getElem?_eq_getElem hj) (by omega)
    · intro h i j p q hp hq hij
      obtain ⟨hi, rfl⟩ := List.getElem?_eq_some_iff.mp hp
      obtain ⟨hj, rfl⟩ := List.getElem?_eq_some_iff.mp hq
      rcases Nat.lt_or_gt_of_ne hij with h' | h'
      · have := h i j (by simpa using hi) (by simpa using hj) h'
        simpa using this
      · have := h j i (by simpa using hj) (by simpa using hi) h'
        simp only [List.getElem_map] at this
        exact Ne.symm this
  rw [key] at hx ⊢
  exact (h.map _).nodup hx
theorem apart_cons {p : Item} {X : List Item} : Apart (p :: X) ↔ (∀ q ∈ X, p.2.place ≠ q.2.place) ∧ Apart X := by
  constructor
  · intro h
    constructor
    · intro q hq
      obtain ⟨i, hi, rfl⟩ := List.mem_iff_getElem.mp hq
      exact h 0 (i + 1) p _ rfl (by simp [hi]) (by omega)
    · intro i j a b hi hj hij
      exact h (i + 1) (j + 1) a b (by simpa using hi) (by simpa using hj) (by omega)
  · rintro ⟨h1, h2⟩ i j a b hi hj hij
    match i, j with
    | 0, 0 => omega
    | 0, j + 1 =>
      simp at hi hj; subst hi
      exact h1 b (List.mem_of_getElem? hj)
    | i + 1, 0 =>
      simp at hi hj; subst hj
      exact (h1 a (List.mem_of_getElem? hi)).symm
    | i + 1, j + 1 => exact h2 i j a b (by simpa using hi) (by simpa using hj) (by omega)
theorem apart_su {b : Bool} {X : List Item} (hX : X.length ≤ 3) (h : Apart X) : Apart (su (ltOf b) X) := apart_perm (su_perm _ X hX).symm h

theorem Inv.apart_new {b : Bool} {f : Rests} {x it : Item} {Y : List Item} {X : List Told} {R : Rests} (V : Inv b f (x :: Y) X R) (hp : it.2.place = x.2.place) : Apart (it :: Y) := by
  have := apart_cons.mp V.apart
  exact apart_cons.mpr ⟨fun q hq => by rw [hp]; exact this.1 q hq, this.2⟩

theorem Inv.replace {b : Bool} {f : Rests} {x it : Item} {Y : List Item} {X : List Told} {R : Rests} {c : Nat} {r : List Nat} {ra : Addr} (V : Inv b f (x :: Y) X R) (hw : x.2.word = c :: r)
    (hit : it.2 = ⟨prep r ++ enOf b, x.2.place, r⟩) : Inv b f (su (ltOf b) (it :: Y)) (X ++ [(ra, (x.2.place, c))]) (setR R x.2.place r) ∧ total (setR R x.2.place r) + 1 = total R := by
  have hlen : (it :: Y).length ≤ 3 := by have := V.len; simpa using this
  obtain ⟨e1, e2, e3, e4⟩ := V.ent x List.mem_cons_self
  have hap := V.apart_new (it := it) (by rw [hit])
  have hRx : R x.2.place = c :: r := e4.trans hw
  have htot := total_set e1 hRx
  have hY := (apart_cons.mp V.apart).1
  refine ⟨⟨by rw [(su_perm _ _ hlen).length_eq]; exact hlen, apart_su hlen hap, mini_su (total_of b) hlen hap, ?_, ?_, ?_, ?_, ?_, ?_⟩, htot⟩
  · intro p hp
    have hp := (su_perm _ _ hlen).mem_iff.mp hp
    rcases List.mem_cons.mp hp with rfl | hp
    · rw [hit]
      exact ⟨e1, rfl, RestOk.tail (c := c) (hw ▸ e3), setR_eq _ _ _⟩
    · obtain ⟨a1, a2, a3, a4⟩ := V.ent p (List.mem_cons_of_mem _ hp)
      exact ⟨a1, a2, a3, by rw [setR_ne _ _ (hY p hp).symm]; exact a4⟩
  · intro i hi hno
    have hx : i ≠ x.2.place := fun e => hno it ((su_perm _ _ hlen).mem_iff.mpr List.mem_cons_self) (by rw [hit]; exact e.symm)
    rw [setR_ne _ _ hx]
    refine V.gone i hi fun p hp => ?_
    rcases List.mem_cons.mp hp with rfl | hp
    · exact Ne.symm hx
    · exact hno p ((su_perm _ _ hlen).mem_iff.mpr (List.mem_cons_of_mem _ hp))
  · intro i hi
    have := V.told i hi
    rw [List.filter_append, List.map_append]
    by_cases hx : i = x.2.place
    · subst hx
      rw [setR_eq]
      rw [hRx] at this
      simpa using this
    · rw [setR_ne _ _ hx]
      have hx' : ¬ x.2.place = i := fun e => hx e.symm
      simpa [hx'] using this
  · intro t ht
    rw [List.map_append, prep_append]
    have hc := e3.short c (by rw [hw]; exact List.mem_cons_self)
    have key : Best (btOf b) (fun i => prep (R i)) (den c ++ t) := by
      rcases hd : den c with _ | ⟨l, q⟩
      · refine ht.congr fun i hi => ?_
        by_cases hx : i = x.2.place
        · subst hx; show prep (setR R x.2.place r x.2.place) = prep (R x.2.place)
          rw [setR_eq, hRx, prep_cons, hd]; rfl
        · show prep (setR R x.2.place r i) = prep (R i)
          rw [setR_ne _ _ hx]
      · rw [hd] at hc
        have hq : q = [] := by cases q with | nil => rfl | cons _ _ => simp at hc
        subst hq
        have hpx : prep x.2.word = l :: prep r := by rw [hw, prep_cons, hd]; rfl
        refine Best.greedy (ord_of b) (i := x.2.place) (x := l) (r := prep r) e1 (by show prep (R x.2.place) = _; rw [e4]; exact hpx) ?_ ?_
        · intro j hj hjx
          show ge (btOf b) (l :: prep r) (prep (R j)) = true
          by_cases hpres : ∃ p ∈ Y, p.2.place = j
          · obtain ⟨p, hp, rfl⟩ := hpres
            obtain ⟨a1, a2, a3, a4⟩ := V.ent p (List.mem_cons_of_mem _ hp)
            rw [a4, ← hpx]
            exact fit_of b e2 a2 e3 a3 (V.mini p hp)
          · rw [V.gone j hj fun p hp => by
              rcases List.mem_cons.mp hp with rfl | hp
              · exact Ne.symm hjx
              · exact fun e => hpres ⟨p, hp, e⟩]
            exact ge_nil _ _
        · refine ht.congr fun i hi => ?_
          by_cases hx : i = x.2.place
          · subst hx; show prep (setR R x.2.place r x.2.place) = setR (fun i => prep (R i)) x.2.place (prep r) x.2.place
            rw [setR_eq, setR_eq]
          · show prep (setR R x.2.place r i) = setR (fun i => prep (R i)) x.2.place (prep r) i
            rw [setR_ne _ _ hx, setR_ne _ _ hx]
    have := V.best _ key
    simpa [prep, List.append_assoc] using this
  · intro p hp
    rcases List.mem_append.mp hp with hp | hp
    · exact V.signs p hp
    · simp at hp; subst hp; exact ⟨e1, e3.good c (by rw [hw]; exact List.mem_cons_self)⟩
  · have := V.count
    simp only [List.length_append, List.length_cons, List.length_nil]
    omega

theorem Inv.drop {b : Bool} {f : Rests} {H H' : List Item} {x : Item} {X : List Told} {R : Rests} (V : Inv b f H X R) (hx : x ∈ H) (hw : x.2.word = []) (hp : (x :: H').Perm H) : Inv b f (su (ltOf b) H') X R := by
  have hl : H'.length + 1 ≤ 3 := by have := hp.length_eq; have := V.len; simp at *; omega
  have hlen : H'.length ≤ 3 := by omega
  have hap : Apart H' := (apart_cons.mp (apart_perm hp.symm V.apart)).2
  have hsub : ∀ p ∈ H', p ∈ H := fun p hp' => hp.mem_iff.mp (List.mem_cons_of_mem _ hp')
  refine ⟨by rw [(su_perm _ _ hlen).length_eq]; exact hlen, apart_su hlen hap, mini_su (total_of b) hlen hap, fun p hp' => V.ent p (hsub p ((su_perm _ _ hlen).mem_iff.mp hp')), ?_, V.told, V.best, V.signs, V.count⟩
  intro i hi hno
  by_cases hxi : x.2.place = i
  · subst hxi
    exact (V.ent x hx).2.2.2.trans hw
  · refine V.gone i hi fun p hp' => ?_
    rcases List.mem_cons.mp (hp.mem_iff.mpr hp') with rfl | hp'
    · exact hxi
    · exact hno p ((su_perm _ _ hlen).mem_iff.mpr hp')

/-- what the row is -/
structure RowOk (b : Bool) (f : Rests) (X : List Told) : Prop where
  told : ∀ i, i < 3 → (X.filter (fun p => decide (p.2.1 = i))).map (·.2.2) = f i
  best : Best (btOf b) (fun i => prep (f i)) (prep (X.map (·.2.2)))
  signs : ∀ p ∈ X, p.2.1 < 3 ∧ goodSign p.2.2 = true
  count : X.length ≤ total f
theorem Inv.done {b : Bool} {f : Rests} {X : List Told} {R : Rests} (V : Inv b f [] X R) : RowOk b f X := by
  have hR : ∀ i, i < 3 → R i = [] := fun i hi => V.gone i hi fun p hp => nomatch hp
  refine ⟨fun i hi => ?_, ?_, V.signs, by have := V.count; omega⟩
  · have := V.told i hi; rw [hR i hi, List.append_nil] at this; exact this
  · have := V.best [] (Best.nil fun i hi => by show prep (R i) = []; rw [hR i hi]; rfl)
    rw [List.append_nil] at this; exact this
theorem Inv.start {b : Bool} {f : Rests} {H : List Item} (hf : ∀ i, i < 3 → RestOk (f i)) (hH : H.map (·.2) = (List.range 3).map fun i => (⟨prep (f i) ++ enOf b, i, f i⟩ : Ent)) : H.length = 3 ∧ Apart H ∧ Inv b f (su (ltOf b) H) [] f := by
  have h3 : H.length = 3 := by simpa using congrArg List.length hH
  match H, h3, hH with
  | [p0, p1, p2], _, hH =>
    have hH' : p0.2 = ⟨prep (f 0) ++ enOf b, 0, f 0⟩ ∧ p1.2 = ⟨prep (f 1) ++ enOf b, 1, f 1⟩ ∧ p2.2 = ⟨prep (f 2) ++ enOf b, 2, f 2⟩ := by
      have : (List.range 3) = [0, 1, 2] := rfl
      rw [this] at hH
      simpa using hH
    obtain ⟨q0, q1, q2⟩ := hH'
    have hap : Apart [p0, p1, p2] := by
      refine apart_cons.mpr ⟨?_, apart_cons.mpr ⟨?_, apart_cons.mpr ⟨?_, ?_⟩⟩⟩
      · intro q hq; simp at hq; rcases hq with rfl | rfl <;> simp [q0, q1, q2]
      · intro q hq; simp at hq; subst hq; simp [q1, q2]
      · intro q hq; cases hq
      · intro i j p q hi; simp at hi
    have hlen : [p0, p1, p2].length ≤ 3 := Nat.le_refl _
    refine ⟨rfl, hap, by rw [(su_perm _ _ hlen).length_eq]; exact hlen, apart_su hlen hap, mini_su (total_of b) hlen hap, ?_, ?_, fun i hi => rfl, fun t ht => ht, (fun p hp => nomatch hp), Nat.zero_add _⟩
    · intro p hp
      have hp := (su_perm _ _ hlen).mem_iff.mp hp
      simp at hp
      rcases hp with rfl | rfl | rfl
      · rw [q0]; exact ⟨by show 0 < 3; omega, rfl, hf 0 (by omega), rfl⟩
      · rw [q1]; exact ⟨by show 1 < 3; omega, rfl, hf 1 (by omega), rfl⟩
      · rw [q2]; exact ⟨by show 2 < 3; omega, rfl, hf 2 (by omega), rfl⟩
    · intro i hi hno
      exfalso
      have : i = 0 ∨ i = 1 ∨ i = 2 := by omega
      rcases this with rfl | rfl | rfl
      · exact hno p0 ((su_perm _ _ hlen).mem_iff.mpr (by simp)) (by rw [q0])
      · exact hno p1 ((su_perm _ _ hlen).mem_iff.mpr (by simp)) (by rw [q1])
      · exact hno p2 ((su_perm _ _ hlen).mem_iff.mpr (by simp)) (by rw [q2])
end Mine

namespace Mine

structure RowIs (h : Heap) (g : Addr) (X : List Told) : Prop where
  list : h.PlainList g (X.map fun p => Value.ref p.1).toArray
  tups : ∀ p ∈ X, ∃ t u, h.IsTuple p.1 #[.int (p.2.1 : Int) t, .str (sg [p.2.2]) u]
theorem tup_ne_list {h : Heap} {r l : Addr} {vs items : Array Value} (x : h.IsTuple r vs) (hl : h.PlainList l items) : r ≠ l := by
  rintro rfl
  obtain ⟨o, ho, hc, _⟩ := x
  obtain ⟨n, ho'⟩ := hl
  rw [ho] at ho'
  cases ho'
  simp at hc
theorem tup_ne_ns {h : Heap} {r L : Addr} {vs : Array Value} {m : Str → Option Value} (x : h.IsTuple r vs) (hn : h.Ns L m) : r ≠ L := by
  rintro rfl
  obtain ⟨o, ho, hc, n, hd⟩ := x
  obtain ⟨o', es, ep, ho', hd', _⟩ := hn
  rw [ho] at ho'
  cases ho'
  rw [hd] at hd'
  cases hd'
theorem cell_ne_list {h : Heap} {c l : Addr} {v : Option Value} {items : Array Value} (x : h.IsCell c v) (hl : h.PlainList l items) : c ≠ l := by
  rintro rfl
  obtain ⟨o, ho, hd⟩ := x
  obtain ⟨n, ho'⟩ := hl
  rw [ho] at ho'
  cases ho'
  cases hd
theorem cell_ne_ns {h : Heap} {c L : Addr} {v : Option Value} {m : Str → Option Value} (x : h.IsCell c v) (hn : h.Ns L m) : c ≠ L := by
  rintro rfl
  obtain ⟨o, ho, hd⟩ := x
  obtain ⟨o', es, ep, ho', hd', _⟩ := hn
  rw [ho] at ho'
  cases ho'
  rw [hd] at hd'
  cases hd'
theorem RowIs.ko {h h' : Heap} {g : Addr} {X : List Told} {ow : List Addr} (x : RowIs h g X) (k : KpO ow h h') (hg : g ∉ ow) (ht : ∀ p ∈ X, p.1 ∉ ow) : RowIs h' g X :=
  ⟨x.list.at fun o e => k g o hg e, fun p hp => let ⟨t, u, z⟩ := x.tups p hp; ⟨t, u, z.at fun o e => k _ o (ht p hp) e⟩⟩
theorem RowIs.keeps {h h' : Heap} {g : Addr} {X : List Told} (x : RowIs h g X) (k : Kp h h') : RowIs h' g X := x.ko (k.o []) (by simp) (by simp)
theorem RowIs.ne_list {h : Heap} {g l : Addr} {X : List Told} {items : Array Value} (x : RowIs h g X) (hl : h.PlainList l items) : ∀ p ∈ X, p.1 ≠ l := fun p hp => let ⟨_, _, z⟩ := x.tups p hp; tup_ne_list z hl
theorem RowIs.ne_ns {h : Heap} {g L : Addr} {X : List Told} {m : Str → Option Value} (x : RowIs h g X) (hn : h.Ns L m) : ∀ p ∈ X, p.1 ≠ L := fun p hp => let ⟨_, _, z⟩ := x.tups p hp; tup_ne_ns z hn
theorem RowIs.ns {h h' : Heap} {g L : Addr} {X : List Told} {m : Str → Option Value} (x : RowIs h g X) (hn : h.Ns L m) (k : KpO [L] h h') : RowIs h' g X :=
  x.ko k (by simpa using list_ne_ns x.list hn) fun p hp => by simpa using x.ne_ns hn p hp
theorem RowIs.li {h h' : Heap} {g l : Addr} {X : List Told} {items : Array Value} (x : RowIs h g X) (hl : h.PlainList l items) (hne : g ≠ l) (k : KpO [l] h h') : RowIs h' g X :=
  x.ko k (by simpa using hne) fun p hp => by simpa using x.ne_list hl p hp
theorem HeapIs.li {h h' : Heap} {g l : Addr} {X : List Item} {items : Array Value} (x : HeapIs h g X) (hl : h.PlainList l items) (hne : g ≠ l) (k : KpO [l] h h') : HeapIs h' g X :=
  ⟨x.list.at fun o e => k g o (by simpa using hne) e, fun p hp => (x.ents p hp).at fun o e => k _ o (by simpa using (x.ents p hp).ne_list hl) e⟩

theorem prep_len {l : List Nat} (h : ∀ c ∈ l, (den c).length ≤ 1) : (prep l).length ≤ l.length := by
  induction l with
  | nil => exact Nat.le_refl _
  | cons c r ih =>
    have h1 := h c List.mem_cons_self
    have h2 := ih fun d hd => h d (List.mem_cons_of_mem _ hd)
    rw [prep_cons, List.length_append, List.length_cons]
    omega
theorem en_len (b : Bool) : (enOf b).length ≤ 1 := by cases b <;> decide
theorem RestOk.fits {l : List Nat} (h : RestOk l) (b : Bool) : (prep l).length + (enOf b).length ≤ sizeLine := by
  have h1 := prep_len h.short
  have h2 := h.len
  have h3 := en_len b
  unfold sizeLine; omega
theorem c_list {w : World} {A : Around} {E : Value → Shared → Prop} {s : Shared} {h : Heap} {tk : Nat} {items : List Value} {Q : Value → Shared → Prop} (hsz : items.length ≤ 1000) (hq : ∀ l h', Kp h h' → h.get? l = none → h'.PlainList l items.toArray → Q (.ref l) (St s h' tk)) :
    wpAny (model Pg w) A (newList items) Q E (St s h tk) :=
  wpAny_newObj_type (s := St s h tk) (hq _ _ (Kp.push h _) (noAt h) ⟨_, Heap.get?_push_size _ rfl⟩) (by show items.toArray.size ≤ sizeLine; rw [List.size_toArray]; unfold sizeLine; omega)
theorem q_st {w : World} {A : Around} {E : Value → Shared → Prop} {s : Shared} {h : Heap} {tk : Nat} {i : Nat} {L a : Addr} {cd : Value} {m : Str → Option Value} {x : Str} {v : Value} {Q : Unit → Shared → Prop} (hn : h.Ns L m)
    (hq : ∀ h' tk', h'.Ns L (fun y => if y = x then some v else m y) → KpO [L] h h' → Q () (St s h' tk'))
    (hk : (genv i L a cd).scope.kind = .function := by rfl) (hl : (genv i L a cd).kindOf x = some .local := by rfl) :
    wpAny (model Pg w) A (storeName (genv i L a cd) x v) Q E (St s h tk) := g_st (env := genv i L a cd) hn hq hk hl
theorem pop_apart {b : Bool} {f : Rests} {x z : Item} {Y Hx : List Item} {X : List Told} {R : Rests} (V : Inv b f (x :: Y) X R) (hH : x :: Y = Hx ++ [z]) : ∀ x' Y', Hx = x' :: Y' → Apart (z :: Y') := by
  rintro x' Y' rfl
  have h1 := V.apart
  rw [hH, List.cons_append] at h1
  have h2 := (apart_cons.mp h1).2
  exact apart_perm (List.perm_append_singleton z Y') h2
theorem pop_inv {b : Bool} {f : Rests} {x z : Item} {Y Hx X' : List Item} {X : List Told} {R : Rests} (V : Inv b f (x :: Y) X R) (hw : x.2.word = []) (hH : x :: Y = Hx ++ [z])
    (h1 : Hx = [] → X' = []) (h2 : ∀ x' Y', Hx = x' :: Y' → X' = su (ltOf b) (z :: Y')) : Inv b f X' X R ∧ X'.length + 1 = (x :: Y).length := by
  rcases Hx with _ | ⟨x', Y'⟩
  · rw [h1 rfl]
    have := V.drop (H' := []) List.mem_cons_self hw (by have hH' := hH; simp at hH'; rw [hH'.2])
    exact ⟨this, by rw [hH]; rfl⟩
  · rw [h2 _ _ rfl]
    rw [List.cons_append] at hH
    injection hH with q1 q2
    subst q1 q2
    have hl := V.len
    have := V.drop (H' := z :: Y') List.mem_cons_self hw ((List.perm_append_singleton z Y').symm.cons _)
    refine ⟨this, ?_⟩
    rw [(su_perm _ _ (by simp at hl ⊢; omega)).length_eq]
    simp
theorem mem21 : dOf 21 ∈ allDefs := by simp [allDefs, ds4]
theorem boot_enum : bootBuiltins "enumerate" = some (.type "enumerate") := boots.2.2.2.2.2.2.2.1

structure RfM (l g : Addr) (b : Bool) (m : Str → Option Value) : Prop where
  heap : m "heap" = some (.ref l)
  given : m "given" = some (.ref g)
  rising : m "rising" = some (.bool b)

/-- the words of the list -/
noncomputable def WordsAre (h : Heap) (wl : Addr) (f : Rests) : Prop := ∃ t0 t1 t2, h.PlainList wl #[.str (sg (f 0)) t0, .str (sg (f 1)) t1, .str (sg (f 2)) t2]

set_option maxHeartbeats 1000000 in
theorem riffled_spec {w : World} {A : Around} {E : Value → Shared → Prop} {s : Shared} {B h : Heap} {tk : Nat} {mg mb : Str → Option Value} {k b1 b3 wl : Addr} {b : Bool} {f : Rests} {Q : Value → Shared → Prop}
    (T : Tops w B mg mb k b1 b3) (kB : Kp B h) (R : Room A 8 30) (hw : WordsAre h wl f) (hf : ∀ i, i < 3 → RestOk (f i))
    (hq : ∀ g h' tk' X, Kp h h' → h.get? g = none → RowIs h' g X → RowOk b f X → Q (.ref g) (St s h' tk')) :
    wpAny (model Pg w) A (call (.ref (fa mg 21)) [.ref wl, .bool b]) Q E (St s h tk) := by
  refine enterC (i := 21) (d := 7) (u := 27) (binds := [("words", .ref wl), ("rising", .bool b)]) ["words", "rising"] T kB mem21 R (fun pm cd doc => by rfl) rfl (by decide +kernel) ?_
  intro A' L a cd h₁ tk₁ R' hL hn₁ C₁ k₁
  have kB₁ : Kp B h₁ := kB.trans k₁
  have hcl : (cellsFrom (L + 1) (dOf 21).scope.names []) = [(Str.ofString "end", L + 1)] := by rfl
  have hce : h₁.IsCell (L + 1) none := C₁.cell "end" (L + 1) (by rw [hcl]; rfl)
  have hfL : h.get? L = none := by rw [hL]; exact noAt h
  have hfc : h.get? (L + 1) = none := by rw [hL]; exact Heap.get?_none_of_le (Nat.le_succ _)
  obtain ⟨t0, t1, t2, hwl⟩ := hw
  conv in (dOf 21).body => whnf
  refine wpAny_execs_cons ?_
  refine wpAny_Assign_Name ?_
  refine wpAny_mono (Q := fun v s' => ∃ t' tk', v = .str (sg (enOf b)) t' ∧ s' = St s h₁ tk') ?_ ?_ (fun _ _ e => e)
  · refine wpAny_IfExp ?_
    refine wpAny_isTrue_value ?_
    refine g_ld (env := genv 21 L a cd) hn₁ (by rfl) ?_
    refine wpAny_truthy_bool ?_
    cases b with
    | true =>
      rw [if_pos rfl]
      refine r_str ?_
      intro t tk
      exact ⟨t, tk, congrArg (Value.str · t) (by decide +kernel), rfl⟩
    | false =>
      rw [if_neg (by decide)]
      refine r_str ?_
      intro t tk
      exact ⟨t, tk, congrArg (Value.str · t) (by decide +kernel), rfl⟩
  rintro v s' ⟨te, tk₂, rfl, rfl⟩
  refine g_stc (env := genv 21 L a cd) hce (by rfl) ?_
  intro h₂ hc₂ k₂
  have hn₂ : h₂.Ns L _ := Ns.ko hn₁ k₂ (by simpa using (cell_ne_ns hce hn₁).symm)
  have kk₂ : Kp h h₂ := KpO.base k₁ k₂ (by simpa using hfc)
  have kB₂ : Kp B h₂ := kB.trans kk₂
  dsimp only
  refine wpAny_execs_cons ?_
  refine r_comp_to (env := genv 21 L a cd) (cl := [("end", L + 1)]) (by rfl) (by rfl) (by decide +kernel) (by rfl) (by decide +kernel) (by rfl) (by rfl) hn₂ ?_
  refine Call_Name1 ?_
  refine g_bi T kB₂ boot_enum ?_
  refine PySem.callWith_type1 ?_
  refine g_ld (env := genv 21 L a cd) hn₂ (by rfl) ?_
  have hwl₂ : h₂.PlainList wl [Value.str (sg (f 0)) t0, .str (sg (f 1)) t1, .str (sg (f 2)) t2].toArray := hwl.at fun o e => kk₂ _ _ e
  refine it_enum R'.handled hwl₂ ?_
  intro I it h₃ It Mid W hlv h0 k₃ hI hit hlt hlI hlit
  refine ⟨I, [I, it, wl], [I, it], 3, h₃, tk₂, _, _, fun bad i hh ys => ∃ X : List Item, ys = refs X ∧ X.map (·.2) = (List.range i).map (fun i => (⟨prep (f i) ++ enOf b, i, f i⟩ : Ent)) ∧ (∀ p ∈ X, IsEnt hh p.1 p.2 ∧ p.1 ∉ bad), rfl, rfl,
    Start.walkU W R'.handled (by rintro i vs ⟨t, x, _, rfl⟩; exact ⟨_, _, rfl⟩) (by decide) k₃ (by decide) (fun b hb => by simp at hb; rcases hb with rfl | rfl; exact hI; exact hit) hlt hlv h0 (by rfl) (by rfl) (by rfl), ?_, ?_⟩
  · refine ⟨fun _ _ _ => ⟨[], rfl, rfl, fun p hp => nomatch hp⟩, ?_, ?_⟩
    · rintro bad i hh hh' ys ⟨X, rfl, e2, e3⟩ kk
      exact ⟨X, rfl, e2, fun p hp => ⟨(e3 p hp).1.at fun o e => kk _ o (e3 p hp).2 e, (e3 p hp).2⟩⟩
    · rintro C bad i h₄ tk₄ ys E' hi ⟨m, v₁, v₂, hm, hp₁, hp₂, t, x, hx, hv⟩ ⟨X, rfl, e2, e3⟩ _ k₄ hbad
      have kB₄ : Kp B h₄ := kB₂.trans k₄
      have hv' : v₁ = .int (i : Int) t ∧ v₂ = x := by simpa using hv
      obtain ⟨rfl, rfl⟩ := hv'
      obtain ⟨tx, rfl⟩ : ∃ tx, v₂ = .str (sg (f i)) tx := by
        have : i = 0 ∨ i = 1 ∨ i = 2 := by omega
        rcases this with rfl | rfl | rfl <;> (simp at hx; exact ⟨_, hx.symm⟩)
      have hok := hf i hi
      refine wpAny_tests_nil ?_
      refine ⟨h₄, tk₄, rfl, Kp.refl _, ?_⟩
      rw [if_pos rfl]
      refine Tuple_ ?_
      refine args_cons ?_
      refine wpAny_BinOp ?_
      refine Call_Name1 ?_
      refine g_fn T kB₄ mem20 (by rfl) ?_
      refine c_fn1 T mem20 ?_
      refine g_ld hm hp₂ ?_
      refine ⟨⟨_, _, rfl, kB₄⟩, ?_⟩
      refine prep_spec T kB₄ (R'.less (by decide) (by decide)) hok.good (by have := hok.len; omega) ?_
      intro t₅ h₅ tk₅ k₅
      refine g_cell (c := L + 1) ((hc₂.keeps k₄).keeps k₅) (by rfl) ?_
      refine s_add ?_ ?_
      · exact hok.fits b
      intro t₆ tk₆
      refine args_cons ?_
      refine g_ld (hm.keeps k₅) hp₁ ?_
      refine args_cons ?_
      refine g_ld (hm.keeps k₅) hp₂ ?_
      refine args_nil ?_
      refine c_tup (by simp) ?_
      intro r h₆ k₆ hr hT _
      refine ⟨h₆, tk₆, rfl, k₅.trans k₆, X ++ [(r, ⟨prep (f i) ++ enOf b, i, f i⟩)], by simp [refs], ?_, ?_⟩
      · rw [List.map_append, e2, List.range_succ, List.map_append]; rfl
      · intro p hp
        rcases List.mem_append.mp hp with hp | hp
        · exact ⟨((e3 p hp).1.keeps k₅).keeps k₆, (e3 p hp).2⟩
        · simp at hp; subst hp
          refine ⟨⟨_, _, _, hT⟩, fun hb => ?_⟩
          obtain ⟨o, ho⟩ := hbad _ hb
          have ho := k₅ _ _ ho
          have hr : h₅.get? r = none := hr
          have ho : h₅.get? r = some o := ho
          rw [hr] at ho; cases ho
  · rintro D bad h₄ tk₄ ys ⟨X, rfl, e2, e3⟩ hD k₄ hDf hDL hn₄
    have k₄ : KpO [L] h₂ h₄ := k₄
    have hn₄ : h₄.Ns L _ := hn₄
    have H₄ : HeapIs h₄ D X := ⟨hD, fun p hp => (e3 p hp).1⟩
    obtain ⟨hX3, hap, V⟩ := Inv.start (b := b) hf e2
    have hLn : h.get? L = none := hfL
    have kk₄ : Kp h h₄ := KpO.base kk₂ k₄ (by simpa using hfL)
    have kB₄ : Kp B h₄ := kB.trans kk₄
    have hDB : B.get? D = none := none_of kB₂ hDf
    have hDh : h.get? D = none := none_of kk₂ hDf
    have hc₄ : h₄.IsCell (L + 1) (some (.str (sg (enOf b)) te)) := IsCell.ko hc₂ k₄ (by simpa using cell_ne_ns hc₂ hn₂)
    dsimp only
    refine wpAny_execs_cons ?_
    refine wpAny_mono (Q := fun fl s' => fl = .next ∧ ∃ h' tk', s' = St s h' tk' ∧ HeapIs h' D (su (ltOf b) X) ∧ KpO [D] h₄ h') ?_ ?_ (fun _ _ e => e)
    · refine wpAny_If ?_
      refine wpAny_isTrue_value ?_
      refine g_ld (env := genv 21 L a cd) hn₄ (by rfl) ?_
      refine wpAny_truthy_bool ?_
      cases b with
      | true =>
        rw [if_pos rfl]
        refine wpAny_execs_cons ?_
        refine wpAny_Expr ?_
        refine Call_Name1 ?_
        refine g_fn T kB₄ mem3 (by rfl) ?_
        refine c_fn1 T mem3 ?_
        refine g_ld (env := genv 21 L a cd) hn₄ (by rfl) ?_
        refine ⟨⟨_, _, rfl, kB₄⟩, ?_⟩
        refine heapify_spec T kB₄ hDB (R'.less (by decide) (by decide)) H₄ hX3 hap ?_
        intro h₅ tk₅ H₅ k₅
        dsimp only
        refine wpAny_execs_nil ?_
        exact ⟨rfl, h₅, tk₅, rfl, H₅, k₅⟩
      | false =>
        rw [if_neg (by decide)]
        refine wpAny_execs_cons ?_
        refine wpAny_Expr ?_
        refine Call_Name1 ?_
        refine g_fn T kB₄ mem6 (by rfl) ?_
        refine c_fn1 T mem6 ?_
        refine g_ld (env := genv 21 L a cd) hn₄ (by rfl) ?_
        refine ⟨⟨_, _, rfl, kB₄⟩, ?_⟩
        refine heapify_max_spec T kB₄ hDB (R'.less (by decide) (by decide)) H₄ hX3 hap ?_
        intro h₅ tk₅ H₅ k₅
        dsimp only
        refine wpAny_execs_nil ?_
        exact ⟨rfl, h₅, tk₅, rfl, H₅, k₅⟩
    rintro fl s' ⟨rfl, h₅, tk₅, rfl, H₅, k₅⟩
    have hn₅ : h₅.Ns L _ := ns_o hn₄ H₄.list k₅
    have hc₅ := IsCell.ko hc₄ k₅ (by simpa using cell_ne_list hc₄ H₄.list)
    have kk₅ : Kp h h₅ := KpO.base kk₄ k₅ (by simpa using hDh)
    dsimp only
    refine wpAny_execs_cons ?_
    refine wpAny_Assign_Name ?_
    refine List_ ?_
    refine args_nil ?_
    refine c_list (by simp) ?_
    intro g h₆ k₆ hg hgl
    have hgh : h.get? g = none := none_of kk₅ hg
    have hDg : D ≠ g := list_ne_none H₅.list hg
    have hn₆ := hn₅.keeps k₆
    refine q_st hn₆ ?_
    intro h₇ tk₇ hn₇ k₇
    have H₇ := (H₅.keeps k₆).ns hn₆ k₇
    have hc₇ := IsCell.ko (hc₅.keeps k₆) k₇ (by simpa using cell_ne_ns hc₅ hn₅)
    have hg₇ : RowIs h₇ g [] := RowIs.ns (m := _) ⟨hgl, fun p hp => nomatch hp⟩ hn₆ k₇
    have kk₇ : Kp h h₇ := KpO.base (kk₅.trans k₆) k₇ (by simpa using hfL)
    dsimp only
    refine wpAny_execs_cons ?_
    refine wpAny_While ?_
    obtain ⟨P2, hP2⟩ : ∃ P : Nat → Shared → Prop, ∀ n s', P n s' ↔ (∃ h' tk' m' H X R, s' = St s h' tk' ∧ h'.Ns L m' ∧ RfM D g b m' ∧ HeapIs h' D H ∧ RowIs h' g X ∧ h'.IsCell (L + 1) (some (.str (sg (enOf b)) te)) ∧ Kp h h' ∧ Inv b f H X R ∧ n = total R + H.length) := ⟨_, fun _ _ => Iff.rfl⟩
    refine codeAny_whileLoop P2 ?_ (total f + (su (ltOf b) X).length)
      ((hP2 _ _).mpr ⟨h₇, tk₇, _, _, [], f, rfl, hn₇, ⟨by rfl, by rfl, by rfl⟩, H₇, hg₇, hc₇, kk₇, V, rfl⟩)
    intro n s' hI
    obtain ⟨h', tk', m', H, X, R, rfl, hn', ⟨hmh, hmg, hmr⟩, H', hg', hc', kk', V', rfl⟩ := (hP2 _ _).mp hI
    clear hI
    have kB' : Kp B h' := kB.trans kk'
    have hlen := V'.len
    refine wpAny_isTrue_value ?_
    refine g_ld (env := genv 21 L a cd) hn' hmh ?_
    refine l_truthy H'.list (by rw [refs_length]; omega) ?_
    intro tk₈
    rcases H with _ | ⟨x, Y⟩
    · rw [if_neg (by simp [refs])]
      refine wpAny_execs_nil ?_
      dsimp only
      refine wpAny_execs_cons ?_
      refine wpAny_Return_some ?_
      refine g_ld (env := genv 21 L a cd) hn' hmg ?_
      exact hq g h' tk₈ X kk' hgh hg' V'.done
    · rw [if_pos (by simp [refs])]
      obtain ⟨e1, e2, e3, e4⟩ := V'.ent x List.mem_cons_self
      obtain ⟨tx₁, tx₂, tx₃, hxT⟩ := H'.ents x List.mem_cons_self
      refine wpAny_execs_cons ?_
      refine Assign_Tuple ?_
      refine Subscript_ ?_
      refine Subscript_ ?_
      refine g_ld (env := genv 21 L a cd) hn' hmh ?_
      refine r_int ?_
      intro t₈ tk₉
      refine l_item (vs := refs (x :: Y)) (i := 0) H'.list (by decide) (refs_get (p := x) rfl) ?_
      refine r_slice ?_
      refine wpAny_evalPart_some ?_
      refine r_int ?_
      intro t₉ tk₁₀
      refine wpAny_evalPart_none ?_
      refine ⟨some (1, t₉), none, h', tk₁₀, rfl, rfl, rfl, ?_⟩
      intro sl h₈ k₈ hsl hS
      have hxT₈ := hxT.at fun o e => k₈ _ o e
      refine t_from (i := 1) (vs := x.2.vals tx₁ tx₂ tx₃) hxT₈ hS (by decide) (by simp [Ent.vals]) (by simp [Ent.vals]) ?_
      intro rt h₉ k₉ hrt hrT
      refine a_pair R'.handled (v₁ := .int (x.2.place : Int) tx₂) (v₂ := .str (sg x.2.word) tx₃) (by simpa [Ent.vals] using hrT) ?_
      intro h₁₀ k₁₀
      have k' : Kp h' h₁₀ := (k₈.trans k₉).trans k₁₀
      have hn₁₀ := hn'.keeps k'
      refine q_st hn₁₀ ?_
      intro h₁₁ tk₁₁ hn₁₁ k₁₁
      refine q_st hn₁₁ ?_
      intro h₁₂ tk₁₂ hn₁₂ k₁₂
      have H₁₂ := ((H'.keeps k').ns hn₁₀ k₁₁).ns hn₁₁ k₁₂
      have hg₁₂ := ((hg'.keeps k').ns hn₁₀ k₁₁).ns hn₁₁ k₁₂
      have hc₁₀ := hc'.keeps k'
      have hc₁₂ := IsCell.ko (IsCell.ko hc₁₀ k₁₁ (by simpa using cell_ne_ns hc₁₀ hn₁₀)) k₁₂ (by simpa using cell_ne_ns hc₁₀ hn₁₀)
      have kk₁₂ : Kp h h₁₂ := KpO.base (KpO.base (kk'.trans k') k₁₁ (by simpa using hfL)) k₁₂ (by simpa using hfL)
      have kB₁₂ : Kp B h₁₂ := kB.trans kk₁₂
      dsimp only
      refine wpAny_execs_cons ?_
      refine wpAny_If ?_
      refine wpAny_isTrue_value ?_
      refine g_ld (env := genv 21 L a cd) hn₁₂ eq_up ?_
      refine P.truthy_str (s := St s h₁₂ tk₁₂) ?_ ?_
      · have := e3.len; rw [sg_length]; omega
      rw [sg_length]
      show (if _ then wpAny _ _ _ _ _ (St s h₁₂ (tk₁₂ + 1 + 1)) else wpAny _ _ _ _ _ (St s h₁₂ (tk₁₂ + 1 + 1)))
      rcases hxw : x.2.word with _ | ⟨c, r⟩
      · rw [if_neg (by simp)]
        obtain ⟨Hx, z, hH⟩ : ∃ Hx z, x :: Y = Hx ++ [z] := ⟨_, _, (List.dropLast_concat_getLast (List.cons_ne_nil x Y)).symm⟩
        have hHl : Hx.length ≤ 2 := by have := congrArg List.length hH; simp at this hlen; omega
        have H₁₃ : HeapIs h₁₂ D (Hx ++ [z]) := hH ▸ H₁₂
        refine wpAny_execs_cons ?_
        obtain ⟨P3, hP3⟩ : ∃ P : Flow → Shared → Prop, ∀ fl s', P fl s' ↔ (fl = .next ∧ ∃ h'' tk'' X', s' = St s h'' tk'' ∧ HeapIs h'' D X' ∧ KpO [D] h₁₂ h'' ∧ Inv b f X' X R ∧ X'.length + 1 = (x :: Y).length) := ⟨_, fun _ _ => Iff.rfl⟩
        refine wpAny_mono (Q := P3) ?_ ?_ (fun _ _ e => e)
        · refine wpAny_If ?_
          refine wpAny_isTrue_value ?_
          refine g_ld (env := genv 21 L a cd) hn₁₂ (up2 hmr) ?_
          refine wpAny_truthy_bool ?_
          cases b with
          | true =>
            rw [if_pos rfl]
            refine wpAny_execs_cons ?_
            refine wpAny_Expr_any ?_
            refine Call_Name1 ?_
            refine g_fn T kB₁₂ mem1 (by rfl) ?_
            refine c_fn1 T mem1 ?_
            refine g_ld (env := genv 21 L a cd) hn₁₂ (up2 hmh) ?_
            refine ⟨⟨_, _, rfl, kB₁₂⟩, ?_⟩
            refine heappop_spec T kB₁₂ hDB (R'.less (by decide) (by decide)) H₁₃ hHl (pop_apart V' hH) ?_
            intro v h₁₄ tk₁₄ X' H₁₄ q1 q2 k₁₄
            dsimp only
            refine wpAny_execs_nil ?_
            exact (hP3 _ _).mpr ⟨rfl, h₁₄, tk₁₄, X', rfl, H₁₄, k₁₄, pop_inv V' hxw hH q1 q2⟩
          | false =>
            rw [if_neg (by decide)]
            refine wpAny_execs_cons ?_
            refine wpAny_Expr_any ?_
            refine Call_Name1 ?_
            refine g_fn T kB₁₂ mem4 (by rfl) ?_
            refine c_fn1 T mem4 ?_
            refine g_ld (env := genv 21 L a cd) hn₁₂ (up2 hmh) ?_
            refine ⟨⟨_, _, rfl, kB₁₂⟩, ?_⟩
            refine heappop_max_spec T kB₁₂ hDB (R'.less (by decide) (by decide)) H₁₃ hHl (pop_apart V' hH) ?_
            intro v h₁₄ tk₁₄ X' H₁₄ q1 q2 k₁₄
            dsimp only
            refine wpAny_execs_nil ?_
            exact (hP3 _ _).mpr ⟨rfl, h₁₄, tk₁₄, X', rfl, H₁₄, k₁₄, pop_inv V' hxw hH q1 q2⟩
        · intro fl s' hf3
          obtain ⟨rfl, h₁₄, tk₁₄, X', rfl, H₁₄, k₁₄, V₁₄, hl₁₄⟩ := (hP3 _ _).mp hf3
          clear hf3
          dsimp only
          refine wpAny_execs_nil ?_
          refine wpAny_execs_nil ?_
          refine ⟨total R + X'.length, by omega, (hP2 _ _).mpr ⟨h₁₄, tk₁₄, _, X', X, R, rfl, ns_o hn₁₂ H₁₂.list k₁₄, ⟨up2 hmh, up2 hmg, up2 hmr⟩, H₁₄, hg₁₂.li H₁₂.list (Ne.symm hDg) k₁₄, IsCell.ko hc₁₂ k₁₄ (by simpa using cell_ne_list hc₁₂ H₁₂.list), KpO.base kk₁₂ k₁₄ (by simpa using hDh), V₁₄, rfl⟩⟩
      · rw [if_pos (by simp; omega)]
        rw [hxw] at e3
        have hrl : r.length ≤ 5 := by have := e3.len; simp at this; omega
        have e3t : RestOk r := e3.tail
        refine wpAny_execs_cons ?_
        refine wpAny_Assign_Name ?_
        refine Tuple_ ?_
        refine args_cons ?_
        refine wpAny_BinOp ?_
        refine Call_Name1 ?_
        refine g_fn T kB₁₂ mem20 (by rfl) ?_
        refine c_fn1 T mem20 ?_
        refine Subscript_ ?_
        refine g_ld (env := genv 21 L a cd) hn₁₂ eq_up ?_
        rw [hxw]
        refine r_slice ?_
        refine wpAny_evalPart_some ?_
        refine r_int ?_
        intro t₁₃ tk₁₃
        refine wpAny_evalPart_none ?_
        refine ⟨some (1, t₁₃), none, h₁₂, tk₁₃, rfl, rfl, rfl, ?_⟩
        intro sl₂ h₁₃ k₁₃ _ hS₂
        refine s_from (i := 1) (a := c :: r) hS₂ (by simp) (by simp; omega) ?_
        intro t₁₄ tk₁₄
        rw [show List.drop 1 (c :: r) = r from rfl]
        have kB₁₃ : Kp B h₁₃ := kB₁₂.trans k₁₃
        refine ⟨⟨_, _, rfl, kB₁₃⟩, ?_⟩
        refine prep_spec T kB₁₃ (R'.less (by decide) (by decide)) e3t.good (by omega) ?_
        intro t₁₅ h₁₅ tk₁₅ k₁₅
        have kc₁₅ : Kp h₁₂ h₁₅ := k₁₃.trans k₁₅
        refine g_cell (env := genv 21 L a cd) (c := L + 1) (hc₁₂.keeps kc₁₅) (by rfl) ?_
        refine s_add (e3t.fits b) ?_
        intro t₁₆ tk₁₆
        refine args_cons ?_
        refine g_ld (env := genv 21 L a cd) (hn₁₂.keeps kc₁₅) at2 ?_
        refine args_cons ?_
        refine Subscript_ ?_
        refine g_ld (env := genv 21 L a cd) (hn₁₂.keeps kc₁₅) eq_up ?_
        rw [hxw]
        refine r_slice ?_
        refine wpAny_evalPart_some ?_
        refine r_int ?_
        intro t₁₇ tk₁₇
        refine wpAny_evalPart_none ?_
        refine ⟨some (1, t₁₇), none, h₁₅, tk₁₇, rfl, rfl, rfl, ?_⟩
        intro sl₃ h₁₇ k₁₇ _ hS₃
        refine s_from (i := 1) (a := c :: r) hS₃ (by simp) (by simp; omega) ?_
        intro t₁₈ tk₁₈
        rw [show List.drop 1 (c :: r) = r from rfl]
        refine args_nil ?_
        refine c_tup (by simp) ?_
        intro rb h₁₈ k₁₈ hrb hbT _
        have kc₁₈ : Kp h₁₂ h₁₈ := (kc₁₅.trans k₁₇).trans k₁₈
        have hbE : IsEnt h₁₈ rb ⟨prep r ++ enOf b, x.2.place, r⟩ := ⟨_, _, _, hbT⟩
        have hn₁₈ := hn₁₂.keeps kc₁₈
        refine q_st hn₁₈ ?_
        intro h₁₉ tk₁₉ hn₁₉ k₁₉
        have H₁₉ := (H₁₂.keeps kc₁₈).ns hn₁₈ k₁₉
        have hg₁₉ := (hg₁₂.keeps kc₁₈).ns hn₁₈ k₁₉
        have hc₁₉ := IsCell.ko (hc₁₂.keeps kc₁₈) k₁₉ (by simpa using cell_ne_ns hc₁₂ hn₁₂)
        have hb₁₉ := hbE.ns hn₁₈ k₁₉
        have kk₁₉ : Kp h h₁₉ := KpO.base (kk₁₂.trans kc₁₈) k₁₉ (by simpa using hfL)
        have kB₁₉ : Kp B h₁₉ := kB.trans kk₁₉
        dsimp only
        refine wpAny_execs_cons ?_
        refine wpAny_Assign_Name ?_
        refine wpAny_mono (Q := fun v s' => ∃ h'' tk'', v = .ref x.1 ∧ s' = St s h'' tk'' ∧ HeapIs h'' D (su (ltOf b) ((rb, ⟨prep r ++ enOf b, x.2.place, r⟩) :: Y)) ∧ KpO [D] h₁₉ h'') ?_ ?_ (fun _ _ e => e)
        · refine wpAny_IfExp ?_
          refine wpAny_isTrue_value ?_
          refine g_ld (env := genv 21 L a cd) hn₁₉ (up3 hmr) ?_
          refine wpAny_truthy_bool ?_
          cases b with
          | true =>
            rw [if_pos rfl]
            refine Call_Name2 ?_
            refine g_fn T kB₁₉ mem2 (by rfl) ?_
            refine c_fn2 T mem2 ?_
            refine g_ld (env := genv 21 L a cd) hn₁₉ (up3 hmh) ?_
            refine g_ld (env := genv 21 L a cd) hn₁₉ eq_up ?_
            refine ⟨⟨_, _, rfl, kB₁₉⟩, ?_⟩
            refine heapreplace_spec (it := (rb, ⟨prep r ++ enOf true, x.2.place, r⟩)) T kB₁₉ hDB (R'.less (by decide) (by decide)) H₁₉ (by simp at hlen; omega) hb₁₉ (V'.apart_new rfl) ?_
            intro h₂₀ tk₂₀ H₂₀ k₂₀
            exact ⟨h₂₀, tk₂₀, rfl, rfl, H₂₀, k₂₀⟩
          | false =>
            rw [if_neg (by decide)]
            refine Call_Name2 ?_
            refine g_fn T kB₁₉ mem5 (by rfl) ?_
            refine c_fn2 T mem5 ?_
            refine g_ld (env := genv 21 L a cd) hn₁₉ (up3 hmh) ?_
            refine g_ld (env := genv 21 L a cd) hn₁₉ eq_up ?_
            refine ⟨⟨_, _, rfl, kB₁₉⟩, ?_⟩
            refine heapreplace_max_spec (it := (rb, ⟨prep r ++ enOf false, x.2.place, r⟩)) T kB₁₉ hDB (R'.less (by decide) (by decide)) H₁₉ (by simp at hlen; omega) hb₁₉ (V'.apart_new rfl) ?_
            intro h₂₀ tk₂₀ H₂₀ k₂₀
            exact ⟨h₂₀, tk₂₀, rfl, rfl, H₂₀, k₂₀⟩
        rintro v s' ⟨h₂₀, tk₂₀, rfl, rfl, H₂₀, k₂₀⟩
        have hn₂₀ := ns_o hn₁₉ H₁₉.list k₂₀
        have hg₂₀ := hg₁₉.li H₁₉.list (Ne.symm hDg) k₂₀
        have hc₂₀ := IsCell.ko hc₁₉ k₂₀ (by simpa using cell_ne_list hc₁₉ H₁₉.list)
        have kk₂₀ : Kp h h₂₀ := KpO.base kk₁₉ k₂₀ (by simpa using hDh)
        have hxT₁₉ : h₁₉.IsTuple x.1 (x.2.vals tx₁ tx₂ tx₃).toArray := by
          have z := hxT.at (h' := h₁₀) fun o e => k' _ o e
          have z := Tu.ko z k₁₁ (by simpa using tup_ne_ns z hn₁₀)
          have z := Tu.ko z k₁₂ (by simpa using tup_ne_ns z hn₁₁)
          have z := z.at (h' := h₁₈) fun o e => kc₁₈ _ o e
          exact Tu.ko z k₁₉ (by simpa using tup_ne_ns z hn₁₈)
        have hxT₂₀ := Tu.ko hxT₁₉ k₂₀ (by simpa using tup_ne_list hxT₁₉ H₁₉.list)
        refine q_st hn₂₀ ?_
        intro h₂₁ tk₂₁ hn₂₁ k₂₁
        have H₂₁ := H₂₀.ns hn₂₀ k₂₁
        have hg₂₁ := hg₂₀.ns hn₂₀ k₂₁
        have hc₂₁ := IsCell.ko hc₂₀ k₂₁ (by simpa using cell_ne_ns hc₂₀ hn₂₀)
        have kk₂₁ : Kp h h₂₁ := KpO.base kk₂₀ k₂₁ (by simpa using hfL)
        have hxT₂₁ := Tu.ko hxT₂₀ k₂₁ (by simpa using tup_ne_ns hxT₂₀ hn₂₀)
        have hXl : X.length ≤ 1000 := by
          have := V'.count
          have := (hf 0 (by omega)).len
          have := (hf 1 (by omega)).len
          have := (hf 2 (by omega)).len
          have : total f = (f 0).length + (f 1).length + (f 2).length := rfl
          omega
        dsimp only
        refine wpAny_execs_cons ?_
        refine wpAny_Expr ?_
        refine Call_method1 (by rfl) (by rfl) (by rfl) ?_
        refine g_ld (env := genv 21 L a cd) hn₂₁ (up4 hmg) ?_
        refine ⟨"list", _, PySem.F.plainAttrs_list, PySem.F.slot_list_append, PySem.F.type_list_append, hg₂₁.list.isList.typeIs (s := St s h₂₁ tk₂₁), PlainList.noDict hg₂₁.list, ?_⟩
        refine l_app (vs := X.map fun p => Value.ref p.1) ?_
        refine Tuple_ ?_
        refine args_cons ?_
        refine Subscript_ ?_
        refine g_ld (env := genv 21 L a cd) hn₂₁ eq_up ?_
        refine r_int ?_
        intro t₂₂ tk₂₂
        refine t_item (i := 1) (x := .int (x.2.place : Int) tx₂) hxT₂₁ (by decide) rfl ?_
        refine args_cons ?_
        refine Subscript_ ?_
        refine Subscript_ ?_
        refine g_ld (env := genv 21 L a cd) hn₂₁ eq_up ?_
        refine r_int ?_
        intro t₂₃ tk₂₃
        refine t_item (i := 2) (x := .str (sg x.2.word) tx₃) hxT₂₁ (by decide) rfl ?_
        rw [hxw]
        refine r_int ?_
        intro t₂₄ tk₂₄
        refine sub_tail (typeIs_str _ _ _) PySem.F.slot_str_getitem.lookup ?_
        refine s_item (i := 0) (a := c :: r) (c := c) (by unfold sizeLine; simp; omega) rfl ?_
        intro t₂₅ tk₂₅
        refine args_nil ?_
        refine c_tup (by simp) ?_
        intro rq h₂₂ k₂₂ hrq hqT _
        refine ⟨h₂₂, tk₂₅, rfl, (hg₂₁.keeps k₂₂).list, by simpa using hXl, ?_⟩
        intro h₂₃ hl₂₃ k₂₃
        dsimp only
        refine wpAny_execs_nil ?_
        refine wpAny_execs_nil ?_
        obtain ⟨V₂, htot⟩ := V'.replace (it := (rb, ⟨prep r ++ enOf b, x.2.place, r⟩)) (ra := rq) hxw rfl
        have hg₂₂ := hg₂₁.keeps k₂₂
        have hn₂₂ := hn₂₁.keeps k₂₂
        have H₂₂ := H₂₁.keeps k₂₂
        refine ⟨total (setR R x.2.place r) + (su (ltOf b) ((rb, ⟨prep r ++ enOf b, x.2.place, r⟩) :: Y)).length, ?_, (hP2 _ _).mpr ⟨h₂₃, _, _, _, _, _, rfl, ns_o hn₂₂ hg₂₂.list k₂₃, ⟨up4 hmh, up4 hmg, up4 hmr⟩, H₂₂.li hg₂₂.list hDg k₂₃, ⟨by simpa using hl₂₃, ?_⟩, IsCell.ko (hc₂₁.keeps k₂₂) k₂₃ (by simpa using cell_ne_list (hc₂₁.keeps k₂₂) hg₂₂.list), KpO.base (kk₂₁.trans k₂₂) k₂₃ (by simpa using hgh), V₂, rfl⟩⟩
        · rw [(su_perm _ _ (by simpa using hlen)).length_eq]
          simp only [List.length_cons]
          omega
        · intro p hp
          rcases List.mem_append.mp hp with hp | hp
          · obtain ⟨t, u, z⟩ := hg₂₂.tups p hp
            exact ⟨t, u, Tu.ko z k₂₃ (by simpa using tup_ne_list z hg₂₂.list)⟩
          · simp at hp
            subst hp
            exact ⟨_, _, Tu.ko hqT k₂₃ (by simpa using tup_ne_list hqT hg₂₂.list)⟩
end Mine

namespace Mine

theorem seq_list_iadd : seqSlot? (.type "list") (dunderI "add") = pure (some (.builtin "list.__iadd__")) := PySem.seqSlot_of PySem.F.slot_list_iadd.lookup (by decide +kernel)
theorem fills_list_iadd : fillsInplaceSlot (.type "list") "add" (Operator.Add == .Add) = pure false := by
  unfold fillsInplaceSlot
  show (typeLookup (.type "list") (dunderI "add") >>= fun fi => pure (fi.isSome && !isSeqSlot fi)) = pure false
  rw [PySem.F.slot_list_iadd.lookup]
  rfl
section
variable {w : World} {A : Around} {E : Value → Shared → Prop} {s : Shared} {h : Heap} {tk : Nat}

theorem l_iadd {l b : Addr} {vs us : List Value} {Q : Value → Shared → Prop} (hl : h.PlainList l vs.toArray) (hb : h.PlainList b us.toArray) (hsz : vs.length + us.length ≤ 1000)
    (hq : ∀ h', h'.PlainList l (vs ++ us).toArray → KpO [l] h h' → Q (.ref l) (St s h' tk)) :
    wpAny (model Pg w) A (inplaceOp .Add (.ref l) (.ref b)) Q E (St s h tk) := by
  obtain ⟨n, ho⟩ := id hl
  obtain ⟨n2, hob⟩ := id hb
  have hT : (St s h tk).TypeIs (.ref l) "list" := ⟨_, ho, rfl⟩
  have hTb : (St s h tk).TypeIs (.ref b) "list" := ⟨_, hob, rfl⟩
  unfold inplaceOp
  refine wpAny_holding ?_
  refine wpAny_bind (wpAny_typeOf hT (wpAny_bind (wpAny_of_eq fills_list_iadd ?_)))
  show wpAny _ A (if false = true then _ else _) Q E _
  rw [if_neg Bool.false_ne_true]
  refine wpAny_bind (PySem.wpAny_binaryOp1_none (nm := "add") hT hTb noFill_list_add ?_)
  refine wpAny_bind (wpAny_of_eq seq_list_iadd ?_)
  have hz : vs.toArray.size + us.toArray.size ≤ sizeLine := by simp; unfold sizeLine; omega
  have hcall : wpAny (model Pg w) A (call (.builtin "list.__iadd__") [.ref l, .ref b]) Q E (St s h tk) := by
    refine call_meets PySem.F.slot_list_iadd hT PySem.F.entry_list_iadd (PySem.F.args_list_iadd_2 _ _) (AutoSeq1.list___iadd___list_list_0 l vs.toArray n b us.toArray n2 ?_ (by omega) (by omega)) ⟨ho, hob, ?_⟩
    · simp only [Bool.and_eq_true, not_and]
      intro _
      unfold Builtin.List.listTooLong
      simp only [gt_iff_lt, decide_eq_true_eq]; omega
    · obtain ⟨n', hd'⟩ := plain_map (fun x => x ++ us.toArray) vs.toArray n
      refine hq _ ⟨n', ?_⟩ (KpO.of_same (Heap.SameBut.update ..))
      show (h.update l (Obj.mapSeq fun x => x ++ us.toArray)).get? l = _
      rw [Heap.get?_update_self _ ho (by rw [hd']; rfl), hd']
      simp
  first
    | exact wpAny_bind (wpAny_rule hcall)
    | exact wpAny_bind (wpAny_rule (wpAny_bind (wpAny_mono hcall (fun _ _ e => wpAny_pure e) fun _ _ e => e)))

theorem l_add {l b : Addr} {vs us : List Value} {Q : Value → Shared → Prop} (hl : h.PlainList l vs.toArray) (hb : h.PlainList b us.toArray) (hsz : vs.length + us.length ≤ 1000)
    (hq : ∀ r h', Kp h h' → h.get? r = none → h'.PlainList r (vs ++ us).toArray → Q (.ref r) (St s h' tk)) :
    wpAny (model Pg w) A (binaryOp .Add (.ref l) (.ref b)) Q E (St s h tk) := by
  obtain ⟨n, ho⟩ := id hl
  obtain ⟨n2, hob⟩ := id hb
  refine P.add_list (s := St s h tk) ho hob ?_ (by simp; unfold sizeLine; omega)
  refine hq _ _ (Kp.push h _) (noAt h) ⟨0, ?_⟩
  show (h.push _).get? h.objs.size = _
  rw [Heap.get?_push_size _ rfl]
  simp
end

structure DcIs (h : Heap) (d : Addr) (f : Int → Option Value) (n : Nat) : Prop where
  map : h.IntMap d f
  le : h.DictLe d n
theorem DcIs.at {h h' : Heap} {d : Addr} {f : Int → Option Value} {n : Nat} (x : DcIs h d f n) (k : ∀ o, h.get? d = some o → h'.get? d = some o) : DcIs h' d f n :=
  let ⟨o, es, ep, ho, r⟩ := x.map; ⟨⟨o, es, ep, k o ho, r⟩, x.le.of_same ho (k o ho)⟩
theorem DcIs.ko {h h' : Heap} {d : Addr} {f : Int → Option Value} {n : Nat} {ow : List Addr} (x : DcIs h d f n) (k : KpO ow h h') (hd : d ∉ ow) : DcIs h' d f n := x.at fun o e => k d o hd e
theorem DcIs.keeps {h h' : Heap} {d : Addr} {f : Int → Option Value} {n : Nat} (x : DcIs h d f n) (k : Kp h h') : DcIs h' d f n := x.at fun o e => k d o e
section
variable {w : World} {A : Around} {E : Value → Shared → Prop} {s : Shared} {h : Heap} {tk : Nat} {env : Env}
theorem d_new {pos : Pos} {Q : Value → Shared → Prop} (hq : ∀ d h', Kp h h' → h.get? d = none → DcIs h' d (fun _ => none) 0 → Q (.ref d) (St s h' tk)) :
    wpAny (model Pg w) A (eval (.Dict [] [] pos) env) Q E (St s h tk) := by
  refine wpAny_Dict_empty (s := St s h tk) ?_
  refine hq _ _ (Kp.push h _) (noAt h) ⟨(Heap.MapOf.new (knd := intKind Pg w) h).intMap, ?_⟩
  intro o es ep ho hd
  rw [Heap.get?_push_size _ rfl] at ho
  cases ho
  cases hd
  exact Nat.le_refl _
theorem d_get {value slice : Expr} {d : Addr} {f : Int → Option Value} {n : Nat} {k : Int} {t : Tok} {v : Value} {Q : Value → Shared → Prop} (hd : DcIs h d f n) (hv : f k = some v) (hq : ∀ tk', Q v (St s h tk'))
    (hs : subscripted slice false (.ref d) (.int k t) = operate [.ref d, .int k t] (getItem (.ref d) (.int k t)) := by with_unfolding_all rfl) :
    wpAny (model Pg w) A (subscriptTail value slice (.ref d) (.int k t)) Q E (St s h tk) := by
  have hT : (St s h tk).TypeIs (.ref d) "dict" := let ⟨o, es, ep, ho, hc, _⟩ := hd.map; ⟨o, ho, hc⟩
  exact sub_tail hT slot_dict_getitem.lookup (wpAny_getItem_intMap (s := St s h tk) hd.map hv (hq _)) hs
theorem d_set {d : Addr} {f : Int → Option Value} {n : Nat} {k : Int} {t : Tok} {v : Value} {Q : Unit → Shared → Prop} (hd : DcIs h d f n) (hn : n ≤ 1000)
    (hq : ∀ h' tk', DcIs h' d (fun x => if x = k then some v else f x) (n + 1) → KpO [d] h h' → Q () (St s h' tk')) :
    wpAny (model Pg w) A (setItem (.ref d) (.int k t) v) Q E (St s h tk) :=
  wpAny_setItem_intMap_le (s := St s h tk) hd.map hd.le (by unfold sizeLine; omega) fun h' hm hz hs => hq h' _ ⟨hm, hz⟩ (KpO.of_same hs)

theorem StrsAre.get {vs : List Value} {ys : List Str} (H : StrsAre vs ys) : ∀ {i : Nat} {v : Value}, vs[i]? = some v → ∃ z t, ys[i]? = some z ∧ v = .str z t := by
  induction H with
  | nil => intro i v h; simp at h
  | cons z u _ ih =>
    intro i v h
    cases i with
    | zero => simp at h; exact ⟨z, u, rfl, h.symm⟩
    | succ i => simp at h; exact ih h
theorem StrsAre.len {vs : List Value} {ys : List Str} (H : StrsAre vs ys) : vs.length = ys.length := by
  induction H with
  | nil => rfl
  | cons z u _ ih => simp [ih]
noncomputable def lessAt (ys : List (List Nat)) (i j : Nat) : Bool := decide (ys.getD i [] < ys.getD j [])
theorem lessAt_some {ys : List (List Nat)} {i j : Nat} {a b : List Nat} (hi : ys[i]? = some a) (hj : ys[j]? = some b) : lessAt ys i j = decide (a < b) := by
  unfold lessAt
  rw [List.getD_eq_getElem?_getD, List.getD_eq_getElem?_getD, hi, hj]; rfl
theorem arg_best {ys : List (List Nat)} {bt : Nat → Nat → Bool} (irr : ∀ i, bt i i = false) (tr : ∀ i j k, bt i j = true → bt j k = true → bt i k = true) : ∀ j, argBest bt j ≤ j ∧ ∀ i, i ≤ j → bt i (argBest bt j) = false
  | 0 => ⟨Nat.le_refl _, fun i hi => by have : i = 0 := by omega
                                        subst this; exact irr _⟩
  | j + 1 => by
    obtain ⟨h1, h2⟩ := arg_best (ys := ys) irr tr j
    unfold argBest
    cases hb : bt (j + 1) (argBest bt j) with
    | true =>
      simp only [if_true]
      refine ⟨Nat.le_refl _, fun i hi => ?_⟩
      by_cases e : i = j + 1
      · subst e; exact irr _
      · cases q : bt i (j + 1) with
        | false => rfl
        | true => have := tr _ _ _ q hb; rw [h2 i (by omega)] at this; cases this
    | false =>
      simp only [Bool.false_eq_true, if_false]
      refine ⟨by omega, fun i hi => ?_⟩
      by_cases e : i = j + 1
      · subst e; exact hb
      · exact h2 i (by omega)
theorem c_min {l : Addr} {vs : List Value} {ys : List (List Nat)} {Q : Value → Shared → Prop} (hh : A.handled = none) (hl : h.PlainList l vs.toArray) (hv : StrsAre vs (ys.map sg)) (hne : ys ≠ [])
    (hq : ∀ y t h' tk', y ∈ ys → (∀ z ∈ ys, ¬ z < y) → Kp h h' → Q (.str (sg y) t) (St s h' tk')) :
    wpAny (model Pg w) A (call (.builtin "min") [.ref l]) Q E (St s h tk) := by
  have hlen : vs.length = ys.length := by simpa using StrsAre.len hv
  have hpos : 0 < ys.length := List.length_pos_iff.mpr hne
  refine call_min_walk (s := St s h tk) ?_
  refine it_list (A := A.in1) hh hl ?_
  intro I h₂ It W hlv h0 k₂ hI hlt hlI _
  refine ⟨I, _, _, _, _, It, lessAt ys, rfl, W, h0, hlt, by omega, ?_, ?_⟩
  · intro i j vi vj s' Q' E' hi hj hq'
    obtain ⟨zi, ti, ei, rfl⟩ := StrsAre.get hv hi
    obtain ⟨zj, tj, ej, rfl⟩ := StrsAre.get hv hj
    rw [List.getElem?_map] at ei ej
    obtain ⟨yi, eyi, rfl⟩ := Option.map_eq_some_iff.mp ei
    obtain ⟨yj, eyj, rfl⟩ := Option.map_eq_some_iff.mp ej
    show wpAny _ _ (compareOp .Lt _ _) _ _ _
    refine P.lt_str ?_
    have : decide ((sg yi).cps.toList < (sg yj).cps.toList) = lessAt ys i j := by
      unfold lessAt
      rw [List.getD_eq_getElem?_getD, List.getD_eq_getElem?_getD, eyi, eyj]
      exact decide_eq_decide.mpr (by simp [sg])
    rw [this]; exact hq'
  · intro v h' tk' hP hk
    have hb := arg_best (ys := ys) (bt := lessAt ys) (fun i => by unfold lessAt; simp [List.lt_irrefl]) (fun i j k => by unfold lessAt; simp only [decide_eq_true_eq]; exact List.lt_trans) (vs.length - 1)
    obtain ⟨z, t, ez, rfl⟩ := StrsAre.get hv hP
    rw [List.getElem?_map] at ez
    obtain ⟨y, ey, rfl⟩ := Option.map_eq_some_iff.mp ez
    refine hq y t h' tk' (List.mem_of_getElem? ey) ?_ ?_
    · intro z hz
      obtain ⟨i, hi, rfl⟩ := List.mem_iff_getElem.mp hz
      have := hb.2 i (by omega)
      rw [lessAt_some (List.getElem?_eq_getElem hi) ey] at this
      simpa using this
    · intro b o e
      exact hk b o (fun hm => by simp at hm; rw [hm, hI] at e; cases e) (k₂ b o e)
theorem c_max {l : Addr} {vs : List Value} {ys : List (List Nat)} {Q : Value → Shared → Prop} (hh : A.handled = none) (hl : h.PlainList l vs.toArray) (hv : StrsAre vs (ys.map sg)) (hne : ys ≠ [])
    (hq : ∀ y t h' tk', y ∈ ys → (∀ z ∈ ys, ¬ y < z) → Kp h h' → Q (.str (sg y) t) (St s h' tk')) :
    wpAny (model Pg w) A (call (.builtin "max") [.ref l]) Q E (St s h tk) := by
  have hlen : vs.length = ys.length := by simpa using StrsAre.len hv
  have hpos : 0 < ys.length := List.length_pos_iff.mpr hne
  refine call_max_walk (s := St s h tk) ?_
  refine it_list (A := A.in1) hh hl ?_
  intro I h₂ It W hlv h0 k₂ hI hlt hlI _
  refine ⟨I, _, _, _, _, It, fun i j => lessAt ys j i, rfl, W, h0, hlt, by omega, ?_, ?_⟩
  · intro i j vi vj s' Q' E' hi hj hq'
    obtain ⟨zi, ti, ei, rfl⟩ := StrsAre.get hv hi
    obtain ⟨zj, tj, ej, rfl⟩ := StrsAre.get hv hj
    rw [List.getElem?_map] at ei ej
    obtain ⟨yi, eyi, rfl⟩ := Option.map_eq_some_iff.mp ei
    obtain ⟨yj, eyj, rfl⟩ := Option.map_eq_some_iff.mp ej
    show wpAny _ _ (compareOp .Gt _ _) _ _ _
    refine P.gt_str ?_
    have : decide ((sg yj).cps.toList < (sg yi).cps.toList) = lessAt ys j i := by
      unfold lessAt
      rw [List.getD_eq_getElem?_getD, List.getD_eq_getElem?_getD, eyi, eyj]
      exact decide_eq_decide.mpr (by simp [sg])
    rw [this]; exact hq'
  · intro v h' tk' hP hk
    have hb := arg_best (ys := ys) (bt := fun i j => lessAt ys j i) (fun i => by show lessAt ys i i = false; unfold lessAt; simp [List.lt_irrefl]) (fun i j k => by show lessAt ys j i = true → lessAt ys k j = true → lessAt ys k i = true; unfold lessAt; simp only [decide_eq_true_eq]; exact fun a b => List.lt_trans b a) (vs.length - 1)
    obtain ⟨z, t, ez, rfl⟩ := StrsAre.get hv hP
    rw [List.getElem?_map] at ez
    obtain ⟨y, ey, rfl⟩ := Option.map_eq_some_iff.mp ez
    refine hq y t h' tk' (List.mem_of_getElem? ey) ?_ ?_
    · intro z hz
      obtain ⟨i, hi, rfl⟩ := List.mem_iff_getElem.mp hz
      have := hb.2 i (by omega)
      rw [lessAt_some ey (List.getElem?_eq_getElem hi)] at this
      simpa using this
    · intro b o e
      exact hk b o (fun hm => by simp at hm; rw [hm, hI] at e; cases e) (k₂ b o e)
end
end Mine

namespace Mine

noncomputable def at3 (a b c : List Nat) (i j k : Nat) : Rests := fun n => if n = 0 then a.drop i else if n = 1 then b.drop j else c.drop k
theorem drop_lt {a : List Nat} {i : Nat} (h : i < a.length) : a.drop i = a[i] :: a.drop (i + 1) := List.drop_eq_getElem_cons h
theorem at3_0 (a b c : List Nat) (i j k : Nat) : setR (at3 a b c i j k) 0 (a.drop (i + 1)) = at3 a b c (i + 1) j k := by
  funext n; unfold setR at3; split
  · subst n; rfl
  · rfl
theorem at3_1 (a b c : List Nat) (i j k : Nat) : setR (at3 a b c i j k) 1 (b.drop (j + 1)) = at3 a b c i (j + 1) k := by
  funext n; unfold setR at3; split
  · subst n; rfl
  · rfl
theorem at3_2 (a b c : List Nat) (i j k : Nat) {n : Nat} (hn : n < 3) : setR (at3 a b c i j k) 2 (c.drop (k + 1)) n = at3 a b c i j (k + 1) n := by
  unfold setR at3
  have : n = 0 ∨ n = 1 ∨ n = 2 := by omega
  rcases this with rfl | rfl | rfl <;> rfl
theorem take_drop1 {a : List Nat} {i : Nat} : (a.drop i).take 1 = if h : i < a.length then [a[i]] else [] := by
  split
  · rename_i h; rw [drop_lt h]; rfl
  · rename_i h; rw [List.drop_eq_nil_of_le (by omega)]; rfl

noncomputable def waysOf (a b c : List Nat) (i j k here : Nat) : List (Nat × Nat) :=
  ((a.drop i).take 1).map (fun x => (x, here + 100)) ++ ((b.drop j).take 1).map (fun x => (x, here + 10)) ++ ((c.drop k).take 1).map (fun x => (x, here + 1))
theorem mem_ways {a b c : List Nat} {i j k here : Nat} {p : Nat × Nat} : p ∈ waysOf a b c i j k here ↔ (∃ h : i < a.length, p = (a[i], here + 100)) ∨ (∃ h : j < b.length, p = (b[j], here + 10)) ∨ (∃ h : k < c.length, p = (c[k], here + 1)) := by
  unfold waysOf
  rw [take_drop1, take_drop1, take_drop1]
  simp only [List.mem_append, or_assoc]
  refine or_congr ?_ (or_congr ?_ ?_)
  all_goals
    split
    · rename_i h; simp [h]
    · rename_i h; simp [h]

theorem tab_step {bt : Nat → Nat → Bool} (O : Ord bt) {a b c : List Nat} {i j k here : Nat} {G : Nat → List Nat} {t : List Nat}
    (h1 : i < a.length → Best bt (at3 a b c (i + 1) j k) (G (here + 100))) (h2 : j < b.length → Best bt (at3 a b c i (j + 1) k) (G (here + 10))) (h3 : k < c.length → Best bt (at3 a b c i j (k + 1)) (G (here + 1)))
    (h0 : waysOf a b c i j k here = [] → t = [])
    (hne : waysOf a b c i j k here ≠ [] → (∃ p ∈ waysOf a b c i j k here, t = p.1 :: G p.2) ∧ ∀ p ∈ waysOf a b c i j k here, (p.1 :: G p.2).length = t.length → ge bt t (p.1 :: G p.2) = true) : Best bt (at3 a b c i j k) t := by
  have way : ∀ n x r, n < 3 → at3 a b c i j k n = x :: r → ∃ p ∈ waysOf a b c i j k here, p.1 = x ∧ Best bt (setR (at3 a b c i j k) n r) (G p.2) := by
    intro n x r hn hx
    have : n = 0 ∨ n = 1 ∨ n = 2 := by omega
    rcases this with rfl | rfl | rfl
    · have hx : a.drop i = x :: r := hx
      have hi : i < a.length := by
        rcases Nat.lt_or_ge i a.length with h | h
        · exact h
        · rw [List.drop_eq_nil_of_le h] at hx; cases hx
      rw [drop_lt hi] at hx
      injection hx with e1 e2
      subst e1 e2
      exact ⟨_, mem_ways.mpr (Or.inl ⟨hi, rfl⟩), rfl, by rw [at3_0]; exact h1 hi⟩
    · have hx : b.drop j = x :: r := hx
      have hi : j < b.length := by
        rcases Nat.lt_or_ge j b.length with h | h
        · exact h
        · rw [List.drop_eq_nil_of_le h] at hx; cases hx
      rw [drop_lt hi] at hx
      injection hx with e1 e2
      subst e1 e2
      exact ⟨_, mem_ways.mpr (Or.inr (Or.inl ⟨hi, rfl⟩)), rfl, by rw [at3_1]; exact h2 hi⟩
    · have hx : c.drop k = x :: r := hx
      have hi : k < c.length := by
        rcases Nat.lt_or_ge k c.length with h | h
        · exact h
        · rw [List.drop_eq_nil_of_le h] at hx; cases hx
      rw [drop_lt hi] at hx
      injection hx with e1 e2
      subst e1 e2
      exact ⟨_, mem_ways.mpr (Or.inr (Or.inr ⟨hi, rfl⟩)), rfl, (h3 hi).congr fun n hn => (at3_2 a b c i j k hn).symm⟩
  have back : ∀ p ∈ waysOf a b c i j k here, ∃ n x r, n < 3 ∧ at3 a b c i j k n = x :: r ∧ p.1 = x ∧ Best bt (setR (at3 a b c i j k) n r) (G p.2) := by
    intro p hp
    rcases mem_ways.mp hp with ⟨h, rfl⟩ | ⟨h, rfl⟩ | ⟨h, rfl⟩
    · exact ⟨0, _, _, by omega, drop_lt h, rfl, by rw [at3_0]; exact h1 h⟩
    · exact ⟨1, _, _, by omega, drop_lt h, rfl, by rw [at3_1]; exact h2 h⟩
    · exact ⟨2, _, _, by omega, drop_lt h, rfl, (h3 h).congr fun n hn => (at3_2 a b c i j k hn).symm⟩
  have len : ∀ p ∈ waysOf a b c i j k here, (p.1 :: G p.2).length = total (at3 a b c i j k) := by
    intro p hp
    obtain ⟨n, x, r, hn, hx, e, hb⟩ := back p hp
    have := rif_len hb.1
    have := total_set hn hx
    simp only [List.length_cons]; omega
  by_cases hw : waysOf a b c i j k here = []
  · rw [h0 hw]
    refine Best.nil fun n hn => ?_
    rcases hx : at3 a b c i j k n with _ | ⟨x, r⟩
    · rfl
    · obtain ⟨p, hp, _⟩ := way n x r hn hx
      rw [hw] at hp; cases hp
  · obtain ⟨⟨p, hp, rfl⟩, hall⟩ := hne hw
    refine Best.ways O ?_ ?_
    · obtain ⟨n, x, r, hn, hx, e, hb⟩ := back p hp
      exact ⟨n, x, r, _, hn, hx, hb, by rw [e]⟩
    · intro n x r hn hx
      obtain ⟨q, hq, e, hb⟩ := way n x r hn hx
      exact ⟨_, hb, by rw [← e]; exact hall q hq (by rw [len q hq, len p hp])⟩

theorem take_snoc {α : Type} {zs : List α} {n : Nat} {c : α} (h : zs[n]? = some c) : zs.take (n + 1) = zs.take n ++ [c] := by rw [List.take_add_one, h]; rfl
noncomputable abbrev Way := Addr × (Nat × Nat)
structure WaysIs (h : Heap) (l : Addr) (W : List Way) : Prop where
  list : h.PlainList l (W.map fun p => Value.ref p.1).toArray
  tups : ∀ p ∈ W, ∃ t u, h.IsTuple p.1 #[.str (sg [p.2.1]) t, .int (p.2.2 : Int) u]
theorem WaysIs.ko {h h' : Heap} {g : Addr} {X : List Way} {ow : List Addr} (x : WaysIs h g X) (k : KpO ow h h') (hg : g ∉ ow) (ht : ∀ p ∈ X, p.1 ∉ ow) : WaysIs h' g X :=
  ⟨x.list.at fun o e => k g o hg e, fun p hp => let ⟨t, u, z⟩ := x.tups p hp; ⟨t, u, z.at fun o e => k _ o (ht p hp) e⟩⟩
theorem WaysIs.keeps {h h' : Heap} {g : Addr} {X : List Way} (x : WaysIs h g X) (k : Kp h h') : WaysIs h' g X := x.ko (k.o []) (by simp) (by simp)
theorem WaysIs.ns {h h' : Heap} {g L : Addr} {X : List Way} {m : Str → Option Value} (x : WaysIs h g X) (hn : h.Ns L m) (k : KpO [L] h h') : WaysIs h' g X :=
  x.ko k (by simpa using list_ne_ns x.list hn) fun p hp => let ⟨_, _, z⟩ := x.tups p hp; by simpa using tup_ne_ns z hn

/-- the scope of the three lists of ways -/
noncomputable def wsc : Scope := { kind := .function, names := [(Str.ofString ".0", .local), (Str.ofString "letter", .local), (Str.ofString "here", .free)], isGenerator := false, isCoroutine := false, more := [] }
noncomputable def wEl (xs : List Nat) (beh : Nat) : List Addr → Nat → Heap → List Value → Prop := fun bad n hh ys => ∃ W : List Way, ys = W.map (fun p => Value.ref p.1) ∧ W.map (·.2) = (xs.take n).map (fun c => (c, beh)) ∧
  ∀ p ∈ W, (∃ t u, hh.IsTuple p.1 #[.str (sg [p.2.1]) t, .int (p.2.2 : Int) u]) ∧ p.1 ∉ bad

set_option maxHeartbeats 400000 in
theorem ways_iter {w : World} {A : Around} {E : Value → Shared → Prop} {s : Shared} {h : Heap} {tk : Nat} {L a : Addr} {cd : Value} {src idx : Str} {inc i here : Nat} {xs : List Nat} {t u v : Tok} {m : Str → Option Value}
    {p7 p8 p9 p10 p11 p12 p13 : Pos} {Q : Value → Shared → Prop}
    (hh : A.handled = none) (hn : h.Ns L m) (hsrc : m src = some (.str (sg xs) t)) (hidx : m idx = some (.int (i : Int) u)) (hi : i ≤ xs.length) (hx : xs.length ≤ 100) (hc : h.IsCell (L + 3) (some (.int (here : Int) v)))
    (ks : (genv 19 L a cd).kindOf src = some .local) (ki : (genv 19 L a cd).kindOf idx = some .local) (ds : (src == ("__debug__" : Str)) = false) (di : (idx == ("__debug__" : Str)) = false)
    (hq : ∀ I h₂ tk₂ Bd It, (∀ p6, Start w A s (genv 19 L a cd) wsc [(Str.ofString "here", L + 3)] (.Name "letter" p6) I [I] [I] h h₂ ((xs.drop i).take 1).length Bd It) →
      (∀ ex q1 q2 q3 q4 q5, Turns w A s (genv 19 L a cd) wsc [(Str.ofString "here", L + 3)] [] (.Tuple [.Name "letter" q1, .BinOp (.Name "here" q2) .Add (.Constant (.int (inc : Int)) 0 q3) q4] 0 q5) ex [I] h h₂ ((xs.drop i).take 1).length Bd (wEl ((xs.drop i).take 1) (here + inc))) →
      Q (.ref I) (St s h₂ tk₂)) :
    wpAny (model Pg w) A (eval (.Subscript (.Name src p7) (.Slice (some (.Name idx p8)) (some (.BinOp (.Name idx p9) .Add (.Constant (.int 1) 0 p10) p11)) none p12) p13) (genv 19 L a cd)) (fun xv s₁ => wpAny (model Pg w) A (pyIter xv) Q E s₁) E (St s h tk) := by
  refine Subscript_ ?_
  refine g_ld (env := genv 19 L a cd) hn hsrc ?_ (by rfl) ks ds
  refine r_slice ?_
  refine wpAny_evalPart_some ?_
  refine g_ld (env := genv 19 L a cd) hn hidx ?_ (by rfl) ki di
  refine wpAny_evalPart_some ?_
  refine wpAny_BinOp ?_
  refine g_ld (env := genv 19 L a cd) hn hidx ?_ (by rfl) ki di
  refine r_int ?_
  intro t₁ tk₁
  refine i_add ?_
  intro t₂ tk₂
  refine ⟨some ((i : Int), u), some (((i + 1 : Nat) : Int), t₂), h, tk₂, rfl, rfl, rfl, ?_⟩
  intro sl h₁ k₁ _ hS
  refine s_one hS hi (by omega) ?_
  intro t₃ tk₃
  refine it_str hh ?_
  intro I h₂ It W hlv h0 k₂ hI hIlt
  have hsz : (sg ((xs.drop i).take 1)).cps.size = ((xs.drop i).take 1).length := by simp [sg]
  rw [hsz] at W
  have kk : Kp h h₂ := k₁.trans k₂
  have hle : ((xs.drop i).take 1).length ≤ sizeLine := by
    have : ((xs.drop i).take 1).length ≤ 1 := by simp; omega
    unfold sizeLine; omega
  refine hq I h₂ tk₃ _ _ (fun p6 => Start.walk W kk hle (fun b hb => by simp at hb; exact hb ▸ none_of k₁ hI) (fun b hb => by simp at hb; exact hb ▸ hIlt) hlv h0 (by rfl) (by rfl)) ?_
  intro ex q1 q2 q3 q4 q5
  refine ⟨fun _ _ _ => ⟨[], rfl, rfl, fun p hp => nomatch hp⟩, ?_, ?_⟩
  · rintro bad n hh hh' ys ⟨W, rfl, e2, e3⟩ kk
    exact ⟨W, rfl, e2, fun p hp => ⟨let ⟨t, u, z⟩ := (e3 p hp).1; ⟨t, u, z.at fun o e => kk _ o (e3 p hp).2 e⟩, (e3 p hp).2⟩⟩
  · rintro C bad n h₃ tk₄ ys E' hn' hBd ⟨X, rfl, e2, e3⟩ _ k₃ hbad
    obtain ⟨m', v', hm, hv, c, u', hc', rfl⟩ := hBd
    have hci : ((xs.drop i).take 1)[n]? = some c := by simpa [sg] using hc'
    refine wpAny_tests_nil ?_
    refine ⟨h₃, tk₄, rfl, Kp.refl _, ?_⟩
    rw [if_pos rfl]
    refine Tuple_ ?_
    refine args_cons ?_
    refine g_ld hm hv ?_
    refine args_cons ?_
    refine wpAny_BinOp ?_
    refine g_cell (c := L + 3) (hc.keeps k₃) (by rfl) ?_
    refine r_int ?_
    intro t₅ tk₅
    refine i_add ?_
    intro t₆ tk₆
    refine args_nil ?_
    refine c_tup (by simp) ?_
    intro r h₄ k₄ hr hT _
    refine ⟨h₄, tk₆, rfl, k₄, X ++ [(r, (c, here + inc))], by simp, ?_, ?_⟩
    · rw [List.map_append, e2, take_snoc hci, List.map_append]; rfl
    · intro p hp
      rcases List.mem_append.mp hp with hp | hp
      · exact ⟨let ⟨t, u, z⟩ := (e3 p hp).1; ⟨t, u, z.at fun o e => k₄ _ o e⟩, (e3 p hp).2⟩
      · simp at hp; subst hp
        refine ⟨⟨_, _, by simpa [sg] using hT⟩, fun hb => ?_⟩
        obtain ⟨o, ho⟩ := hbad _ hb
        have hr : h₃.get? r = none := hr
        have ho : h₃.get? r = some o := ho
        rw [hr] at ho; cases ho
end Mine

namespace Mine
noncomputable def txtAt (F : Int → Option Value) (k : Nat) : List Nat := match F (k : Int) with
  | some (.str x _) => x.cps.toList
  | _ => []
theorem txtAt_of {F : Int → Option Value} {k : Nat} {t : List Nat} {tok : Tok} (h : F (k : Int) = some (.str (sg t) tok)) : txtAt F k = t := by unfold txtAt; rw [h]; simp [sg]
theorem boot_min' : bootBuiltins "min" = some (.builtin "min") := boots.2.2.2.2.2.2.2.2.1
theorem boot_max' : bootBuiltins "max" = some (.builtin "max") := boots.2.2.2.2.2.2.2.2.2.1

noncomputable def bsc_least : Scope := { kind := .function, names := [(Str.ofString ".0", .local), (Str.ofString "letter", .local), (Str.ofString "behind", .local), (Str.ofString "least", .free)], isGenerator := false, isCoroutine := false, more := [] }
set_option maxHeartbeats 400000 in
theorem least_val {w : World} {A : Around} {E : Value → Shared → Prop} {s : Shared} {B h : Heap} {tk : Nat} {mg mb : Str → Option Value} {k b1 b3 L a d wl : Addr} {cd : Value} {m : Str → Option Value} {W : List Way} {F : Int → Option Value} {n : Nat}
    {p1 p2 p3 p4 p5 p6 p7 p8 p9 p10 p11 p12 p13 p14 p15 : Pos} {Q : Value → Shared → Prop}
    (T : Tops w B mg mb k b1 b3) (kB : Kp B h) (R : Room A 1 1) (hn : h.Ns L m) (hw : m "ways" = some (.ref wl)) (hW : WaysIs h wl W) (hlen : W.length ≤ 3) (hc : h.IsCell (L + 1) (some (.ref d))) (hd : DcIs h d F n)
    (hF : ∀ p ∈ W, ∃ tok, F (p.2.2 : Int) = some (.str (sg (txtAt F p.2.2)) tok) ∧ (txtAt F p.2.2).length ≤ 100)
    (hq : ∀ t tok h' tk', Kp h h' → (W.map (·.2) = [] → t = []) → (W.map (·.2) ≠ [] → (∃ p ∈ W.map (·.2), t = p.1 :: txtAt F p.2) ∧ ∀ p ∈ W.map (·.2), ¬ (p.1 :: txtAt F p.2) < t) → Q (.str (sg t) tok) (St s h' tk')) :
    wpAny (model Pg w) A (eval (.IfExp (.Name "ways" p1) (.Call (.Name "min" p2) [.ListComp (.BinOp (.Name "letter" p3) .Add (.Subscript (.Name "least" p4) (.Name "behind" p5) p6) p7)
      [⟨.Tuple [.Name "letter" p8, .Name "behind" p9] 0 p10, .Name "ways" p11, [], 0⟩] bsc_least p12] [] p13) (.Constant (.str "") 0 p14) p15) (genv 19 L a cd)) Q E (St s h tk) := by
  refine wpAny_IfExp ?_
  refine wpAny_isTrue_value ?_
  refine g_ld (env := genv 19 L a cd) hn hw ?_
  refine l_truthy hW.list (by simp; omega) ?_
  intro tk₁
  by_cases hW0 : W = []
  · subst hW0
    rw [if_neg (by simp)]
    refine r_str ?_
    intro t tk₂
    have e0 : ("" : Str) = sg [] := by decide +kernel
    rw [e0]
    exact hq [] t h tk₂ (Kp.refl h) (fun _ => rfl) (fun e => absurd rfl e)
  · rw [if_pos (by simpa using hW0)]
    refine Call_Name1 ?_
    refine g_bi T kB boot_min' ?_
    refine PySem.callWith_builtin1 ?_
    refine r_comp (env := genv 19 L a cd) (cl := [(Str.ofString "least", L + 1)]) (by rfl) (by decide +kernel) (by rfl) (by decide +kernel) ?_
    refine g_ld (env := genv 19 L a cd) hn hw ?_
    refine it_list R.handled hW.list ?_
    intro I h₂ It _ hlv _ k₂ hI hlt hlI hit
    obtain ⟨vals, hvals⟩ : ∃ vals : Nat → Array Value, ∀ j, ∀ hj : j < W.length, h.IsTuple (W[j]).1 (vals j) ∧ ∃ t u, vals j = #[.str (sg [(W[j]).2.1]) t, .int ((W[j]).2.2 : Int) u] := by
      have : ∀ j, ∃ v : Array Value, ∀ hj : j < W.length, h.IsTuple (W[j]).1 v ∧ ∃ t u, v = #[.str (sg [(W[j]).2.1]) t, .int ((W[j]).2.2 : Int) u] := by
        intro j
        by_cases hj : j < W.length
        · obtain ⟨t, u, z⟩ := hW.tups W[j] (List.getElem_mem hj)
          exact ⟨_, fun _ => ⟨z, t, u, rfl⟩⟩
        · exact ⟨#[], fun h => absurd h hj⟩
      exact Classical.axiomOfChoice this
    have hTs : ∀ j, ∀ hj : j < W.length, (W[j]?.map (·.1)).getD 0 = (W[j]).1 := fun j hj => by rw [List.getElem?_eq_getElem hj]; rfl
    have hsz : (W.map fun p => Value.ref p.1).toArray.size = W.length := by simp
    have WU := WalksU.listOfTuples (prog := Pg) (w := w) (A := A) R.handled I wl hlI (W.map fun p => Value.ref p.1).toArray (fun j => (W[j]?.map (·.1)).getD 0) vals
      (fun j hj => by rw [hsz] at hj; simp [hj]) (fun j hj => by
        rw [hsz] at hj
        show (W[j]?.map (·.1)).getD 0 ≠ I
        rw [hTs j hj]
        obtain ⟨o, ho, _⟩ := (hvals j hj).1
        intro e; rw [e, hI] at ho; cases ho)
    rw [hsz] at WU
    have hPv : ∀ (i : Nat) (v₁ v₂ : Value), #[v₁, v₂] = vals i → ∀ hi : i < W.length, ∃ t u, v₁ = .str (sg [(W[i]).2.1]) t ∧ v₂ = .int ((W[i]).2.2 : Int) u := by
      intro i v₁ v₂ e hi
      obtain ⟨_, t, u, e'⟩ := hvals i hi
      rw [e'] at e
      have : v₁ = .str (sg [(W[i]).2.1]) t ∧ v₂ = .int ((W[i]).2.2 : Int) u := by simpa using e
      exact ⟨t, u, this.1, this.2⟩
    refine ⟨I, _, [I], W.length, h₂, _, _, _, fun _ i _ ys => StrsAre ys (((W.take i).map fun p => p.2.1 :: txtAt F p.2.2).map sg), rfl, rfl,
      Start.walkU (P := fun j v => j < W.length ∧ v = vals j) WU.bound R.handled (by rintro i vs ⟨hi, rfl⟩; obtain ⟨_, t, u, e⟩ := hvals i hi; exact ⟨_, _, e⟩) (by decide) k₂ (by unfold sizeLine; omega) (fun b hb => by simp at hb; exact hb ▸ hI) ?_ ?_ ?_ (by rfl) (by rfl) (by rfl), ?_, ?_⟩
    · intro b hb
      rcases List.mem_cons.mp hb with rfl | hb
      · exact hlt _ (by simp)
      rcases List.mem_cons.mp hb with rfl | hb
      · exact hlt _ (by simp)
      · obtain ⟨j, hj, rfl⟩ := List.mem_map.mp hb
        rw [List.mem_range] at hj
        have hj : j < W.length := by simpa using hj
        rw [hTs j hj]
        obtain ⟨o, ho, _⟩ := (hvals j hj).1
        exact Heap.lt_size (k₂ _ _ ho)
    · rintro i hh ⟨⟨o, ho, _⟩, _⟩ b hb
      simp at hb; exact ⟨o, hb ▸ ho⟩
    · refine ⟨hit, (hW.list.at fun o e => k₂ _ o e).isList, fun j hj => ?_⟩
      have hj : j < W.length := by simpa using hj
      show h₂.IsTuple ((W[j]?.map (·.1)).getD 0) (vals j)
      rw [hTs j hj]
      exact (hvals j hj).1.at fun o e => k₂ _ o e
    · refine ⟨fun _ _ _ => .nil, fun _ _ _ _ _ e _ => e, ?_⟩
      rintro C bad i h₃ tk₃ ys E' hi ⟨m', v₁, v₂, hm, hm₁, hm₂, hi', hv⟩ hEl _ k₃ _
      obtain ⟨t, u, rfl, rfl⟩ := hPv i v₁ v₂ hv hi'
      obtain ⟨tok, hFk, hFl⟩ := hF W[i] (List.getElem_mem hi')
      refine wpAny_tests_nil ?_
      refine ⟨h₃, tk₃, rfl, Kp.refl _, ?_⟩
      rw [if_pos rfl]
      refine wpAny_BinOp ?_
      refine g_ld hm hm₁ ?_
      refine Subscript_ ?_
      refine g_cell (c := L + 1) (hc.keeps k₃) (by rfl) ?_
      refine g_ld hm hm₂ ?_
      refine d_get (hd.keeps k₃) hFk ?_
      intro tk₄
      refine s_add (by unfold sizeLine; simp; omega) ?_
      intro t₅ tk₅
      refine ⟨h₃, tk₅, rfl, Kp.refl _, ?_⟩
      rw [take_snoc (List.getElem?_eq_getElem hi'), List.map_append, List.map_append]
      exact StrsAre.snoc hEl _ t₅
    · intro D bad h' tk' ys hEl hD k' _
      rw [List.take_length] at hEl
      refine c_min R.handled hD hEl (by simpa using hW0) ?_
      intro y t h'' tk'' hy hall k''
      refine hq y t h'' tk'' (k'.trans k'') (fun e => absurd (by simpa using e) hW0) (fun _ => ⟨?_, ?_⟩)
      · obtain ⟨p, hp, rfl⟩ := List.mem_map.mp hy
        exact ⟨p.2, List.mem_map_of_mem hp, rfl⟩
      · intro p hp
        obtain ⟨q, hq', rfl⟩ := List.mem_map.mp hp
        exact hall _ (List.mem_map.mpr ⟨q, hq', rfl⟩)

noncomputable def bsc_most : Scope := { kind := .function, names := [(Str.ofString ".0", .local), (Str.ofString "letter", .local), (Str.ofString "behind", .local), (Str.ofString "most", .free)], isGenerator := false, isCoroutine := false, more := [] }
set_option maxHeartbeats 400000 in
theorem most_val {w : World} {A : Around} {E : Value → Shared → Prop} {s : Shared} {B h : Heap} {tk : Nat} {mg mb : Str → Option Value} {k b1 b3 L a d wl : Addr} {cd : Value} {m : Str → Option Value} {W : List Way} {F : Int → Option Value} {n : Nat}
    {p1 p2 p3 p4 p5 p6 p7 p8 p9 p10 p11 p12 p13 p14 p15 : Pos} {Q : Value → Shared → Prop}
    (T : Tops w B mg mb k b1 b3) (kB : Kp B h) (R : Room A 1 1) (hn : h.Ns L m) (hw : m "ways" = some (.ref wl)) (hW : WaysIs h wl W) (hlen : W.length ≤ 3) (hc : h.IsCell (L + 2) (some (.ref d))) (hd : DcIs h d F n)
    (hF : ∀ p ∈ W, ∃ tok, F (p.2.2 : Int) = some (.str (sg (txtAt F p.2.2)) tok) ∧ (txtAt F p.2.2).length ≤ 100)
    (hq : ∀ t tok h' tk', Kp h h' → (W.map (·.2) = [] → t = []) → (W.map (·.2) ≠ [] → (∃ p ∈ W.map (·.2), t = p.1 :: txtAt F p.2) ∧ ∀ p ∈ W.map (·.2), ¬ t < (p.1 :: txtAt F p.2)) → Q (.str (sg t) tok) (St s h' tk')) :
    wpAny (model Pg w) A (eval (.IfExp (.Name "ways" p1) (.Call (.Name "max" p2) [.ListComp (.BinOp (.Name "letter" p3) .Add (.Subscript (.Name "most" p4) (.Name "behind" p5) p6) p7)
      [⟨.Tuple [.Name "letter" p8, .Name "behind" p9] 0 p10, .Name "ways" p11, [], 0⟩] bsc_most p12] [] p13) (.Constant (.str "") 0 p14) p15) (genv 19 L a cd)) Q E (St s h tk) := by
  refine wpAny_IfExp ?_
  refine wpAny_isTrue_value ?_
  refine g_ld (env := genv 19 L a cd) hn hw ?_
  refine l_truthy hW.list (by simp; omega) ?_
  intro tk₁
  by_cases hW0 : W = []
  · subst hW0
    rw [if_neg (by simp)]
    refine r_str ?_
    intro t tk₂
    have e0 : ("" : Str) = sg [] := by decide +kernel
    rw [e0]
    exact hq [] t h tk₂ (Kp.refl h) (fun _ => rfl) (fun e => absurd rfl e)
  · rw [if_pos (by simpa using hW0)]
    refine Call_Name1 ?_
    refine g_bi T kB boot_max' ?_
    refine PySem.callWith_builtin1 ?_
    refine r_comp (env := genv 19 L a cd) (cl := [(Str.ofString "most", L + 2)]) (by rfl) (by decide +kernel) (by rfl) (by decide +kernel) ?_
    refine g_ld (env := genv 19 L a cd) hn hw ?_
    refine it_list R.handled hW.list ?_
    intro I h₂ It _ hlv _ k₂ hI hlt hlI hit
    obtain ⟨vals, hvals⟩ : ∃ vals : Nat → Array Value, ∀ j, ∀ hj : j < W.length, h.IsTuple (W[j]).1 (vals j) ∧ ∃ t u, vals j = #[.str (sg [(W[j]).2.1]) t, .int ((W[j]).2.2 : Int) u] := by
      have : ∀ j, ∃ v : Array Value, ∀ hj : j < W.length, h.IsTuple (W[j]).1 v ∧ ∃ t u, v = #[.str (sg [(W[j]).2.1]) t, .int ((W[j]).2.2 : Int) u] := by
        intro j
        by_cases hj : j < W.length
        · obtain ⟨t, u, z⟩ := hW.tups W[j] (List.getElem_mem hj)
          exact ⟨_, fun _ => ⟨z, t, u, rfl⟩⟩
        · exact ⟨#[], fun h => absurd h hj⟩
      exact Classical.axiomOfChoice this
    have hTs : ∀ j, ∀ hj : j < W.length, (W[j]?.map (·.1)).getD 0 = (W[j]).1 := fun j hj => by rw [List.getElem?_eq_getElem hj]; rfl
    have hsz : (W.map fun p => Value.ref p.1).toArray.size = W.length := by simp
    have WU := WalksU.listOfTuples (prog := Pg) (w := w) (A := A) R.handled I wl hlI (W.map fun p => Value.ref p.1).toArray (fun j => (W[j]?.map (·.1)).getD 0) vals
      (fun j hj => by rw [hsz] at hj; simp [hj]) (fun j hj => by
        rw [hsz] at hj
        show (W[j]?.map (·.1)).getD 0 ≠ I
        rw [hTs j hj]
        obtain ⟨o, ho, _⟩ := (hvals j hj).1
        intro e; rw [e, hI] at ho; cases ho)
    rw [hsz] at WU
    have hPv : ∀ (i : Nat) (v₁ v₂ : Value), #[v₁, v₂] = vals i → ∀ hi : i < W.length, ∃ t u, v₁ = .str (sg [(W[i]).2.1]) t ∧ v₂ = .int ((W[i]).2.2 : Int) u := by
      intro i v₁ v₂ e hi
      obtain ⟨_, t, u, e'⟩ := hvals i hi
      rw [e'] at e
      have : v₁ = .str (sg [(W[i]).2.1]) t ∧ v₂ = .int ((W[i]).2.2 : Int) u := by simpa using e
      exact ⟨t, u, this.1, this.2⟩
    refine ⟨I, _, [I], W.length, h₂, _, _, _, fun _ i _ ys => StrsAre ys (((W.take i).map fun p => p.2.1 :: txtAt F p.2.2).map sg), rfl, rfl,
      Start.walkU (P := fun j v => j < W.length ∧ v = vals j) WU.bound R.handled (by rintro i vs ⟨hi, rfl⟩; obtain ⟨_, t, u, e⟩ := hvals i hi; exact ⟨_, _, e⟩) (by decide) k₂ (by unfold sizeLine; omega) (fun b hb => by simp at hb; exact hb ▸ hI) ?_ ?_ ?_ (by rfl) (by rfl) (by rfl), ?_, ?_⟩
    · intro b hb
      rcases List.mem_cons.mp hb with rfl | hb
      · exact hlt _ (by simp)
      rcases List.mem_cons.mp hb with rfl | hb
      · exact hlt _ (by simp)
      · obtain ⟨j, hj, rfl⟩ := List.mem_map.mp hb
        rw [List.mem_range] at hj
        have hj : j < W.length := by simpa using hj
        rw [hTs j hj]
        obtain ⟨o, ho, _⟩ := (hvals j hj).1
        exact Heap.lt_size (k₂ _ _ ho)
    · rintro i hh ⟨⟨o, ho, _⟩, _⟩ b hb
      simp at hb; exact ⟨o, hb ▸ ho⟩
    · refine ⟨hit, (hW.list.at fun o e => k₂ _ o e).isList, fun j hj => ?_⟩
      have hj : j < W.length := by simpa using hj
      show h₂.IsTuple ((W[j]?.map (·.1)).getD 0) (vals j)
      rw [hTs j hj]
      exact (hvals j hj).1.at fun o e => k₂ _ o e
    · refine ⟨fun _ _ _ => .nil, fun _ _ _ _ _ e _ => e, ?_⟩
      rintro C bad i h₃ tk₃ ys E' hi ⟨m', v₁, v₂, hm, hm₁, hm₂, hi', hv⟩ hEl _ k₃ _
      obtain ⟨t, u, rfl, rfl⟩ := hPv i v₁ v₂ hv hi'
      obtain ⟨tok, hFk, hFl⟩ := hF W[i] (List.getElem_mem hi')
      refine wpAny_tests_nil ?_
      refine ⟨h₃, tk₃, rfl, Kp.refl _, ?_⟩
      rw [if_pos rfl]
      refine wpAny_BinOp ?_
      refine g_ld hm hm₁ ?_
      refine Subscript_ ?_
      refine g_cell (c := L + 2) (hc.keeps k₃) (by rfl) ?_
      refine g_ld hm hm₂ ?_
      refine d_get (hd.keeps k₃) hFk ?_
      intro tk₄
      refine s_add (by unfold sizeLine; simp; omega) ?_
      intro t₅ tk₅
      refine ⟨h₃, tk₅, rfl, Kp.refl _, ?_⟩
      rw [take_snoc (List.getElem?_eq_getElem hi'), List.map_append, List.map_append]
      exact StrsAre.snoc hEl _ t₅
    · intro D bad h' tk' ys hEl hD k' _
      rw [List.take_length] at hEl
      refine c_max R.handled hD hEl (by simpa using hW0) ?_
      intro y t h'' tk'' hy hall k''
      refine hq y t h'' tk'' (k'.trans k'') (fun e => absurd (by simpa using e) hW0) (fun _ => ⟨?_, ?_⟩)
      · obtain ⟨p, hp, rfl⟩ := List.mem_map.mp hy
        exact ⟨p.2, List.mem_map_of_mem hp, rfl⟩
      · intro p hp
        obtain ⟨q, hq', rfl⟩ := List.mem_map.mp hp
        exact hall _ (List.mem_map.mpr ⟨q, hq', rfl⟩)

end Mine

namespace Mine

noncomputable def bodyIn : List Stmt := match (dOf 19).body with
  | [_, .For _ _ [.For _ _ [.For _ _ b _ _] _ _] _ _, _] => b
  | _ => []

structure BsN (xa xb xc : List Nat) (m : Str → Option Value) : Prop where
  one : ∃ t, m "one" = some (.str (sg xa) t)
  two : ∃ t, m "two" = some (.str (sg xb) t)
  three : ∃ t, m "three" = some (.str (sg xc) t)
noncomputable def Tab (bt : Nat → Nat → Bool) (xa xb xc : List Nat) (D : Nat → Nat → Nat → Prop) (F : Int → Option Value) : Prop :=
  ∀ i j k, i ≤ xa.length → j ≤ xb.length → k ≤ xc.length → D i j k → ∃ t tok, F ((100 * i + 10 * j + k : Nat) : Int) = some (.str (sg t) tok) ∧ Best bt (at3 xa xb xc i j k) t
structure BsI (L d1 d2 : Addr) (xa xb xc : List Nat) (D : Nat → Nat → Nat → Prop) (N : Nat) (h : Heap) : Prop where
  c1 : h.IsCell (L + 1) (some (.ref d1))
  c2 : h.IsCell (L + 2) (some (.ref d2))
  c3 : ∃ v, h.IsCell (L + 3) v
  t1 : ∃ F, DcIs h d1 F N ∧ Tab lower xa xb xc D F
  t2 : ∃ F, DcIs h d2 F N ∧ Tab higher xa xb xc D F
structure Far (L d1 d2 : Addr) : Prop where
  d12 : d1 ≠ d2
  l1 : d1 ≠ L
  l2 : d2 ≠ L
  c11 : d1 ≠ L + 1
  c12 : d1 ≠ L + 2
  c13 : d1 ≠ L + 3
  c21 : d2 ≠ L + 1
  c22 : d2 ≠ L + 2
  c23 : d2 ≠ L + 3
structure Lens (xa xb xc : List Nat) : Prop where
  a : xa.length ≤ 5
  b : xb.length ≤ 5
  c : xc.length ≤ 5
theorem far_n1 (L : Nat) : L + 1 ≠ L ∧ L + 2 ≠ L ∧ L + 3 ≠ L ∧ L + 1 ≠ L + 3 ∧ L + 2 ≠ L + 3 := by omega
theorem Far.n1 (L : Addr) : L + 1 ≠ L ∧ L + 2 ≠ L ∧ L + 3 ≠ L ∧ L + 1 ≠ L + 3 ∧ L + 2 ≠ L + 3 := far_n1 L

theorem Tab.txt {bt : Nat → Nat → Bool} {xa xb xc : List Nat} {D : Nat → Nat → Nat → Prop} {F : Int → Option Value} (H : Tab bt xa xb xc D F) (Ls : Lens xa xb xc) {i j k : Nat} (hi : i ≤ xa.length) (hj : j ≤ xb.length) (hk : k ≤ xc.length) (hD : D i j k) :
    (∃ tok, F ((100 * i + 10 * j + k : Nat) : Int) = some (.str (sg (txtAt F (100 * i + 10 * j + k))) tok) ∧ (txtAt F (100 * i + 10 * j + k)).length ≤ 100) ∧ Best bt (at3 xa xb xc i j k) (txtAt F (100 * i + 10 * j + k)) := by
  obtain ⟨t, tok, h1, h2⟩ := H i j k hi hj hk hD
  have e := txtAt_of h1
  rw [e]
  refine ⟨⟨tok, h1, ?_⟩, h2⟩
  have := rif_len h2.1
  have e1 : total (at3 xa xb xc i j k) = (xa.drop i).length + (xb.drop j).length + (xc.drop k).length := rfl
  simp only [List.length_drop] at e1
  have := Ls.a; have := Ls.b; have := Ls.c
  omega

theorem Tab.step {bt : Nat → Nat → Bool} (O : Ord bt) {xa xb xc : List Nat} {D : Nat → Nat → Nat → Prop} {F : Int → Option Value} (H : Tab bt xa xb xc D F) (Ls : Lens xa xb xc) {i j k : Nat} (hi : i ≤ xa.length) (hj : j ≤ xb.length) (hk : k ≤ xc.length)
    (D1 : i < xa.length → D (i + 1) j k) (D2 : j < xb.length → D i (j + 1) k) (D3 : k < xc.length → D i j (k + 1)) {t : List Nat} {tok : Tok}
    (h0 : waysOf xa xb xc i j k (100 * i + 10 * j + k) = [] → t = [])
    (hne : waysOf xa xb xc i j k (100 * i + 10 * j + k) ≠ [] → (∃ p ∈ waysOf xa xb xc i j k (100 * i + 10 * j + k), t = p.1 :: txtAt F p.2) ∧ ∀ p ∈ waysOf xa xb xc i j k (100 * i + 10 * j + k), (p.1 :: txtAt F p.2).length = t.length → ge bt t (p.1 :: txtAt F p.2) = true) :
    Tab bt xa xb xc (fun i' j' k' => D i' j' k' ∨ (i' = i ∧ j' = j ∧ k' = k)) (fun x => if x = ((100 * i + 10 * j + k : Nat) : Int) then some (.str (sg t) tok) else F x) := by
  have hb : Best bt (at3 xa xb xc i j k) t := by
    refine tab_step O (here := 100 * i + 10 * j + k) (G := txtAt F) ?_ ?_ ?_ h0 hne
    · intro h
      have := (H.txt Ls (i := i + 1) (by omega) hj hk (D1 h)).2
      rw [show 100 * (i + 1) + 10 * j + k = 100 * i + 10 * j + k + 100 from by omega] at this
      exact this
    · intro h
      have := (H.txt Ls (j := j + 1) hi (by omega) hk (D2 h)).2
      rw [show 100 * i + 10 * (j + 1) + k = 100 * i + 10 * j + k + 10 from by omega] at this
      exact this
    · intro h
      exact (H.txt Ls (k := k + 1) hi hj (by omega) (D3 h)).2
  intro i' j' k' hi' hj' hk' hD
  by_cases e : i' = i ∧ j' = j ∧ k' = k
  · obtain ⟨rfl, rfl, rfl⟩ := e
    exact ⟨t, tok, by simp, hb⟩
  · have hD : D i' j' k' := hD.elim id fun q => absurd q e
    obtain ⟨t', tok', h1, h2⟩ := H i' j' k' hi' hj' hk' hD
    refine ⟨t', tok', ?_, h2⟩
    have := Ls.a; have := Ls.b; have := Ls.c
    show (if _ then _ else _) = _
    rw [if_neg (by intro q; apply e; omega)]
    exact h1

theorem Tab.at {bt : Nat → Nat → Bool} {xa xb xc : List Nat} {D : Nat → Nat → Nat → Prop} {F : Int → Option Value} (H : Tab bt xa xb xc D F) (Ls : Lens xa xb xc) {i j k : Nat} (hi : i ≤ xa.length) (hj : j ≤ xb.length) (hk : k ≤ xc.length)
    (D1 : i < xa.length → D (i + 1) j k) (D2 : j < xb.length → D i (j + 1) k) (D3 : k < xc.length → D i j (k + 1)) :
    ∀ p ∈ waysOf xa xb xc i j k (100 * i + 10 * j + k), ∃ tok, F (p.2 : Int) = some (.str (sg (txtAt F p.2)) tok) ∧ (txtAt F p.2).length ≤ 100 := by
  intro p hp
  rcases mem_ways.mp hp with ⟨h, rfl⟩ | ⟨h, rfl⟩ | ⟨h, rfl⟩
  · have := (H.txt Ls (i := i + 1) (by omega) hj hk (D1 h)).1
    rw [show 100 * (i + 1) + 10 * j + k = 100 * i + 10 * j + k + 100 from by omega] at this
    exact this
  · have := (H.txt Ls (j := j + 1) hi (by omega) hk (D2 h)).1
    rw [show 100 * i + 10 * (j + 1) + k = 100 * i + 10 * j + k + 10 from by omega] at this
    exact this
  · exact (H.txt Ls (k := k + 1) hi hj (by omega) (D3 h)).1

theorem dc_ne_list {h : Heap} {d l : Addr} {F : Int → Option Value} {n : Nat} {its : Array Value} (x : DcIs h d F n) (hl : h.PlainList l its) : d ≠ l := by
  rintro rfl
  obtain ⟨o, es, ep, ho, hc, hd, _⟩ := x.map
  obtain ⟨n, ho'⟩ := hl
  rw [ho] at ho'
  cases ho'
  cases hd
theorem WaysIs.add {h h' : Heap} {l : Addr} {W W' : List Way} (x : WaysIs h l W) (tW' : ∀ p ∈ W', ∃ t u, h.IsTuple p.1 #[.str (sg [p.2.1]) t, .int (p.2.2 : Int) u]) (hl : h'.PlainList l ((W.map fun p => Value.ref p.1) ++ W'.map fun p => Value.ref p.1).toArray) (k : KpO [l] h h') : WaysIs h' l (W ++ W') := by
  refine ⟨by rw [List.map_append]; exact hl, fun p hp => ?_⟩
  rcases List.mem_append.mp hp with hp | hp
  · obtain ⟨t, u, z⟩ := x.tups p hp
    exact ⟨t, u, Tu.ko z k (by simpa using tup_ne_list z x.list)⟩
  · obtain ⟨t, u, z⟩ := tW' p hp
    exact ⟨t, u, Tu.ko z k (by simpa using tup_ne_list z x.list)⟩
theorem len1 {W : List Way} {xs : List Nat} {i beh : Nat} (h : W.map (·.2) = ((xs.drop i).take 1).map fun c => (c, beh)) : W.length ≤ 1 := by
  have := congrArg List.length h
  simp at this
  omega

set_option maxHeartbeats 2000000 in
theorem body_spec {w : World} {A : Around} {E : Value → Shared → Prop} {s : Shared} {B h : Heap} {tk : Nat} {mg mb : Str → Option Value} {k' b1 b3 L a d1 d2 : Addr} {cd : Value} {m : Str → Option Value} {xa xb xc : List Nat} {D : Nat → Nat → Nat → Prop} {N i j k : Nat} {ti tj tk' : Tok}
    (T : Tops w B mg mb k' b1 b3) (kB : Kp B h) (hB : ∀ b ∈ [L, L + 3, d1, d2], B.get? b = none) (R : Room A 1 1) (hn : h.Ns L m) (Nm : BsN xa xb xc m) (hfi : m "first" = some (.int (i : Int) ti)) (hse : m "second" = some (.int (j : Int) tj)) (hth : m "third" = some (.int (k : Int) tk'))
    (V : BsI L d1 d2 xa xb xc D N h) (hN : N ≤ 900) (Fa : Far L d1 d2) (Ls : Lens xa xb xc) (hi : i ≤ xa.length) (hj : j ≤ xb.length) (hk : k ≤ xc.length)
    (D1 : i < xa.length → D (i + 1) j k) (D2 : j < xb.length → D i (j + 1) k) (D3 : k < xc.length → D i j (k + 1)) :
    wpAny (model Pg w) A (execs bodyIn (genv 19 L a cd)) (fun f s' => f = .next ∧ ∃ h' tk'' m', s' = St s h' tk'' ∧ h'.Ns L m' ∧ BsN xa xb xc m' ∧ m' "first" = m "first" ∧ m' "second" = m "second" ∧
      BsI L d1 d2 xa xb xc (fun i' j' k' => D i' j' k' ∨ (i' = i ∧ j' = j ∧ k' = k)) (N + 1) h' ∧ KpO [L, L + 3, d1, d2] h h') E (St s h tk) := by
  obtain ⟨⟨to, ho⟩, ⟨tt, ht⟩, ⟨tr, hr⟩⟩ := Nm
  obtain ⟨c1, c2, ⟨v₀, c3⟩, ⟨F1, f1, T1⟩, ⟨F2, f2, T2⟩⟩ := V
  obtain ⟨n1, n2, n3, n4, n5⟩ := Far.n1 L
  have hla := Ls.a
  have hlb := Ls.b
  have hlc := Ls.c
  conv in bodyIn => whnf
  refine wpAny_execs_cons ?_
  refine wpAny_Assign_Name ?_
  refine wpAny_BinOp ?_
  refine wpAny_BinOp ?_
  refine wpAny_BinOp ?_
  refine r_int ?_
  intro t₁ tk₁
  refine g_ld (env := genv 19 L a cd) hn hfi ?_
  refine i_mul (mulOk_left (by decide +kernel)) ?_
  intro t₂ tk₂
  refine wpAny_BinOp ?_
  refine r_int ?_
  intro t₃ tk₃
  refine g_ld (env := genv 19 L a cd) hn hse ?_
  refine i_mul (mulOk_left (by decide +kernel)) ?_
  intro t₄ tk₄
  refine i_add ?_
  intro t₅ tk₅
  refine g_ld (env := genv 19 L a cd) hn hth ?_
  refine i_add ?_
  intro t₆ tk₆
  rw [show (100 * (i : Int) + 10 * (j : Int) + (k : Int)) = ((100 * i + 10 * j + k : Nat) : Int) from by omega]
  refine g_stc (env := genv 19 L a cd) c3 (by rfl) ?_
  intro h₁ c3₁ k₁
  have hn₁ : h₁.Ns L m := Ns.ko hn k₁ (by simpa using Ne.symm n3)
  have f1₁ := f1.ko k₁ (by simpa using Fa.c13)
  have f2₁ := f2.ko k₁ (by simpa using Fa.c23)
  have c1₁ := IsCell.ko c1 k₁ (by simpa using n4)
  have c2₁ := IsCell.ko c2 k₁ (by simpa using n5)
  dsimp only
  refine wpAny_execs_cons ?_
  refine r_comp_to (env := genv 19 L a cd) (cl := [(Str.ofString "here", L + 3)]) (by rfl) (by rfl) (by decide +kernel) (by rfl) (by decide +kernel) (by rfl) (by rfl) hn₁ ?_
  refine ways_iter (inc := 100) (i := i) (here := 100 * i + 10 * j + k) R.handled hn₁ ho hfi hi (by omega) c3₁ (by rfl) (by rfl) (by decide) (by decide) ?_
  intro I h₂ tk₇ Bd It S Tn
  refine ⟨I, [I], [I], _, h₂, tk₇, Bd, It, _, rfl, rfl, S _, Tn _ _ _ _ _ _, ?_⟩
  clear S Tn It Bd I h₂
  rintro wl bad h₂ tk₈ ys ⟨W1, rfl, eW1, tW1⟩ hD k₂ hDf hDL hn₂
  rw [List.take_length] at eW1
  have k₂ : KpO [L] h₁ h₂ := k₂
  have hn₂ : h₂.Ns L _ := hn₂
  have hW1 : WaysIs h₂ wl W1 := ⟨hD, fun p hp => (tW1 p hp).1⟩
  have lW1 := len1 eW1
  clear tW1 hD
  have hwB : B.get? wl = none := by
    have kB₁ : Kp B h₁ := KpO.base kB k₁ fun b hb => hB b (by simp at hb; simp [hb])
    exact none_of kB₁ hDf
  have c1₂ := IsCell.ko c1₁ k₂ (by simpa using n1)
  have c2₂ := IsCell.ko c2₁ k₂ (by simpa using n2)
  have c3₂ := IsCell.ko c3₁ k₂ (by simpa using n3)
  have f1₂ := f1₁.ko k₂ (by simpa using Fa.l1)
  have f2₂ := f2₁.ko k₂ (by simpa using Fa.l2)
  have kk₂ : KpO [L, L + 3, d1, d2, wl] h₁ h₂ := k₂.mono fun b hb => by simp at hb; simp [hb]
  dsimp only
  refine wpAny_execs_cons ?_
  refine wpAny_AugAssign_Name ?_
  refine wpAny_loadName_local (s := St s h₂ tk₈) (by rfl) (by rfl) hn₂ eq_up ?_
  refine r_comp (env := genv 19 L a cd) (cl := [(Str.ofString "here", L + 3)]) (by rfl) (by decide +kernel) (by rfl) (by decide +kernel) ?_
  refine ways_iter (inc := 10) (i := j) (here := 100 * i + 10 * j + k) R.handled hn₂ (ne_up ht) (ne_up hse) hj (by omega) c3₂ (by rfl) (by rfl) (by decide) (by decide) ?_
  intro I h₃ tk₉ Bd It S Tn
  refine ⟨I, [I], [I], _, h₃, tk₉, Bd, It, _, rfl, rfl, S _, Tn _ _ _ _ _ _, ?_⟩
  clear S Tn It Bd I h₃
  rintro w2 bad2 h₃ tk₉ ys ⟨W2, rfl, eW2, tW2⟩ hD2 k₃ hDf2
  rw [List.take_length] at eW2
  have lW2 := len1 eW2
  refine l_iadd (hW1.keeps k₃).list hD2 (by simp; omega) ?_
  intro h₄ hl₄ k₄
  have hW2 : WaysIs h₄ wl (W1 ++ W2) := (hW1.keeps k₃).add (fun p hp => (tW2 p hp).1) hl₄ k₄
  have hn₄ := ns_o (hn₂.keeps k₃) (hW1.keeps k₃).list k₄
  have hwc : ∀ {c : Addr} {v : Option Value}, h₂.IsCell c v → h₄.IsCell c v := fun x => IsCell.ko (x.keeps k₃) k₄ (by simpa using cell_ne_list x hW1.list)
  have hwd : ∀ {d : Addr} {F : Int → Option Value} {n : Nat}, DcIs h₂ d F n → DcIs h₄ d F n := fun x => (x.keeps k₃).ko k₄ (by simpa using dc_ne_list x hW1.list)
  have kk₄ : KpO [L, L + 3, d1, d2, wl] h₁ h₄ := (kk₂.trans (k₃.o _)).trans (k₄.mono fun b hb => by simp at hb; simp [hb])
  refine q_st hn₄ ?_
  intro h₅ tk₁₀ hn₅ k₅
  have hW₅ := hW2.ns hn₄ k₅
  have c1₅ := IsCell.ko (hwc c1₂) k₅ (by simpa using n1)
  have c2₅ := IsCell.ko (hwc c2₂) k₅ (by simpa using n2)
  have c3₅ := IsCell.ko (hwc c3₂) k₅ (by simpa using n3)
  have f1₅ := (hwd f1₂).ko k₅ (by simpa using Fa.l1)
  have f2₅ := (hwd f2₂).ko k₅ (by simpa using Fa.l2)
  have kk₅ : KpO [L, L + 3, d1, d2, wl] h₁ h₅ := kk₄.trans (k₅.mono fun b hb => by simp at hb; simp [hb])
  clear c1₁ c2₁ c3₁ f1₁ f2₁ c1₂ c2₂ c3₂ f1₂ f2₂ hwc hwd hW1 hW2 tW2 hD2
  dsimp only
  refine wpAny_execs_cons ?_
  refine wpAny_AugAssign_Name ?_
  refine wpAny_loadName_local (s := St s h₅ tk₁₀) (by rfl) (by rfl) hn₅ (by rfl) ?_
  refine r_comp (env := genv 19 L a cd) (cl := [(Str.ofString "here", L + 3)]) (by rfl) (by decide +kernel) (by rfl) (by decide +kernel) ?_
  refine ways_iter (inc := 1) (i := k) (here := 100 * i + 10 * j + k) R.handled hn₅ (up2 hr) (up2 hth) hk (by omega) c3₅ (by rfl) (by rfl) (by decide) (by decide) ?_
  intro I h₆ tk₁₁ Bd It S Tn
  refine ⟨I, [I], [I], _, h₆, tk₁₁, Bd, It, _, rfl, rfl, S _, Tn _ _ _ _ _ _, ?_⟩
  clear S Tn It Bd I h₆
  rintro w3 bad3 h₆ tk₁₁ ys ⟨W3, rfl, eW3, tW3⟩ hD3 k₆ hDf3
  rw [List.take_length] at eW3
  have lW3 := len1 eW3
  refine l_iadd (hW₅.keeps k₆).list hD3 (by simp; omega) ?_
  intro h₇ hl₇ k₇
  have hW3 : WaysIs h₇ wl (W1 ++ W2 ++ W3) := (hW₅.keeps k₆).add (fun p hp => (tW3 p hp).1) hl₇ k₇
  have hn₇ := ns_o (hn₅.keeps k₆) (hW₅.keeps k₆).list k₇
  have hwc : ∀ {c : Addr} {v : Option Value}, h₅.IsCell c v → h₇.IsCell c v := fun x => IsCell.ko (x.keeps k₆) k₇ (by simpa using cell_ne_list x hW₅.list)
  have hwd : ∀ {d : Addr} {F : Int → Option Value} {n : Nat}, DcIs h₅ d F n → DcIs h₇ d F n := fun x => (x.keeps k₆).ko k₇ (by simpa using dc_ne_list x hW₅.list)
  have kk₇ : KpO [L, L + 3, d1, d2, wl] h₁ h₇ := (kk₅.trans (k₆.o _)).trans (k₇.mono fun b hb => by simp at hb; simp [hb])
  refine q_st hn₇ ?_
  intro h₈ tk₁₂ hn₈ k₈
  have hW₈ := hW3.ns hn₇ k₈
  have c1₈ := IsCell.ko (hwc c1₅) k₈ (by simpa using n1)
  have c2₈ := IsCell.ko (hwc c2₅) k₈ (by simpa using n2)
  have c3₈ := IsCell.ko (hwc c3₅) k₈ (by simpa using n3)
  have f1₈ := (hwd f1₅).ko k₈ (by simpa using Fa.l1)
  have f2₈ := (hwd f2₅).ko k₈ (by simpa using Fa.l2)
  have kk₈ : KpO [L, L + 3, d1, d2, wl] h₁ h₈ := kk₇.trans (k₈.mono fun b hb => by simp at hb; simp [hb])
  clear c1₅ c2₅ c3₅ f1₅ f2₅ hwc hwd hW₅ hW3 tW3 hD3
  have eW : (W1 ++ W2 ++ W3).map (·.2) = waysOf xa xb xc i j k (100 * i + 10 * j + k) := by
    rw [List.map_append, List.map_append, eW1, eW2, eW3]; rfl
  have lW : (W1 ++ W2 ++ W3).length ≤ 3 := by simp; omega
  generalize hWW : W1 ++ W2 ++ W3 = W at hW₈ eW lW
  have kB₁ : Kp B h₁ := KpO.base kB k₁ fun b hb => hB b (by simp at hb; simp [hb])
  have hBw : ∀ b ∈ [L, L + 3, d1, d2, wl], B.get? b = none := fun b hb => by
    simp at hb
    rcases hb with rfl | rfl | rfl | rfl | rfl
    · exact hB _ (by simp)
    · exact hB _ (by simp)
    · exact hB _ (by simp)
    · exact hB _ (by simp)
    · exact hwB
  have hF1 : ∀ p ∈ W, ∃ tok, F1 (p.2.2 : Int) = some (.str (sg (txtAt F1 p.2.2)) tok) ∧ (txtAt F1 p.2.2).length ≤ 100 := fun p hp => T1.at Ls hi hj hk D1 D2 D3 p.2 (eW ▸ List.mem_map_of_mem hp)
  have hF2 : ∀ p ∈ W, ∃ tok, F2 (p.2.2 : Int) = some (.str (sg (txtAt F2 p.2.2)) tok) ∧ (txtAt F2 p.2.2).length ≤ 100 := fun p hp => T2.at Ls hi hj hk D1 D2 D3 p.2 (eW ▸ List.mem_map_of_mem hp)
  dsimp only
  refine wpAny_execs_cons ?_
  refine wpAny_Assign_Subscript ?_
  refine least_val T (KpO.base kB₁ kk₈ hBw) R hn₈ (by rfl) hW₈ lW c1₈ f1₈ hF1 ?_
  intro t tok h₉ tk₁₃ k₉ h0 hne
  rw [eW] at h0 hne
  refine g_cell (env := genv 19 L a cd) (c1₈.keeps k₉) (by rfl) ?_
  refine g_cell (env := genv 19 L a cd) (c3₈.keeps k₉) (by rfl) ?_
  refine d_set (f1₈.keeps k₉) (by omega) ?_
  intro h₁₀ tk₁₄ f1₁₀ k₁₀
  have T1' := T1.step ord_lower (tok := tok) Ls hi hj hk D1 D2 D3 h0 fun e => ⟨(hne e).1, fun p hp hl => ge_lower_len hl.symm ((hne e).2 p hp)⟩
  have hn₁₀ := Ns.ko (hn₈.keeps k₉) k₁₀ (by simpa using Ne.symm Fa.l1)
  have hW₁₀ := (hW₈.keeps k₉).ko k₁₀ (by simpa using Ne.symm (dc_ne_list (f1₈.keeps k₉) (hW₈.keeps k₉).list)) (fun p hp => by
    obtain ⟨t, u, z⟩ := (hW₈.keeps k₉).tups p hp
    intro q
    simp at q
    obtain ⟨o, es, ep, ho, hc, hd, _⟩ := (f1₈.keeps k₉).map
    obtain ⟨o', ho', _, n, hd'⟩ := z
    rw [q, ho] at ho'
    cases ho'
    rw [hd] at hd'
    cases hd')
  have c1₁₀ := IsCell.ko (c1₈.keeps k₉) k₁₀ (by simpa using Ne.symm Fa.c11)
  have c2₁₀ := IsCell.ko (c2₈.keeps k₉) k₁₀ (by simpa using Ne.symm Fa.c12)
  have c3₁₀ := IsCell.ko (c3₈.keeps k₉) k₁₀ (by simpa using Ne.symm Fa.c13)
  have f2₁₀ := (f2₈.keeps k₉).ko k₁₀ (by simpa using Ne.symm Fa.d12)
  have kk₁₀ : KpO [L, L + 3, d1, d2, wl] h₁ h₁₀ := (kk₈.trans (k₉.o _)).trans (k₁₀.mono fun b hb => by simp at hb; simp [hb])
  dsimp only
  refine wpAny_execs_cons ?_
  refine wpAny_Assign_Subscript ?_
  refine most_val T (KpO.base kB₁ kk₁₀ hBw) R hn₁₀ (by rfl) hW₁₀ lW c2₁₀ f2₁₀ hF2 ?_
  intro t' tok' h₁₁ tk₁₅ k₁₁ h0' hne'
  rw [eW] at h0' hne'
  refine g_cell (env := genv 19 L a cd) (c2₁₀.keeps k₁₁) (by rfl) ?_
  refine g_cell (env := genv 19 L a cd) (c3₁₀.keeps k₁₁) (by rfl) ?_
  refine d_set (f2₁₀.keeps k₁₁) (by omega) ?_
  intro h₁₂ tk₁₆ f2₁₂ k₁₂
  have T2' := T2.step ord_higher (tok := tok') Ls hi hj hk D1 D2 D3 h0' fun e => ⟨(hne' e).1, fun p hp hl => ge_higher ((hne' e).2 p hp)⟩
  dsimp only
  refine wpAny_execs_nil ?_
  have kk₁₂ : KpO [L, L + 3, d1, d2, wl] h₁ h₁₂ := (kk₁₀.trans (k₁₁.o _)).trans (k₁₂.mono fun b hb => by simp at hb; simp [hb])
  refine ⟨rfl, h₁₂, tk₁₆, _, rfl, Ns.ko (hn₁₀.keeps k₁₁) k₁₂ (by simpa using Ne.symm Fa.l2), ⟨⟨to, up3 ho⟩, ⟨tt, up3 ht⟩, ⟨tr, up3 hr⟩⟩, up3 rfl, up3 rfl, ⟨IsCell.ko (c1₁₀.keeps k₁₁) k₁₂ (by simpa using Ne.symm Fa.c21), IsCell.ko (c2₁₀.keeps k₁₁) k₁₂ (by simpa using Ne.symm Fa.c22), ⟨_, IsCell.ko (c3₁₀.keeps k₁₁) k₁₂ (by simpa using Ne.symm Fa.c23)⟩,
    ⟨_, (f1₁₀.keeps k₁₁).ko k₁₂ (by simpa using Fa.d12), T1'⟩, ⟨_, f2₁₂, T2'⟩⟩, ?_⟩
  intro b o hb e
  have hb' : b ≠ L ∧ b ≠ L + 3 ∧ b ≠ d1 ∧ b ≠ d2 := by simpa using hb
  have e₁ := k₁ b o (by simpa using hb'.2.1) e
  have hbw : b ≠ wl := fun q => by rw [q, hDf] at e₁; cases e₁
  exact kk₁₂ b o (by simp [hb', hbw]) e₁
end Mine

namespace Mine

/-- for x in reversed(range(len(src) + 1)) in _law_best -/
theorem rev_for {w : World} {A : Around} {E : Value → Shared → Prop} {s : Shared} {B h : Heap} {tk : Nat} {mg mb : Str → Option Value} {k' b1 b3 L a : Addr} {cd : Value} {m : Str → Option Value} {x src : Str} {xs : List Nat} {t : Tok}
    {p1 p2 p3 p4 p5 p6 p7 p8 p9 p10 p11 : Pos} {body : List Stmt} {own : List Addr} {Q : Flow → Shared → Prop} (J : Nat → Heap → (Str → Option Value) → Prop)
    (T : Tops w B mg mb k' b1 b3) (kB : Kp B h) (hh : A.handled = none) (hn : h.Ns L m) (hsrc : m src = some (.str (sg xs) t)) (hl : xs.length ≤ 100)
    (ks : (genv 19 L a cd).kindOf src = some .local) (kx : (genv 19 L a cd).kindOf x = some .local) (ds : (src == ("__debug__" : Str)) = false) (hown : ∀ b ∈ own, ∃ o, h.get? b = some o)
    (hJ0 : ∀ h', Kp h h' → J 0 h' m) (hJf : ∀ I i hh hh' mm, h.get? I = none → J i hh mm → KpO [L, I] hh hh' → J i hh' mm)
    (step : ∀ i tv hh tkk mm (E' : Value → Shared → Prop), i ≤ xs.length → J i hh mm → hh.Ns L (fun y => if y = x then some (.int ((xs.length - i : Nat) : Int) tv) else mm y) →
      wpAny (model Pg w) A (execs body (genv 19 L a cd)) (fun f s' => f = .next ∧ ∃ h' tk' m', s' = St s h' tk' ∧ h'.Ns L m' ∧ J (i + 1) h' m' ∧ KpO own hh h') E' (St s hh tkk))
    (fin : ∀ h' tk' m', J (xs.length + 1) h' m' → h'.Ns L m' → Q .next (St s h' tk')) :
    wpAny (model Pg w) A (exec (.For (.Name x p1) (.Call (.Name "reversed" p2) [.Call (.Name "range" p3) [.BinOp (.Call (.Name "len" p4) [.Name src p5] [] p6) .Add (.Constant (.int 1) 0 p7) p8] [] p9] [] p10) body [] p11) (genv 19 L a cd)) Q E (St s h tk) := by
  refine r_for (env := genv 19 L a cd) kx (by rfl) ?_
  refine Call_Name1 ?_
  refine g_bi T kB boot_rev ?_
  refine PySem.callWith_type1 ?_
  refine Call_Name1 ?_
  refine g_bi T kB boot_rng ?_
  refine PySem.callWith_type1 ?_
  refine wpAny_BinOp ?_
  refine Call_Name1 ?_
  refine g_bi T kB boot_len' ?_
  refine PySem.callWith_builtin1 ?_
  refine g_ld (env := genv 19 L a cd) hn hsrc ?_ (by rfl) ks ds
  refine s_len (by unfold sizeLine; omega) ?_
  intro t₁ tk₁
  refine r_int ?_
  intro t₂ tk₂
  refine i_add ?_
  intro t₃ tk₃
  rw [show ((xs.length : Int) + 1) = ((xs.length + 1 : Nat) : Int) from by omega]
  refine c_range ?_
  intro rr h₁ tk₄ tr₁ tr₂ k₁ hrr hrange
  refine c_reversed hrange (by omega) ?_
  intro I h₂ k₂ hI hit hlt
  have k₁₂ : Kp h h₂ := k₁.trans k₂
  have hI₀ : h.get? I = none := none_of k₁ hI
  have hIL : L ≠ I := ns_ne_none hn hI₀
  refine wpAny_pyIter_rangeiter (s := St s h₂ _) hit ?_
  have W := Walks.range (prog := Pg) (w := w) hh I (((xs.length + 1 : Nat) : Int) - 1) (-1) (xs.length + 1)
  refine ⟨I, [I], [I], xs.length + 1, _, _, h₂, _, m, J, rfl, rfl, W, by simpa using hit, hn.keeps k₁₂, (fun hm => hIL (List.mem_singleton.mp hm)), hJ0 _ k₁₂, fun i hh hh' mm hj kk => hJf I i hh hh' mm hI₀ hj kk, ?_, fin⟩
  rintro i v hh tkk mm E' hi ⟨tv, rfl⟩ hJ hns hIt
  rw [show (((xs.length + 1 : Nat) : Int) - 1 + (i : Int) * (-1)) = ((xs.length - i : Nat) : Int) from by omega] at hns
  refine wpAny_mono (step i tv hh tkk mm E' (by omega) hJ hns) ?_ (fun _ _ e => e)
  rintro f s' ⟨rfl, h', tk', m', rfl, hn', hJ', kk⟩
  refine ⟨rfl, h', tk', m', rfl, hn', hJ', ?_⟩
  intro b hb o e
  simp at hb
  subst hb
  refine kk b o (fun hm => ?_) e
  obtain ⟨o', ho'⟩ := hown b hm
  rw [hI₀] at ho'; cases ho'
end Mine

namespace Mine

theorem Tab.mono {bt : Nat → Nat → Bool} {xa xb xc : List Nat} {D D' : Nat → Nat → Nat → Prop} {F : Int → Option Value} (H : Tab bt xa xb xc D F) (hD : ∀ i j k, i ≤ xa.length → j ≤ xb.length → k ≤ xc.length → D' i j k → D i j k) : Tab bt xa xb xc D' F :=
  fun i j k hi hj hk d => H i j k hi hj hk (hD i j k hi hj hk d)
theorem DcIs.mono {h : Heap} {d : Addr} {f : Int → Option Value} {n n' : Nat} (x : DcIs h d f n) (hn : n ≤ n') : DcIs h d f n' := ⟨x.map, x.le.mono hn⟩
theorem DcIs.here {h : Heap} {d : Addr} {f : Int → Option Value} {n : Nat} (x : DcIs h d f n) : ∃ o, h.get? d = some o := let ⟨o, _, _, ho, _⟩ := x.map; ⟨o, ho⟩
theorem IsCell.here {h : Heap} {c : Addr} {v : Option Value} (x : h.IsCell c v) : ∃ o, h.get? c = some o := let ⟨o, ho, _⟩ := x; ⟨o, ho⟩
theorem Ns.here {h : Heap} {c : Addr} {m : Str → Option Value} (x : h.Ns c m) : ∃ o, h.get? c = some o := let ⟨o, _, _, ho, _⟩ := x; ⟨o, ho⟩
theorem ne_of_here {h : Heap} {c I : Addr} (x : ∃ o, h.get? c = some o) (hI : h.get? I = none) : c ≠ I := fun e => by obtain ⟨o, ho⟩ := x; rw [e, hI] at ho; cases ho

section
variable {L d1 d2 : Addr} {xa xb xc : List Nat} {D D' : Nat → Nat → Nat → Prop} {N N' : Nat} {h h' h0 : Heap} {m : Str → Option Value}
theorem BsI.mono (V : BsI L d1 d2 xa xb xc D N h) (hD : ∀ i j k, i ≤ xa.length → j ≤ xb.length → k ≤ xc.length → D' i j k → D i j k) (hN : N ≤ N') : BsI L d1 d2 xa xb xc D' N' h :=
  ⟨V.c1, V.c2, V.c3, let ⟨F, f, t⟩ := V.t1; ⟨F, f.mono hN, t.mono hD⟩, let ⟨F, f, t⟩ := V.t2; ⟨F, f.mono hN, t.mono hD⟩⟩
theorem BsI.ko {ow : List Addr} (V : BsI L d1 d2 xa xb xc D N h) (k : KpO ow h h') (h1 : L + 1 ∉ ow) (h2 : L + 2 ∉ ow) (h3 : L + 3 ∉ ow) (h4 : d1 ∉ ow) (h5 : d2 ∉ ow) : BsI L d1 d2 xa xb xc D N h' :=
  ⟨IsCell.ko V.c1 k h1, IsCell.ko V.c2 k h2, let ⟨v, c⟩ := V.c3; ⟨v, IsCell.ko c k h3⟩, let ⟨F, f, t⟩ := V.t1; ⟨F, f.ko k h4, t⟩, let ⟨F, f, t⟩ := V.t2; ⟨F, f.ko k h5, t⟩⟩
theorem BsI.here (V : BsI L d1 d2 xa xb xc D N h) : ∀ b ∈ [L + 1, L + 2, L + 3, d1, d2], ∃ o, h.get? b = some o := by
  intro b hb
  simp only [List.mem_cons, List.not_mem_nil, or_false] at hb
  rcases hb with rfl | rfl | rfl | rfl | rfl
  · exact IsCell.here V.c1
  · exact IsCell.here V.c2
  · obtain ⟨v, c⟩ := V.c3; exact IsCell.here c
  · obtain ⟨F, f, t⟩ := V.t1; exact f.here
  · obtain ⟨F, f, t⟩ := V.t2; exact f.here

theorem BsN.up {x : Str} {v : Option Value} (V : BsN xa xb xc m) (n1 : Str.ofString "one" ≠ x) (n2 : Str.ofString "two" ≠ x) (n3 : Str.ofString "three" ≠ x) : BsN xa xb xc (fun y => if y = x then v else m y) :=
  ⟨let ⟨t, e⟩ := V.one; ⟨t, ne_up e n1⟩, let ⟨t, e⟩ := V.two; ⟨t, ne_up e n2⟩, let ⟨t, e⟩ := V.three; ⟨t, ne_up e n3⟩⟩

/-- what a loop of _law_best keeps, told from the heap it began with -/
structure BsJ (h0 : Heap) (L d1 d2 : Addr) (xa xb xc : List Nat) (D : Nat → Nat → Nat → Prop) (N : Nat) (h : Heap) (m : Str → Option Value) : Prop where
  base : KpO [L, L + 3, d1, d2] h0 h
  names : BsN xa xb xc m
  tab : BsI L d1 d2 xa xb xc D N h
theorem BsJ.own {m' : Str → Option Value} (J : BsI L d1 d2 xa xb xc D N h) (hn : h.Ns L m') : ∀ b ∈ [L, L + 3, d1, d2], ∃ o, h.get? b = some o := by
  intro b hb
  rcases List.mem_cons.mp hb with rfl | hb
  · exact Ns.here hn
  · refine J.here b ?_
    simp only [List.mem_cons, List.not_mem_nil, or_false] at hb ⊢
    rcases hb with rfl | rfl | rfl <;> simp
theorem BsJ.frame {I : Addr} {D0 : Nat → Nat → Nat → Prop} {N0 : Nat} {hh hh' : Heap} (V0 : BsI L d1 d2 xa xb xc D0 N0 h0) (Fa : Far L d1 d2) (hI : h0.get? I = none) (V : BsJ h0 L d1 d2 xa xb xc D N hh m) (k : KpO [L, I] hh hh') : BsJ h0 L d1 d2 xa xb xc D N hh' m := by
  have ne : ∀ b ∈ [L + 1, L + 2, L + 3, d1, d2], b ≠ I := fun b hb => ne_of_here (V0.here b hb) hI
  obtain ⟨n1, n2, n3, n4, n5⟩ := Far.n1 L
  refine ⟨?_, V.names, V.tab.ko k ?_ ?_ ?_ ?_ ?_⟩
  · intro b o hb e
    have hbI : b ≠ I := ne_of_here ⟨o, e⟩ hI
    have hbL : b ≠ L := fun q => hb (by simp [q])
    exact k b o (by simp [hbI, hbL]) (V.base b o hb e)
  · simp [n1, ne (L + 1) (by simp)]
  · simp [n2, ne (L + 2) (by simp)]
  · simp [n3, ne (L + 3) (by simp)]
  · simp [Fa.l1, ne d1 (by simp)]
  · simp [Fa.l2, ne d2 (by simp)]
end

noncomputable def forSt : Stmt := match (dOf 19).body with
  | [_, f, _] => f
  | _ => .Pass default
noncomputable abbrev D1 (la i : Nat) : Nat → Nat → Nat → Prop := fun i' _ _ => la < i' + i
noncomputable abbrev D2 (la lb i j : Nat) : Nat → Nat → Nat → Prop := fun i' j' _ => la < i' + i ∨ (i' + i = la ∧ lb < j' + j)
noncomputable abbrev D3 (la lb lc i j k : Nat) : Nat → Nat → Nat → Prop := fun i' j' k' => la < i' + i ∨ (i' + i = la ∧ (lb < j' + j ∨ (j' + j = lb ∧ lc < k' + k)))

set_option maxHeartbeats 2000000 in
theorem best_loops {w : World} {A : Around} {E : Value → Shared → Prop} {s : Shared} {B h : Heap} {tk : Nat} {mg mb : Str → Option Value} {k' b1 b3 L a d1 d2 : Addr} {cd : Value} {m : Str → Option Value} {xa xb xc : List Nat} {Q : Flow → Shared → Prop}
    (T : Tops w B mg mb k' b1 b3) (kB : Kp B h) (hB : ∀ b ∈ [L, L + 3, d1, d2], B.get? b = none) (R : Room A 1 1) (hn : h.Ns L m) (Nm : BsN xa xb xc m)
    (V : BsI L d1 d2 xa xb xc (fun _ _ _ => False) 0 h) (Fa : Far L d1 d2) (Ls : Lens xa xb xc)
    (hq : ∀ h' tk' m', h'.Ns L m' → BsJ h L d1 d2 xa xb xc (fun _ _ _ => True) 900 h' m' → Q .next (St s h' tk')) :
    wpAny (model Pg w) A (exec forSt (genv 19 L a cd)) Q E (St s h tk) := by
  obtain ⟨⟨to, ho⟩, ⟨tt, ht⟩, ⟨tr, hr⟩⟩ := id Nm
  have hla := Ls.a
  have hlb := Ls.b
  have hlc := Ls.c
  conv in forSt => whnf
  refine rev_for (xs := xa) (own := [L, L + 3, d1, d2]) (fun i hh mm => BsJ h L d1 d2 xa xb xc (D1 xa.length i) (36 * i) hh mm) T kB R.handled hn ho (by omega) (by rfl) (by rfl) (by decide)
    (BsJ.own V hn) (fun h' k => ⟨k.o _, Nm, (V.ko (ow := []) (k.o _) (by simp) (by simp) (by simp) (by simp) (by simp)).mono (fun i j k hi _ _ d => by have d : xa.length < i + 0 := d; omega) (by omega)⟩)
    (fun I i hh hh' mm hI J kk => BsJ.frame V Fa hI J kk) ?_ ?_
  · intro i tv h₁ tk₁ m₁ E₁ hi J₁ hn₁
    have kB₁ : Kp B h₁ := KpO.base kB J₁.base hB
    have Nm₁ := J₁.names.up (x := "first") (v := some (.int ((xa.length - i : Nat) : Int) tv)) (by decide) (by decide) (by decide)
    obtain ⟨tt₁, ht₁⟩ := Nm₁.two
    refine wpAny_execs_cons ?_
    refine rev_for (xs := xb) (own := [L, L + 3, d1, d2]) (fun j hh mm => BsJ h₁ L d1 d2 xa xb xc (D2 xa.length xb.length i j) (36 * i + 6 * j) hh mm ∧ mm "first" = some (.int ((xa.length - i : Nat) : Int) tv)) T kB₁ R.handled hn₁ ht₁ (by omega) (by rfl) (by rfl) (by decide)
      (BsJ.own J₁.tab hn₁) (fun h' k => ⟨⟨k.o _, Nm₁, (J₁.tab.ko (ow := []) (k.o _) (by simp) (by simp) (by simp) (by simp) (by simp)).mono (fun i' j k hi hj _ d => by
        have d : xa.length < i' + i ∨ (i' + i = xa.length ∧ xb.length < j + 0) := d
        show xa.length < i' + i
        omega) (by omega)⟩, eq_up⟩)
      (fun I i hh hh' mm hI J kk => ⟨BsJ.frame J₁.tab Fa hI J.1 kk, J.2⟩) ?_ ?_
    · intro j tw h₂ tk₂ m₂ E₂ hj J₂ hn₂
      obtain ⟨J₂, hf₂⟩ := J₂
      have kB₂ : Kp B h₂ := KpO.base kB₁ J₂.base hB
      have Nm₂ := J₂.names.up (x := "second") (v := some (.int ((xb.length - j : Nat) : Int) tw)) (by decide) (by decide) (by decide)
      obtain ⟨tr₂, hr₂⟩ := Nm₂.three
      refine wpAny_execs_cons ?_
      refine rev_for (xs := xc) (own := [L, L + 3, d1, d2]) (fun k hh mm => BsJ h₂ L d1 d2 xa xb xc (D3 xa.length xb.length xc.length i j k) (36 * i + 6 * j + k) hh mm ∧ mm "first" = some (.int ((xa.length - i : Nat) : Int) tv) ∧ mm "second" = some (.int ((xb.length - j : Nat) : Int) tw)) T kB₂ R.handled hn₂ hr₂ (by omega) (by rfl) (by rfl) (by decide)
        (BsJ.own J₂.tab hn₂) (fun h' k => ⟨⟨k.o _, Nm₂, (J₂.tab.ko (ow := []) (k.o _) (by simp) (by simp) (by simp) (by simp) (by simp)).mono (fun i' j' k' hi hj hk d => by
          have d : xa.length < i' + i ∨ (i' + i = xa.length ∧ (xb.length < j' + j ∨ (j' + j = xb.length ∧ xc.length < k' + 0))) := d
          show xa.length < i' + i ∨ (i' + i = xa.length ∧ xb.length < j' + j)
          omega) (by omega)⟩, ne_up hf₂, eq_up⟩)
        (fun I i hh hh' mm hI J kk => ⟨BsJ.frame J₂.tab Fa hI J.1 kk, J.2⟩) ?_ ?_
      · intro k tx h₃ tk₃ m₃ E₃ hk J₃ hn₃
        obtain ⟨J₃, hf₃, hs₃⟩ := J₃
        have kB₃ : Kp B h₃ := KpO.base kB₂ J₃.base hB
        have Nm₃ := J₃.names.up (x := "third") (v := some (.int ((xc.length - k : Nat) : Int) tx)) (by decide) (by decide) (by decide)
        refine wpAny_mono (body_spec (i := xa.length - i) (j := xb.length - j) (k := xc.length - k) T kB₃ hB R hn₃ Nm₃ (ne_up hf₃) (ne_up hs₃) eq_up J₃.tab (by omega) Fa Ls (by omega) (by omega) (by omega) ?_ ?_ ?_) ?_ (fun _ _ e => e)
        · intro _
          show xa.length < (xa.length - i + 1) + i ∨ _
          omega
        · intro _
          show _ ∨ (xa.length - i + i = xa.length ∧ (xb.length < (xb.length - j + 1) + j ∨ _))
          right; refine ⟨by omega, Or.inl (by omega)⟩
        · intro _
          show _ ∨ (xa.length - i + i = xa.length ∧ (_ ∨ (xb.length - j + j = xb.length ∧ xc.length < (xc.length - k + 1) + k)))
          right; refine ⟨by omega, Or.inr ⟨by omega, by omega⟩⟩
        · rintro f s' ⟨rfl, h', tk', m', rfl, hn', Nm', ef, es, V', kk⟩
          refine ⟨rfl, h', tk', m', rfl, hn', ⟨⟨J₃.base.trans kk, Nm', V'.mono ?_ (by omega)⟩, ?_, ?_⟩, kk⟩
          · intro i' j' k' hi' hj' hk' d
            have d : xa.length < i' + i ∨ (i' + i = xa.length ∧ (xb.length < j' + j ∨ (j' + j = xb.length ∧ xc.length < k' + (k + 1)))) := d
            show (xa.length < i' + i ∨ (i' + i = xa.length ∧ (xb.length < j' + j ∨ (j' + j = xb.length ∧ xc.length < k' + k)))) ∨ (i' = xa.length - i ∧ j' = xb.length - j ∧ k' = xc.length - k)
            omega
          · rw [ef]; exact ne_up hf₃
          · rw [es]; exact ne_up hs₃
      · rintro h' tk' m' ⟨J', hf', _⟩ hn'
        refine wpAny_execs_nil ?_
        refine ⟨rfl, h', tk', m', rfl, hn', ⟨⟨J₂.base.trans J'.base, J'.names, J'.tab.mono ?_ (by omega)⟩, hf'⟩, J'.base⟩
        intro i' j' k' hi' hj' hk' d
        have d : xa.length < i' + i ∨ (i' + i = xa.length ∧ xb.length < j' + (j + 1)) := d
        show xa.length < i' + i ∨ (i' + i = xa.length ∧ (xb.length < j' + j ∨ (j' + j = xb.length ∧ xc.length < k' + (xc.length + 1))))
        omega
    · rintro h' tk' m' ⟨J', _⟩ hn'
      refine wpAny_execs_nil ?_
      refine ⟨rfl, h', tk', m', rfl, hn', ⟨J₁.base.trans J'.base, J'.names, J'.tab.mono ?_ (by omega)⟩, J'.base⟩
      intro i' j' k' hi' hj' hk' d
      have d : xa.length < i' + (i + 1) := d
      show xa.length < i' + i ∨ (i' + i = xa.length ∧ xb.length < j' + (xb.length + 1))
      omega
  · intro h' tk' m' J' hn'
    refine hq h' tk' m' hn' ⟨J'.base, J'.names, J'.tab.mono ?_ (by omega)⟩
    intro i' j' k' hi' hj' hk' _
    show xa.length < i' + (xa.length + 1)
    omega
end Mine

namespace Mine

section
variable {w : World} {A : Around} {s : Shared}

theorem newEnv_cells {M : Model} {E : Value → Shared → Prop} {h : Heap} {tk : Nat} {scope : Scope} {cl : List (Str × Addr)} {env : Env} {Q : Env → Shared → Prop}
    (hQ : ∀ h', h' = pushCells (h.push { cls := .type "dict", data := .dict #[] }) scope.names → h'.Ns h.objs.size (fun _ => none) →
      Q (newEnv scope h.objs.size env.globals (cellsFrom (h.objs.size + 1) scope.names cl) env.qual none .none (some env) builtinsNs) (St s h' tk)) :
    wpAny M A (newFunctionEnv scope env.globals cl [] env.qual none .none (some env)) Q E (St s h tk) := by
  simp only [newFunctionEnv, Option.isSome_some, if_true]
  refine wpAny_bind (wpAny_alloc ?_)
  refine wpAny_bind (wpAny_layCells _ (fun name kind cells => by cases hkc : kind == NameKind.cell <;> simp [hkc]) _ _ _ _ ?_)
  rw [List.forIn_nil]
  refine wpAny_bind (wpAny_pure (wpAny_pure ?_))
  have e : (h.push { cls := .type "dict", data := .dict #[] }).objs.size = h.objs.size + 1 := Heap.size_push ..
  have := hQ _ rfl ((Heap.Ns.new h (.type "dict")).keeps (pushCells_keeps _ _))
  show Q { scope, locals := h.objs.size, globals := env.globals, cells := cellsFrom (h.push { cls := .type "dict", data := .dict #[] }).objs.size scope.names cl, qual := env.qual, func := none, code := env.code, frame := env.frame, builtins := env.builtins } _
  rw [e]
  exact this

/-- Walks as Itr, the target one cell -/
theorem Itr.walkCell {I c : Addr} {x : Str} {px : Pos} {cenv : Env} {fp wr : List Addr} {N : Nat} {P : Nat → Value → Prop} {It : Nat → Heap → Prop} (W : Walks Pg w A I fp wr N P It)
    (hlv : ∀ i h, It i h → ∀ b ∈ wr, ∃ o, h.get? b = some o) (hC : cenv.locals ∉ fp) (hc : c ∉ fp) (hCc : cenv.locals ≠ c)
    (hk : cenv.scope.kind = .function) (hx : cenv.kindOf x = some .cell) (hl : cenv.cells.lookup x = some c) :
    Itr w A s I (.Name x px) cenv (c :: cenv.locals :: fp) (c :: wr) N (fun i h => ∃ v, h.IsCell c (some v) ∧ P i v) (fun i h => It i h ∧ (∃ m, h.Ns cenv.locals m) ∧ ∃ v, h.IsCell c v) where
  next := fun i h tk E hi hIt => by
    obtain ⟨hIt, ⟨m, hm⟩, v₀, hv₀⟩ := hIt
    refine W.item i (St s h tk) _ E hi hIt ?_
    intro v h₁ tk₁ hP hIt₁ hk₁
    refine ⟨v, rfl, ?_⟩
    refine wpAny_of_eq (show letOwnedTupleGo (.Name x px) (.ref I) v = pure () from rfl) ?_
    have hCw : cenv.locals ∉ wr := fun hm => hC (W.sub _ hm)
    have hcw : c ∉ wr := fun hm => hc (W.sub _ hm)
    have hv₁ : h₁.IsCell c v₀ := let ⟨o, ho, r⟩ := hv₀; ⟨o, hk₁ _ o hcw ho, r⟩
    have hm₁ : h₁.Ns cenv.locals m := hm.at' fun o e => hk₁ _ o hCw e
    refine wpAny_assign_Name (wpAny_storeName_cell (s := St s h₁ tk₁) hk hx hl hv₁ (fun h₂ hc₂ hs₂ => ?_))
    refine ⟨h₂, tk₁, rfl, ⟨v, hc₂, hP⟩, ⟨?_, ⟨m, hm₁.at' fun o e => (hs₂.2 _ hCc).trans e⟩, _, hc₂⟩, ?_⟩
    · exact W.frame _ _ _ hIt₁ fun b hb o e => (hs₂.2 b (fun q => hc (q ▸ hb))).trans e
    · intro b o hb e
      have hb' : b ≠ c ∧ b ∉ wr := by simpa using hb
      exact (hs₂.2 b hb'.1).trans (hk₁ b o hb'.2 e)
  stop := fun h tk E hIt => by
    obtain ⟨hIt, ⟨m, hm⟩, v₀, hv₀⟩ := hIt
    refine W.done (St s h tk) _ E hIt ?_
    intro h₁ tk₁ hk₁
    have hCw : cenv.locals ∉ wr := fun hm => hC (W.sub _ hm)
    refine ⟨rfl, h₁, tk₁, rfl, ⟨m, hm.at' fun o e => hk₁ _ o hCw e⟩, fun b o hb e => hk₁ b o (fun q => hb (List.mem_cons_of_mem _ q)) e⟩
  self := fun h tk Q E hIt hQ => W.self 0 (St s h tk) Q E hIt.1 hQ
  sub := fun b hb => by
    rcases List.mem_cons.mp hb with rfl | hb
    · exact List.mem_cons_self
    · exact List.mem_cons_of_mem _ (List.mem_cons_of_mem _ (W.sub _ hb))
  frame := fun i h h' hIt hk => ⟨W.frame _ _ _ hIt.1 fun b hb o e => hk b (List.mem_cons_of_mem _ (List.mem_cons_of_mem _ hb)) o e, hIt.2.1.imp fun m hm => hm.at' fun o e => hk _ (List.mem_cons_of_mem _ List.mem_cons_self) o e,
    hIt.2.2.imp fun v x => let ⟨o, ho, r⟩ := x; ⟨o, hk _ List.mem_cons_self o ho, r⟩⟩
  live := fun i h hIt b hb => by
    rcases List.mem_cons.mp hb with rfl | hb
    · obtain ⟨v, o, ho, _⟩ := hIt.2.2; exact ⟨o, ho⟩
    · exact hlv i h hIt.1 b hb

/-- a list comprehension over one cell of its own -/
theorem r_comp_cell {E : Value → Shared → Prop} {env : Env} {scope : Scope} {cl : List (Str × Addr)} {elt iter : Expr} {x : Str} {px pos : Pos} {h : Heap} {tk : Nat} {Q : Value → Shared → Prop}
    (hclos : closureFor scope env = pure cl) (hkind : scope.kind = .function) (hnames : ∀ y ∈ scope.names, y.2 = .local → scope.names.lookup y.1 = some .local)
    (hcf : ∀ n, cellsFrom n scope.names cl = (x, n) :: cl) (hpc : ∀ h, pushCells h scope.names = h.push { cls := .type "cell", data := .cell none }) (hx : (relabel scope env).names.lookup x = some .cell)
    (hi : wpAny (model Pg w) A (eval iter env) (fun xv s₁ => wpAny (model Pg w) A (pyIter xv) (fun it s₂ => ∃ I fp wr N P It h₂ tk₂, ∃ El : Nat → List Value → Prop, it = .ref I ∧ s₂ = St s h₂ tk₂ ∧ Walks Pg w A I fp wr N P It ∧
      Kp h h₂ ∧ N ≤ sizeLine ∧ (∀ b ∈ wr, h.get? b = none) ∧ (∀ b ∈ fp, b < h₂.objs.size) ∧ (∀ i h, It i h → ∀ b ∈ wr, ∃ o, h.get? b = some o) ∧ It 0 h₂ ∧ El 0 [] ∧
      (∀ C c i h₁ tk₁ ys v (E' : Value → Shared → Prop), i < N → h₁.IsCell c (some v) → P i v → El i ys → Kp h h₁ →
        wpAny (model Pg w) A (eval elt (compEnvC scope ((x, c) :: cl) C env)) (fun y s₃ => ∃ h₃ tk₃, s₃ = St s h₃ tk₃ ∧ Kp h₁ h₃ ∧ El (i + 1) (ys ++ [y])) E' (St s h₁ tk₁)) ∧
      (∀ D h' tk' ys, El N ys → h'.PlainList D ys.toArray → Kp h h' → h.get? D = none → Q (.ref D) (St s h' tk'))) E s₁) E (St s h tk))
    (hs : ∀ x, foldedSetIterable iter env x = pure x := by intro _; rfl) :
    wpAny (model Pg w) A (eval (.ListComp elt [⟨.Name x px, iter, [], 0⟩] scope pos) env) Q E (St s h tk) := by
  rw [eval_ListComp]
  refine wpAny_comprehension_free (use := none) rfl hs hclos hkind hnames (wpAny_mono hi (fun xv s₁ h₁ => wpAny_mono h₁ (fun it s₂ h₂ => ?_) fun _ _ e => e) fun _ _ e => e)
  obtain ⟨I, fp, wr, N, P, It, h₂, tk₂, El, rfl, rfl, W, kk, hN, hfresh, hbelow, hlv, h0, hE0, step, fin⟩ := h₂
  refine wpAny_newObj_type (newEnv_cells (s := s) (tk := tk₂) (h := h₂.push { cls := .type "list", dict := none, data := .seq ([] : List Value).toArray }) ?_)
  intro h₃ eh₃ hns₃
  generalize hH2 : h₂.push { cls := .type "list", dict := none, data := .seq ([] : List Value).toArray } = H2 at hns₃ eh₃ ⊢
  rw [hpc] at eh₃
  rw [hcf]
  have hC : H2.objs.size = h₂.objs.size + 1 := by rw [← hH2, Heap.size_push]
  have hP : (H2.push { cls := .type "dict", data := .dict #[] }).objs.size = h₂.objs.size + 2 := by rw [Heap.size_push, hC]
  have hc₃ : h₃.IsCell (H2.objs.size + 1) none := by
    rw [eh₃, hC, show h₂.objs.size + 1 + 1 = (H2.push { cls := .type "dict", data := .dict #[] }).objs.size from hP.symm]
    exact ⟨_, Heap.get?_push_size _ rfl, rfl⟩
  have hDC : h₂.objs.size ≠ H2.objs.size := by rw [hC]; exact Nat.ne_of_lt (Nat.lt_succ_self _)
  have hDc : h₂.objs.size ≠ H2.objs.size + 1 := by rw [hC]; exact Nat.ne_of_lt (Nat.lt_succ_of_lt (Nat.lt_succ_self _))
  have hCc : H2.objs.size ≠ H2.objs.size + 1 := Nat.ne_of_lt (Nat.lt_succ_self _)
  have k₃ : Kp h₂ h₃ := fun b o e => by
    rw [eh₃]
    exact Heap.get?_push_of_some _ (Heap.get?_push_of_some _ (hH2 ▸ Heap.get?_push_of_some _ e))
  have hacc : h₃.PlainList h₂.objs.size #[] := ⟨_, by
    rw [eh₃]
    exact Heap.get?_push_of_some _ (Heap.get?_push_of_some _ (hH2 ▸ Heap.get?_push_size _ rfl))⟩
  have hCf : H2.objs.size ∉ fp := fun hm => by have := hbelow _ hm; rw [hC] at this; exact Nat.lt_irrefl _ (Nat.lt_of_succ_lt this)
  have hcf' : H2.objs.size + 1 ∉ fp := fun hm => by have := hbelow _ hm; rw [hC] at this; exact Nat.lt_irrefl _ (Nat.lt_of_succ_lt (Nat.lt_of_succ_lt this))
  have hDf : h₂.objs.size ∉ (H2.objs.size + 1) :: H2.objs.size :: fp := fun hm => by
    rcases List.mem_cons.mp hm with e | hm
    · exact hDc e
    rcases List.mem_cons.mp hm with e | hm
    · exact hDC e
    · exact Nat.lt_irrefl _ (hbelow _ hm)
  have fresh : ∀ a, h₂.objs.size ≤ a → h.get? a = none := fun a ha => by
    cases e : h.get? a with
    | none => rfl
    | some o' => exact absurd (Heap.lt_size (kk _ _ e)) (Nat.not_lt.mpr ha)
  have hkp : ∀ {h'' : Heap}, KpO (h₂.objs.size :: (H2.objs.size + 1) :: wr) h₃ h'' → Kp h h'' := fun k b o e => by
    refine k b o ?_ (k₃ b o (kk b o e))
    intro hm
    rcases List.mem_cons.mp hm with q | hm
    · rw [q, fresh _ (Nat.le_refl _)] at e; cases e
    rcases List.mem_cons.mp hm with q | hm
    · rw [q, fresh _ (by rw [hC]; exact Nat.le_succ_of_le (Nat.le_succ _))] at e; cases e
    · rw [hfresh b hm] at e; cases e
  have IT : Itr w A s I (.Name x px) (compEnvC scope ((x, H2.objs.size + 1) :: cl) H2.objs.size env) _ _ N _ _ := Itr.walkCell (c := H2.objs.size + 1) W hlv hCf hcf' hCc (by simp [compEnvC, relabel, hkind]) hx (by simp [compEnvC, List.lookup_cons])
  have at0 : It 0 h₃ ∧ (∃ m, h₃.Ns H2.objs.size m) ∧ ∃ v, h₃.IsCell (H2.objs.size + 1) v := ⟨W.frame _ _ _ h0 fun b _ o e => k₃ b o e, ⟨_, hns₃⟩, _, hc₃⟩
  have loop : codeAny (model Pg w) A (.compLoop (.ListComp elt [⟨.Name x px, iter, [], 0⟩] scope pos) 0 (.ref I) (.ref h₂.objs.size) (compEnvC scope ((x, H2.objs.size + 1) :: cl) H2.objs.size env))
        (compPost (model Pg w) A E none Q (.ref h₂.objs.size) H2.objs.size) (St s h₃ tk₂) := by
    refine comp_loop (fun i _ ys => El i ys) IT hDf hN at0 hacc hE0 (fun _ _ _ _ e _ => e) ?_ ?_
    · rintro i h' tk' ys E' hi ⟨v, hv, hPv⟩ hEl k _
      refine wpAny_tests_nil ?_
      refine ⟨h', tk', rfl, Kp.refl _, ?_⟩
      rw [if_pos rfl]
      exact step _ _ i h' tk' ys v E' hi hv hPv hEl (hkp k)
    · intro h' tk' ys m hEl hDl hm k
      refine ⟨m, hm, fun h'' hs'' => ?_⟩
      refine fin _ h'' tk' ys hEl (hDl.at fun o e => (hs''.2 _ hDC).trans e) ?_ (fresh _ (Nat.le_refl _))
      exact fun b o e => (hs''.2 b (by rintro rfl; rw [fresh _ (by rw [hC]; exact Nat.le_succ _)] at e; cases e)).trans (hkp k b o e)
  exact codeAny_compStart_list loop (IT.self _ _ _ _ at0 loop)
end
end Mine

namespace Mine

theorem mem19 : dOf 19 ∈ allDefs := by simp [allDefs, ds4]
theorem off_ne (L : Nat) : L + 1 ≠ L + 2 ∧ L + 3 ≠ L + 1 ∧ L + 3 ≠ L + 2 ∧ L ≠ L + 1 ∧ L ≠ L + 2 ∧ L ≠ L + 3 := by omega

set_option maxHeartbeats 1000000 in
theorem best_spec {w : World} {A : Around} {E : Value → Shared → Prop} {s : Shared} {B h : Heap} {tk : Nat} {mg mb : Str → Option Value} {k b1 b3 : Addr} {xa xb xc : List Nat} {t1 t2 t3 : Tok} {Q : Value → Shared → Prop}
    (T : Tops w B mg mb k b1 b3) (kB : Kp B h) (R : Room A 8 30) (Ls : Lens xa xb xc)
    (hq : ∀ r h' tk' ta tb u1 u2, Kp h h' → h.get? r = none → h'.IsTuple r #[.str (sg ta) u1, .str (sg tb) u2] → Best lower (at3 xa xb xc 0 0 0) ta → Best higher (at3 xa xb xc 0 0 0) tb → Q (.ref r) (St s h' tk')) :
    wpAny (model Pg w) A (call (.ref (fa mg 19)) [.str (sg xa) t1, .str (sg xb) t2, .str (sg xc) t3]) Q E (St s h tk) := by
  refine enterC (i := 19) (d := 7) (u := 27) (binds := [("one", .str (sg xa) t1), ("two", .str (sg xb) t2), ("three", .str (sg xc) t3)]) ["one", "two", "three"] T kB mem19 R (fun pm cd doc => by rfl) rfl (by decide +kernel) ?_
  intro A' L a cd h₁ tk₁ R' hL hn₁ C₁ k₁
  have hcl : cellsFrom (L + 1) (dOf 19).scope.names [] = [(Str.ofString "here", L + 3), (Str.ofString "most", L + 2), (Str.ofString "least", L + 1)] := by rfl
  have c1 : h₁.IsCell (L + 1) none := C₁.cell "least" (L + 1) (by rw [hcl]; rfl)
  have c2 : h₁.IsCell (L + 2) none := C₁.cell "most" (L + 2) (by rw [hcl]; rfl)
  have c3 : h₁.IsCell (L + 3) none := C₁.cell "here" (L + 3) (by rw [hcl]; rfl)
  have fL : h.get? L = none := by rw [hL]; exact noAt h
  have f1 : h.get? (L + 1) = none := by rw [hL]; exact Heap.get?_none_of_le (Nat.le_add_right _ 1)
  have f2 : h.get? (L + 2) = none := by rw [hL]; exact Heap.get?_none_of_le (Nat.le_add_right _ 2)
  have f3 : h.get? (L + 3) = none := by rw [hL]; exact Heap.get?_none_of_le (Nat.le_add_right _ 3)
  obtain ⟨o1, o2, o3, o4, o5, o6⟩ : L + 1 ≠ L + 2 ∧ L + 3 ≠ L + 1 ∧ L + 3 ≠ L + 2 ∧ L ≠ L + 1 ∧ L ≠ L + 2 ∧ L ≠ L + 3 := off_ne L
  conv in (dOf 19).body => whnf
  refine wpAny_execs_cons ?_
  refine Assign_Tuple ?_
  refine Tuple_ ?_
  refine args_cons ?_
  refine d_new ?_
  intro d1 h₂ k₂ hd1 D1
  refine args_cons ?_
  refine d_new ?_
  intro d2 h₃ k₃ hd2 D2
  refine args_nil ?_
  refine c_tup (by simp) ?_
  intro r h₄ k₄ _ hT _
  refine a_pair R'.handled (v₁ := .ref d1) (v₂ := .ref d2) hT ?_
  intro h₅ k₅
  have k₂₅ : Kp h₂ h₅ := (k₃.trans k₄).trans k₅
  have k₁₅ : Kp h₁ h₅ := k₂.trans k₂₅
  refine g_stc (env := genv 19 L a cd) (c1.keeps k₁₅) (by rfl) ?_
  intro h₆ c1₆ k₆
  refine g_stc (env := genv 19 L a cd) (IsCell.ko (c2.keeps k₁₅) k₆ (by simpa using Ne.symm o1)) (by rfl) ?_
  intro h₇ c2₇ k₇
  have hd2' : h₁.get? d2 = none := none_of k₂ hd2
  have Fa : Far L d1 d2 := ⟨ne_of_here D1.here hd2, Ne.symm (ne_of_here (Ns.here hn₁) hd1), Ne.symm (ne_of_here (Ns.here hn₁) hd2'), Ne.symm (ne_of_here (IsCell.here c1) hd1), Ne.symm (ne_of_here (IsCell.here c2) hd1), Ne.symm (ne_of_here (IsCell.here c3) hd1),
    Ne.symm (ne_of_here (IsCell.here c1) hd2'), Ne.symm (ne_of_here (IsCell.here c2) hd2'), Ne.symm (ne_of_here (IsCell.here c3) hd2')⟩
  have kk₇ : Kp h h₇ := KpO.base (KpO.base (k₁.trans k₁₅) k₆ (by simpa using f1)) k₇ (by simpa using f2)
  have kB₇ : Kp B h₇ := kB.trans kk₇
  have hd1h : h.get? d1 = none := none_of k₁ hd1
  have hd2h : h.get? d2 = none := none_of k₁ hd2'
  have hown : ∀ b ∈ [L, L + 3, d1, d2], h.get? b = none := by
    intro b hb
    simp only [List.mem_cons, List.not_mem_nil, or_false] at hb
    rcases hb with rfl | rfl | rfl | rfl
    · exact fL
    · exact f3
    · exact hd1h
    · exact hd2h
  have hn₇ : h₇.Ns L _ := Ns.ko (Ns.ko (hn₁.keeps k₁₅) k₆ (by simpa using o4)) k₇ (by simpa using o5)
  have V : BsI L d1 d2 xa xb xc (fun _ _ _ => False) 0 h₇ := ⟨IsCell.ko c1₆ k₇ (by simpa using o1), c2₇, ⟨_, IsCell.ko (IsCell.ko (c3.keeps k₁₅) k₆ (by simpa using o2)) k₇ (by simpa using o3)⟩,
    ⟨_, ((D1.keeps k₂₅).ko k₆ (by simpa using Fa.c11)).ko k₇ (by simpa using Fa.c12), fun _ _ _ _ _ _ d => d.elim⟩, ⟨_, ((D2.keeps (k₄.trans k₅)).ko k₆ (by simpa using Fa.c21)).ko k₇ (by simpa using Fa.c22), fun _ _ _ _ _ _ d => d.elim⟩⟩
  dsimp only
  refine wpAny_execs_cons ?_
  refine best_loops T kB₇ (fun b hb => none_of kB (hown b hb)) (R'.less (by decide) (by decide)) hn₇ ⟨⟨t1, by rfl⟩, ⟨t2, by rfl⟩, ⟨t3, by rfl⟩⟩ V Fa Ls ?_
  intro h₈ tk₈ m₈ hn₈ J
  obtain ⟨F1, D1₈, T1⟩ := J.tab.t1
  obtain ⟨F2, D2₈, T2⟩ := J.tab.t2
  obtain ⟨ta, ua, ea, Ba⟩ := T1 0 0 0 (Nat.zero_le _) (Nat.zero_le _) (Nat.zero_le _) trivial
  obtain ⟨tb, ub, eb, Bb⟩ := T2 0 0 0 (Nat.zero_le _) (Nat.zero_le _) (Nat.zero_le _) trivial
  have kk₈ : Kp h h₈ := KpO.base kk₇ J.base hown
  dsimp only
  refine wpAny_execs_cons ?_
  refine wpAny_Return_some ?_
  refine Tuple_ ?_
  refine args_cons ?_
  refine Subscript_ ?_
  refine g_cell (env := genv 19 L a cd) J.tab.c1 (by rfl) ?_
  refine r_int ?_
  intro t₉ tk₉
  refine d_get (k := 0) D1₈ ea ?_
  intro tk₁₀
  refine args_cons ?_
  refine Subscript_ ?_
  refine g_cell (env := genv 19 L a cd) J.tab.c2 (by rfl) ?_
  refine r_int ?_
  intro t₁₁ tk₁₁
  refine d_get (k := 0) D2₈ eb ?_
  intro tk₁₂
  refine args_nil ?_
  refine c_tup (by simp) ?_
  intro r h₁₃ k₁₃ hr hTr _
  exact hq r h₁₃ tk₁₂ ta tb ua ub (kk₈.trans k₁₃) (none_of kk₈ hr) hTr Ba Bb
end Mine

namespace Mine

theorem mem22 : dOf 22 ∈ allDefs := law_mem
theorem boot_int : bootBuiltins "int" = some (.type "int") := boots.2.2.2.2.2.2.2.2.2.2

theorem IntsAre.get {vs : List Value} {ns : List Int} (H : IntsAre vs ns) : ∀ {i : Nat} {v : Value}, vs[i]? = some v → ∃ n t, v = .int n t := by
  induction H with
  | nil => intro i v h; simp at h
  | cons z u _ ih =>
    intro i v h
    cases i with
    | zero => simp at h; exact ⟨z, u, h.symm⟩
    | succ i => simp at h; exact ih h

theorem strs3 {ys : List Value} {x y z : Str} (h : StrsAre ys [x, y, z]) : ∃ t0 t1 t2, ys = [.str x t0, .str y t1, .str z t2] := by
  cases h with
  | cons _ t0 h => cases h with
    | cons _ t1 h => cases h with
      | cons _ t2 h => cases h; exact ⟨t0, t1, t2, rfl⟩

section
variable {w : World} {A : Around} {E : Value → Shared → Prop} {s : Shared} {h : Heap} {tk : Nat}
/-- two lists of the same texts -/
theorem l_ne_same {l b : Addr} {vs us : List Value} {ys : List Str} {Q : Value → Shared → Prop} (hl : h.PlainList l vs.toArray) (hb : h.PlainList b us.toArray) (hv : StrsAre vs ys) (hu : StrsAre us ys) (R : A.units < cLine)
    (hq : Q (.bool false) (St s h tk)) : wpAny (model Pg w) A (compareOp .NotEq (.ref l) (.ref b)) Q E (St s h tk) := by
  have e1 := StrsAre.len hv
  have e2 := StrsAre.len hu
  refine PySem.EqBoolInt.of_rcne (SeqAt.RcNeAt.lists (s := St s h tk) (e := fun _ => true) hl.isList hb.isList (by simp; omega) R ?_) ?_
  · intro j h1 h2
    have h1 : j < vs.length := by simpa using h1
    have h2 : j < us.length := by simpa using h2
    obtain ⟨z, t, ez, e⟩ := StrsAre.get hv (List.getElem?_eq_getElem h1)
    obtain ⟨z', t', ez', e'⟩ := StrsAre.get hu (List.getElem?_eq_getElem h2)
    rw [ez] at ez'
    injection ez' with q
    subst q
    have := SeqAt.EqAt.str_str (A := A.in1) (s := St s h tk) z t z t'
    simp only [beq_self_eq_true] at this
    simpa [e, e'] using this
  · have : (List.range vs.toArray.size).all (fun _ => true) = true := by simp
    rw [this]; exact hq
theorem li_item {value slice : Expr} {l : Addr} {vs : List Value} {i : Nat} {t : Tok} {x : Value} {Q : Value → Shared → Prop} (hl : h.IsList l vs.toArray) (hi : i ≤ 1000) (hx : vs[i]? = some x) (hq : Q x (St s h tk))
    (hs : subscripted slice false (.ref l) (.int (i : Int) t) = operate [.ref l, .int (i : Int) t] (getItem (.ref l) (.int (i : Int) t)) := by with_unfolding_all rfl) :
    wpAny (model Pg w) A (subscriptTail value slice (.ref l) (.int (i : Int) t)) Q E (St s h tk) :=
  sub_tail (s := St s h tk) hl.typeIs slot_list_getitem.lookup (wpAny_getItem_list (s := St s h tk) hl (by omega) (by omega) (by simpa using hx) hq) hs
/-- the iterator of range(n) -/
theorem it_range {r : Addr} {n : Nat} {t u v : Tok} {Q : Value → Shared → Prop} (hr : IsRange h r 0 (n : Int) 1 t u v) (hn : n ≤ 1000)
    (hq : ∀ I h₂, IsRangeIter h₂ I 0 (n : Int) 1 → Kp h h₂ → h.get? I = none → I < h₂.objs.size → Q (.ref I) (St s h₂ tk)) : wpAny (model Pg w) A (pyIter (.ref r)) Q E (St s h tk) := by
  refine wpAny_pyIter_range (s := St s h tk) hr (small_one (by omega) (by omega) (by omega) (by omega)) ?_
  have hsz : Builtin.Range.rangeSize 0 (n : Int) 1 = (n : Int) := by rw [rangeSize_one]; split <;> omega
  refine hq _ _ ?_ (Kp.push h _) (noAt h) ?_
  · rw [hsz]
    exact Heap.get?_push_size _ rfl
  · rw [Heap.size_push]; exact Nat.lt_succ_self _
end

/-- a word with what it means -/
noncomputable abbrev Pair := Addr × List Nat
structure PairsIs (h : Heap) (l : Addr) (X : List Pair) : Prop where
  list : h.PlainList l (X.map fun p => Value.ref p.1).toArray
  tups : ∀ p ∈ X, ∃ t u, h.IsTuple p.1 #[.str (sg p.2) t, .str (sg (prep p.2)) u]
theorem PairsIs.ko {h h' : Heap} {g : Addr} {X : List Pair} {ow : List Addr} (x : PairsIs h g X) (k : KpO ow h h') (hg : g ∉ ow) (ht : ∀ p ∈ X, p.1 ∉ ow) : PairsIs h' g X :=
  ⟨x.list.at fun o e => k g o hg e, fun p hp => let ⟨t, u, z⟩ := x.tups p hp; ⟨t, u, z.at fun o e => k _ o (ht p hp) e⟩⟩
theorem PairsIs.keeps {h h' : Heap} {g : Addr} {X : List Pair} (x : PairsIs h g X) (k : Kp h h') : PairsIs h' g X := x.ko (k.o []) (by simp) (by simp)
theorem tup_ne_cell {h : Heap} {r c : Addr} {vs : Array Value} {v : Option Value} (x : h.IsTuple r vs) (hc : h.IsCell c v) : r ≠ c := by
  rintro rfl
  obtain ⟨o, ho, _, n, hd⟩ := x
  obtain ⟨o', ho', hd'⟩ := hc
  rw [ho] at ho'
  cases ho'
  rw [hd] at hd'
  cases hd'
theorem PairsIs.cell {h h' : Heap} {g c : Addr} {v : Option Value} {X : List Pair} (x : PairsIs h g X) (hc : h.IsCell c v) (k : KpO [c] h h') : PairsIs h' g X :=
  x.ko k (by simpa using (cell_ne_list hc x.list).symm) fun p hp => let ⟨_, _, z⟩ := x.tups p hp; by simpa using tup_ne_cell z hc
theorem PairsIs.ns {h h' : Heap} {g L : Addr} {m : Str → Option Value} {X : List Pair} (x : PairsIs h g X) (hn : h.Ns L m) (k : KpO [L] h h') : PairsIs h' g X :=
  x.ko k (by simpa using list_ne_ns x.list hn) fun p hp => let ⟨_, _, z⟩ := x.tups p hp; by simpa using tup_ne_ns z hn
theorem RowIs.cell {h h' : Heap} {g c : Addr} {v : Option Value} {X : List Told} (x : RowIs h g X) (hc : h.IsCell c v) (k : KpO [c] h h') : RowIs h' g X :=
  x.ko k (by simpa using (cell_ne_list hc x.list).symm) fun p hp => let ⟨_, _, z⟩ := x.tups p hp; by simpa using tup_ne_cell z hc

noncomputable def psc : Scope := { kind := .function, names := [(Str.ofString ".0", .local), (Str.ofString "pair", .local)], isGenerator := false, isCoroutine := false, more := [] }
noncomputable def tsc : Scope := { kind := .function, names := [(Str.ofString ".0", .local), (Str.ofString "told", .local)], isGenerator := false, isCoroutine := false, more := [] }
noncomputable def ssc : Scope := { kind := .function, names := [(Str.ofString ".0", .local), (Str.ofString "told", .local), (Str.ofString "spot", .free)], isGenerator := false, isCoroutine := false, more := [] }
noncomputable def osc : Scope := { kind := .function, names := [(Str.ofString ".0", .local), (Str.ofString "spot", .cell), (Str.ofString "row", .free)], isGenerator := false, isCoroutine := false, more := [] }

section
variable {w : World} {A : Around} {E : Value → Shared → Prop} {s : Shared} {h : Heap} {tk : Nat} {L a : Addr} {cd : Value} {m : Str → Option Value} {p1 p2 p3 p4 p5 p6 p7 p8 p9 p10 p11 p12 p13 p14 p15 p16 p17 p18 p19 p20 : Pos} {Q : Value → Shared → Prop}

/-- [pair[0] for pair in pairs] -/
theorem firsts_val {X : List Pair} {pl : Addr} (hh : A.handled = none) (hn : h.Ns L m) (hp : m "pairs" = some (.ref pl)) (hX : PairsIs h pl X) (hlen : X.length ≤ 100)
    (hq : ∀ D h' tk' ys, Kp h h' → h.get? D = none → h'.PlainList D ys.toArray → StrsAre ys (X.map fun p => sg p.2) → Q (.ref D) (St s h' tk')) :
    wpAny (model Pg w) A (eval (.ListComp (.Subscript (.Name "pair" p1) (.Constant (.int 0) 0 p2) p3) [⟨.Name "pair" p4, .Name "pairs" p5, [], 0⟩] psc p6) (genv 22 L a cd)) Q E (St s h tk) := by
  refine r_comp (env := genv 22 L a cd) (cl := []) (by rfl) (by decide +kernel) (by rfl) (by decide +kernel) ?_
  refine g_ld (env := genv 22 L a cd) hn hp ?_
  refine it_list hh hX.list ?_
  intro I h₂ It W hlv h0 k₂ hI hlt hlI _
  refine ⟨I, [I, pl], [I], _, h₂, tk, _, _, fun _ i _ ys => StrsAre ys ((X.take i).map fun p => sg p.2), rfl, rfl, Start.walk W k₂ (by simp; unfold sizeLine; omega) (fun b hb => by simp at hb; exact hb ▸ hI) hlt hlv h0 (by rfl) (by rfl), ?_, ?_⟩
  · refine ⟨fun _ _ _ => .nil, fun _ _ _ _ _ e _ => e, ?_⟩
    rintro C bad i h₃ tk₃ ys E' hi ⟨m', v, hm, hv, hP⟩ hEl _ k₃ _
    have hi' : i < X.length := by simpa using hi
    have hP : (X.map fun p => Value.ref p.1)[i]? = some v := hP
    rw [List.getElem?_map, List.getElem?_eq_getElem hi'] at hP
    have hP : Value.ref (X[i]).1 = v := by simpa using hP
    subst hP
    obtain ⟨t, u, hT⟩ := hX.tups X[i] (List.getElem_mem hi')
    have hT₃ := hT.at fun o e => k₃ _ o e
    refine wpAny_tests_nil ?_
    refine ⟨h₃, tk₃, rfl, Kp.refl _, ?_⟩
    rw [if_pos rfl]
    refine Subscript_ ?_
    refine g_ld hm hv ?_
    refine r_int ?_
    intro t₁ tk₁
    refine t_item (vs := [.str (sg (X[i]).2) t, .str (sg (prep (X[i]).2)) u]) (i := 0) hT₃ (by decide) (by rfl) ?_
    refine ⟨h₃, tk₁, rfl, Kp.refl _, ?_⟩
    rw [take_snoc (List.getElem?_eq_getElem hi'), List.map_append]
    exact StrsAre.snoc hEl _ t
  · intro D bad h' tk' ys hEl hD k' hDn
    have e : X.take (X.map fun p => Value.ref p.1).length = X := by rw [List.length_map]; exact List.take_length
    rw [e] at hEl
    exact hq D h' tk' ys k' hDn hD hEl

/-- [told[1] for told in row] -/
theorem signs_val {X : List Told} {g : Addr} (hh : A.handled = none) (hc : h.IsCell (L + 2) (some (.ref g))) (hX : RowIs h g X) (hlen : X.length ≤ 100)
    (hq : ∀ D h' tk' ys, Kp h h' → h.get? D = none → h'.PlainList D ys.toArray → StrsAre ys ((X.map fun p => [p.2.2]).map sg) → Q (.ref D) (St s h' tk')) :
    wpAny (model Pg w) A (eval (.ListComp (.Subscript (.Name "told" p1) (.Constant (.int 1) 0 p2) p3) [⟨.Name "told" p4, .Name "row" p5, [], 0⟩] tsc p6) (genv 22 L a cd)) Q E (St s h tk) := by
  refine r_comp (env := genv 22 L a cd) (cl := []) (by rfl) (by decide +kernel) (by rfl) (by decide +kernel) ?_
  refine g_cell (env := genv 22 L a cd) hc (by rfl) ?_
  refine it_list hh hX.list ?_
  intro I h₂ It W hlv h0 k₂ hI hlt hlI _
  refine ⟨I, [I, g], [I], _, h₂, tk, _, _, fun _ i _ ys => StrsAre ys (((X.take i).map fun p => [p.2.2]).map sg), rfl, rfl, Start.walk W k₂ (by simp; unfold sizeLine; omega) (fun b hb => by simp at hb; exact hb ▸ hI) hlt hlv h0 (by rfl) (by rfl), ?_, ?_⟩
  · refine ⟨fun _ _ _ => .nil, fun _ _ _ _ _ e _ => e, ?_⟩
    rintro C bad i h₃ tk₃ ys E' hi ⟨m', v, hm, hv, hP⟩ hEl _ k₃ _
    have hi' : i < X.length := by simpa using hi
    have hP : (X.map fun p => Value.ref p.1)[i]? = some v := hP
    rw [List.getElem?_map, List.getElem?_eq_getElem hi'] at hP
    have hP : Value.ref (X[i]).1 = v := by simpa using hP
    subst hP
    obtain ⟨t, u, hT⟩ := hX.tups X[i] (List.getElem_mem hi')
    have hT₃ := hT.at fun o e => k₃ _ o e
    refine wpAny_tests_nil ?_
    refine ⟨h₃, tk₃, rfl, Kp.refl _, ?_⟩
    rw [if_pos rfl]
    refine Subscript_ ?_
    refine g_ld hm hv ?_
    refine r_int ?_
    intro t₁ tk₁
    refine t_item (vs := [.int ((X[i]).2.1 : Int) t, .str (sg [(X[i]).2.2]) u]) (i := 1) hT₃ (by decide) (by rfl) ?_
    refine ⟨h₃, tk₁, rfl, Kp.refl _, ?_⟩
    rw [take_snoc (List.getElem?_eq_getElem hi'), List.map_append, List.map_append]
    exact StrsAre.snoc hEl _ u
  · intro D bad h' tk' ys hEl hD k' hDn
    have e : X.take (X.map fun p => Value.ref p.1).length = X := by rw [List.length_map]; exact List.take_length
    rw [e] at hEl
    exact hq D h' tk' ys k' hDn hD hEl

noncomputable def ofSpot (X : List Told) (i : Nat) : List Told := X.filter fun p => decide (p.2.1 = i)
/-- [told[1] for told in row if told[0] == spot], inside the comprehension over spot -/
theorem spot_val {X : List Told} {g C c : Addr} {i : Nat} {ti : Tok} (hh : A.handled = none) (hc : h.IsCell (L + 2) (some (.ref g))) (hs : h.IsCell c (some (.int (i : Int) ti))) (hX : RowIs h g X) (hlen : X.length ≤ 100)
    (hq : ∀ D h' tk' ys, Kp h h' → h.get? D = none → h'.PlainList D ys.toArray → StrsAre ys (((ofSpot X i).map fun p => [p.2.2]).map sg) → Q (.ref D) (St s h' tk')) :
    wpAny (model Pg w) A (eval (.ListComp (.Subscript (.Name "told" p1) (.Constant (.int 1) 0 p2) p3) [⟨.Name "told" p4, .Name "row" p5, [.Compare (.Subscript (.Name "told" p6) (.Constant (.int 0) 0 p7) p8) [.Eq] [.Name "spot" p9] p10], 0⟩] ssc p11)
      (compEnvC osc [(Str.ofString "spot", c), (Str.ofString "row", L + 2)] C (genv 22 L a cd))) Q E (St s h tk) := by
  refine r_comp (cl := [(Str.ofString "spot", c)]) (by rfl) (by decide +kernel) (by rfl) (by decide +kernel) ?_
  refine g_cell hc (by rfl) ?_
  refine it_list hh hX.list ?_
  intro I h₂ It W hlv h0 k₂ hI hlt hlI _
  refine ⟨I, [I, g], [I], _, h₂, tk, _, _, fun _ n _ ys => StrsAre ys (((ofSpot (X.take n) i).map fun p => [p.2.2]).map sg), rfl, rfl, Start.walk W k₂ (by simp; unfold sizeLine; omega) (fun b hb => by simp at hb; exact hb ▸ hI) hlt hlv h0 (by rfl) (by rfl), ?_, ?_⟩
  · refine ⟨fun _ _ _ => .nil, fun _ _ _ _ _ e _ => e, ?_⟩
    rintro C' bad n h₃ tk₃ ys E' hi ⟨m', v, hm, hv, hP⟩ hEl _ k₃ _
    have hi' : n < X.length := by simpa using hi
    have hP : (X.map fun p => Value.ref p.1)[n]? = some v := hP
    rw [List.getElem?_map, List.getElem?_eq_getElem hi'] at hP
    have hP : Value.ref (X[n]).1 = v := by simpa using hP
    subst hP
    obtain ⟨t, u, hT⟩ := hX.tups X[n] (List.getElem_mem hi')
    have hT₃ := hT.at fun o e => k₃ _ o e
    have hs₃ := hs.keeps k₃
    have hstep : ofSpot (X.take (n + 1)) i = ofSpot (X.take n) i ++ (if (X[n]).2.1 = i then [X[n]] else []) := by
      unfold ofSpot
      rw [take_snoc (List.getElem?_eq_getElem hi'), List.filter_append]
      by_cases e : (X[n]).2.1 = i
      · simp [e]
      · simp [e]
    refine wpAny_tests_one ?_
    refine wpAny_isTrue_Compare1 ?_
    refine Subscript_ ?_
    refine g_ld hm hv ?_
    refine r_int ?_
    intro t₁ tk₁
    refine t_item (vs := [.int ((X[n]).2.1 : Int) t, .str (sg [(X[n]).2.2]) u]) (i := 0) hT₃ (by decide) (by rfl) ?_
    refine g_cell hs₃ (by rfl) ?_
    refine i_eq ?_
    refine wpAny_truthy_bool ?_
    refine ⟨h₃, tk₁, rfl, Kp.refl _, ?_⟩
    by_cases e : (X[n]).2.1 = i
    · rw [if_pos (by simp [e])]
      refine Subscript_ ?_
      refine g_ld hm hv ?_
      refine r_int ?_
      intro t₂ tk₂
      refine t_item (vs := [.int ((X[n]).2.1 : Int) t, .str (sg [(X[n]).2.2]) u]) (i := 1) hT₃ (by decide) (by rfl) ?_
      refine ⟨h₃, tk₂, rfl, Kp.refl _, ?_⟩
      rw [hstep, if_pos e, List.map_append, List.map_append]
      exact StrsAre.snoc hEl _ u
    · rw [if_neg (by simp; omega)]
      rw [hstep, if_neg e, List.append_nil]
      exact hEl
  · intro D bad h' tk' ys hEl hD k' hDn
    have e : X.take (X.map fun p => Value.ref p.1).length = X := by rw [List.length_map]; exact List.take_length
    rw [e] at hEl
    exact hq D h' tk' ys k' hDn hD hEl
end
end Mine

namespace Mine

theorem one_each (X : List Told) : (X.map fun p => [p.2.2]).flatten = X.map (·.2.2) := by
  induction X with
  | nil => rfl
  | cons x r ih => simp only [List.map_cons, List.flatten_cons, ih]; rfl
theorem sum_each (X : List Told) : (((X.map fun p => [p.2.2]).map sg).map (·.length)).sum = X.length := by
  induction X with
  | nil => rfl
  | cons x r ih => simp only [List.map_cons, List.sum_cons, ih, sg_length, List.length_cons, List.length_nil]; omega

section
variable {w : World} {A : Around} {E : Value → Shared → Prop} {s : Shared} {h : Heap} {tk : Nat} {L a : Addr} {cd : Value} {m : Str → Option Value} {p1 p2 p3 p4 p5 p6 p7 p8 p9 p10 p11 p12 p13 p14 p15 p16 p17 p18 p19 p20 : Pos} {Q : Value → Shared → Prop}

/-- "".join of single signs -/
theorem r_join {env : Env} {e : Expr} (hs : starEach [e] env = [(false, eval e env)]) (hln : (p2.endLine == p3.line) = true)
    (hi : wpAny (model Pg w) A (eval e env) (fun v s₁ => ∃ D h₁ tk₁ ys, ∃ X : List Told, v = .ref D ∧ s₁ = St s h₁ tk₁ ∧ h₁.PlainList D ys.toArray ∧ StrsAre ys ((X.map fun p => [p.2.2]).map sg) ∧ X.length ≤ 100 ∧
      ∀ t tk', Q (.str (sg (X.map (·.2.2))) t) (St s h₁ tk')) E (St s h (tk + 1))) :
    wpAny (model Pg w) A (eval (.Call (.Attribute (.Constant (.str "") 0 p1) "join" p2) [e] [] p3) env) Q E (St s h tk) := by
  refine Call_method1 (by rfl) hs hln ?_
  refine wpAny_Constant_str ?_
  refine ⟨"str", _, PySem.F.plainAttrs_str, PySem.F.slot_str_join, PySem.F.type_str_join, typeIs_str _ _ _, (fun _ e => nomatch e), ?_⟩
  refine callWith_builtin rfl ?_
  refine evalArgs_plain ?_
  refine spliced_cons ?_
  refine wpAny_mono hi ?_ (fun _ _ e => e)
  rintro v s₁ ⟨D, h₁, tk₁, ys, X, rfl, rfl, hl, hv, hlen, hq⟩
  refine spliced_nil ?_
  refine join_list (s := St s h₁ tk₁) (ys := (X.map fun p => [p.2.2]).map sg) hl.isList (by simpa using hv) ?_ ?_
  · have e0 : ("" : Str).length = 0 := by decide +kernel
    rw [e0, sum_each]
    omega
  · intro t' tk''
    have e0 : ("" : Str) = sg [] := by decide +kernel
    rw [e0, join_sg, one_each]
    exact hq t' tk''

/-- ["".join([told[1] for told in row if told[0] == spot]) for spot in range(3)] -/
theorem spots_val {B : Heap} {mg mb : Str → Option Value} {k b1 b3 : Addr} {X : List Told} {g : Addr} {f : Rests} (T : Tops w B mg mb k b1 b3) (kB : Kp B h) (hh : A.handled = none) (hc : h.IsCell (L + 2) (some (.ref g))) (hX : RowIs h g X) (hlen : X.length ≤ 100)
    (hf : ∀ i, i < 3 → (X.filter (fun p => decide (p.2.1 = i))).map (·.2.2) = f i) (hln : (p13.endLine == p14.line) = true)
    (hq : ∀ D h' tk' ys, Kp h h' → h.get? D = none → h'.PlainList D ys.toArray → StrsAre ys ((List.range 3).map fun i => sg (f i)) → Q (.ref D) (St s h' tk')) :
    wpAny (model Pg w) A (eval (.ListComp (.Call (.Attribute (.Constant (.str "") 0 p12) "join" p13) [.ListComp (.Subscript (.Name "told" p1) (.Constant (.int 1) 0 p2) p3) [⟨.Name "told" p4, .Name "row" p5, [.Compare (.Subscript (.Name "told" p6) (.Constant (.int 0) 0 p7) p8) [.Eq] [.Name "spot" p9] p10], 0⟩] ssc p11] [] p14)
      [⟨.Name "spot" p15, .Call (.Name "range" p16) [.Constant (.int 3) 0 p17] [] p18, [], 0⟩] osc p19) (genv 22 L a cd)) Q E (St s h tk) := by
  refine r_comp_cell (env := genv 22 L a cd) (cl := [(Str.ofString "row", L + 2)]) (by rfl) (by rfl) (by decide +kernel) (fun _ => rfl) (fun _ => rfl) (by rfl) ?_
  refine Call_Name1 ?_
  refine g_bi (env := genv 22 L a cd) T kB boot_rng ?_
  refine PySem.callWith_type1 ?_
  refine r_int ?_
  intro t₁ tk₁
  refine c_range ?_
  intro r h₁ tk₂ u₁ u₂ k₁ hr hR
  refine it_range (n := 3) hR (by decide) ?_
  intro I h₂ hIt k₂ hI hlt
  refine ⟨I, [I], [I], 3, _, _, h₂, tk₂, fun i ys => StrsAre ys ((List.range i).map fun i => sg (f i)), rfl, rfl, Walks.range hh I 0 1 3, k₁.trans k₂, by decide, (fun b hb => by simp at hb; exact hb ▸ none_of k₁ hI), (fun b hb => by simp at hb; exact hb ▸ hlt),
    (fun i h hi b hb => by simp at hb; exact ⟨_, hb ▸ hi⟩), by simpa using hIt, .nil, ?_, ?_⟩
  · rintro C c i h₃ tk₃ ys v E' hi hcell ⟨t', rfl⟩ hEl k₃
    refine r_join (by rfl) hln ?_
    refine spot_val (i := i) (ti := t') hh (hc.keeps k₃) (by simpa using hcell) (hX.keeps k₃) hlen ?_
    intro D h₄ tk₄ ys' k₄ hD hl hys
    refine ⟨D, h₄, tk₄, ys', ofSpot X i, rfl, rfl, hl, hys, Nat.le_trans (List.length_filter_le _ _) hlen, ?_⟩
    intro t₅ tk₅
    refine ⟨h₄, tk₅, rfl, k₄, ?_⟩
    dsimp only
    rw [List.range_succ, List.map_append]
    have e : (ofSpot X i).map (·.2.2) = f i := hf i hi
    rw [e]
    exact StrsAre.snoc hEl _ t₅
  · intro D h' tk' ys hEl hD k' hDn
    exact hq D h' tk' ys k' hDn hD hEl
end

noncomputable def turnSt : List Stmt := match (dOf 22).body with
  | [_, _, _, .For _ _ b _ _, _] => b
  | _ => []
noncomputable def f3 (a b c : List Nat) : Rests := fun n => if n = 0 then a else if n = 1 then b else c

set_option maxHeartbeats 1000000 in
theorem turn_spec {w : World} {A : Around} {E : Value → Shared → Prop} {s : Shared} {B h : Heap} {tk : Nat} {mg mb : Str → Option Value} {k b1 b3 L a pl wr : Addr} {cd : Value} {m : Str → Option Value} {q0 q1 q2 : Pair} {i : Nat} {ti u1 u2 : Tok} {ta tb : List Nat}
    (T : Tops w B mg mb k b1 b3) (kB : Kp B h) (hB : B.get? (L + 2) = none) (R : Room A 9 40) (hn : h.Ns L m) (hp : m "pairs" = some (.ref pl)) (hwt : m "wanted" = some (.ref wr)) (hwh : m "which" = some (.int (i : Int) ti)) (hi : i < 2)
    (hX : PairsIs h pl [q0, q1, q2]) (hok : ∀ p ∈ [q0, q1, q2], RestOk p.2) (hW : h.IsTuple wr #[.str (sg ta) u1, .str (sg tb) u2]) (hc : ∃ v, h.IsCell (L + 2) v)
    (hta : Best lower (at3 (prep q0.2) (prep q1.2) (prep q2.2) 0 0 0) ta) (htb : Best higher (at3 (prep q0.2) (prep q1.2) (prep q2.2) 0 0 0) tb) :
    wpAny (model Pg w) A (execs turnSt (genv 22 L a cd)) (fun f s' => f = .next ∧ ∃ h' tk', s' = St s h' tk' ∧ (∃ v, h'.IsCell (L + 2) v) ∧ KpO [L + 2] h h') E (St s h tk) := by
  obtain ⟨v₀, hc⟩ := hc
  have hLL : L ≠ L + 2 := (off_ne L).2.2.2.2.1
  have hfok : ∀ n, n < 3 → RestOk (f3 q0.2 q1.2 q2.2 n) := by
    intro n hn
    have : n = 0 ∨ n = 1 ∨ n = 2 := by omega
    rcases this with rfl | rfl | rfl
    · exact hok q0 (by simp)
    · exact hok q1 (by simp)
    · exact hok q2 (by simp)
  obtain ⟨tx, ux, ex, Bx⟩ : ∃ tx ux, [Value.str (sg ta) u1, .str (sg tb) u2][i]? = some (.str (sg tx) ux) ∧ Best (btOf ((i : Int) == 0)) (at3 (prep q0.2) (prep q1.2) (prep q2.2) 0 0 0) tx := by
    have : i = 0 ∨ i = 1 := by omega
    rcases this with rfl | rfl
    · exact ⟨ta, u1, rfl, hta⟩
    · exact ⟨tb, u2, rfl, htb⟩
  conv in turnSt => whnf
  refine wpAny_execs_cons ?_
  refine wpAny_Assign_Name ?_
  refine Call_Name2 ?_
  refine g_fn (env := genv 22 L a cd) T kB mem21 (by rfl) ?_
  refine c_fn2 T mem21 ?_
  refine firsts_val R.handled hn hp hX (by simp) ?_
  intro D h₁ tk₁ ys k₁ hD hl hys
  have kB₁ : Kp B h₁ := kB.trans k₁
  have hn₁ := hn.keeps k₁
  refine wpAny_Compare1 ?_
  refine g_ld (env := genv 22 L a cd) hn₁ hwh ?_
  refine r_int ?_
  intro t₂ tk₂
  refine i_eq ?_
  refine ⟨⟨_, _, rfl, kB₁⟩, ?_⟩
  obtain ⟨v0, v1, v2, rfl⟩ := strs3 hys
  refine riffled_spec (f := f3 q0.2 q1.2 q2.2) T kB₁ (R.less (by decide) (by decide)) ⟨v0, v1, v2, hl⟩ hfok ?_
  intro g h₂ tk₃ X k₂ hg hrow hrok
  have k₁₂ : Kp h h₂ := k₁.trans k₂
  have hc₂ := hc.keeps k₁₂
  refine g_stc (env := genv 22 L a cd) hc₂ (by rfl) ?_
  intro h₃ hc₃ k₃
  have hXl : X.length ≤ 100 := by
    have h0 := (hfok 0 (by omega)).len
    have h1 := (hfok 1 (by omega)).len
    have h2 := (hfok 2 (by omega)).len
    have := hrok.count
    unfold total at this
    omega
  have hrow₃ := hrow.cell hc₂ k₃
  have hX₃ := (hX.keeps k₁₂).cell hc₂ k₃
  have hn₃ : h₃.Ns L m := Ns.ko (hn.keeps k₁₂) k₃ (by simpa using hLL)
  have hW₂ := hW.at (h' := h₂) fun o e => k₁₂ _ o e
  have hW₃ := Tu.ko hW₂ k₃ (by simpa using tup_ne_cell hW₂ hc₂)
  have kB₃ : Kp B h₃ := KpO.base (kB.trans k₁₂) k₃ (by simpa using hB)
  have kk₃ : KpO [L + 2] h h₃ := (k₁₂.o _).trans k₃
  dsimp only
  refine wpAny_execs_cons ?_
  refine wpAny_If ?_
  refine wpAny_isTrue_Compare1 ?_
  refine spots_val (f := f3 q0.2 q1.2 q2.2) T kB₃ R.handled hc₃ hrow₃ hXl hrok.told (by rfl) ?_
  intro D₁ h₄ tk₄ ys₁ k₄ hD₁ hl₁ hys₁
  refine firsts_val R.handled (hn₃.keeps k₄) hp (hX₃.keeps k₄) (by simp) ?_
  intro D₂ h₅ tk₅ ys₂ k₅ hD₂ hl₂ hys₂
  refine l_ne_same (hl₁.at fun o e => k₅ _ o e) hl₂ hys₁ hys₂ (by have := R.units; omega) ?_
  refine wpAny_truthy_bool ?_
  rw [if_neg (by decide)]
  refine wpAny_execs_nil ?_
  have k₅' : Kp h₃ h₅ := k₄.trans k₅
  have kB₅ : Kp B h₅ := kB₃.trans k₅'
  dsimp only
  refine wpAny_execs_cons ?_
  refine wpAny_If ?_
  refine wpAny_isTrue_Compare1 ?_
  refine Call_Name1 ?_
  refine g_fn (env := genv 22 L a cd) T kB₅ mem20 (by rfl) ?_
  refine c_fn1 T mem20 ?_
  refine r_join (by rfl) (by rfl) ?_
  refine signs_val R.handled (hc₃.keeps k₅') (hrow₃.keeps k₅') hXl ?_
  intro D₃ h₆ tk₆ ys₃ k₆ hD₃ hl₃ hys₃
  refine ⟨D₃, h₆, tk₆, ys₃, X, rfl, rfl, hl₃, hys₃, hXl, ?_⟩
  intro t₇ tk₇
  have kB₆ : Kp B h₆ := kB₅.trans k₆
  refine ⟨⟨_, _, rfl, kB₆⟩, ?_⟩
  refine prep_spec T kB₆ (R.less (by decide) (by decide)) ?_ (by simpa using hXl) ?_
  · intro c hc
    obtain ⟨p, hp, rfl⟩ := List.mem_map.mp hc
    exact (hrok.signs p hp).2
  intro t₈ h₈ tk₈ k₈
  have k₈' : Kp h₃ h₈ := (k₅'.trans k₆).trans k₈
  refine Subscript_ ?_
  refine g_ld (env := genv 22 L a cd) (hn₃.keeps k₈') hwt ?_
  refine g_ld (env := genv 22 L a cd) (hn₃.keeps k₈') hwh ?_
  refine t_item (vs := [.str (sg ta) u1, .str (sg tb) u2]) (i := i) (hW₃.at fun o e => k₈' _ o e) (by omega) ex ?_
  refine P.ne_str ?_
  refine wpAny_truthy_bool ?_
  have heq : prep (X.map (·.2.2)) = tx := by
    refine Best.unique (ord_of _) (hrok.best) (Best.congr ?_ Bx)
    intro n hn
    have : n = 0 ∨ n = 1 ∨ n = 2 := by omega
    rcases this with rfl | rfl | rfl <;> rfl
  rw [if_neg (by rw [heq]; simp)]
  refine wpAny_execs_nil ?_
  dsimp only
  refine wpAny_execs_nil ?_
  exact ⟨rfl, h₈, tk₈, rfl, ⟨_, hc₃.keeps k₈'⟩, kk₃.trans (k₈'.o _)⟩
end Mine

namespace Mine

theorem fmod_ofNat (n : Int) {b : Nat} (hb : 0 < b) : ∃ k : Nat, k < b ∧ Int.fmod n (b : Int) = (k : Int) := by
  have e : Int.fmod n (b : Int) = n % (b : Int) := Int.fmod_eq_emod_of_nonneg n (by omega)
  have h0 : 0 ≤ n % (b : Int) := Int.emod_nonneg n (by omega)
  have h1 : n % (b : Int) < (b : Int) := Int.emod_lt_of_pos n (by omega)
  rw [← e] at h0 h1
  exact ⟨(Int.fmod n (b : Int)).toNat, by omega, by omega⟩

theorem call_in {w : World} {s : Shared} {A : Around} {E : Value → Shared → Prop} {h : Heap} {tk : Nat} {n : Int} {t : Tok} {Q : Value → Shared → Prop} (hq : Q (.int n t) (St s h tk)) : wpAny (model Pg w) A (call (.type "int") [.int n t]) Q E (St s h tk) := call_int_int (s := St s h tk) hq
theorem i_pow {w : World} {s : Shared} {A : Around} {E : Value → Shared → Prop} {h : Heap} {tk : Nat} {a n : Int} {t u : Tok} {Q : Value → Shared → Prop} (hn : 0 ≤ n) (hn2 : n ≤ 1000000) (ha : a.natAbs < 2 ^ 64) (hq : ∀ t' tk', Q (.int (a ^ n.toNat) t') (St s h tk')) :
    wpAny (model Pg w) A (binaryOp .Pow (.int a t) (.int n u)) Q E (St s h tk) := pow_int_small (s := St s h tk) hn hn2 ha (hq _ _)

theorem take3_ints {vs : List Value} {ns : List Int} (hi : IntsAre vs ns) {t1 t2 t3 : Tok} : ((vs.take 3 ++ [Value.int 25 t1, Value.int 33 t2, Value.int 54 t3]).take 3).length = 3 ∧ ∀ (i : Nat) (v : Value), ((vs.take 3 ++ [Value.int 25 t1, Value.int 33 t2, Value.int 54 t3]).take 3)[i]? = some v → ∃ n t, v = .int n t := by
  constructor
  · simp
  · intro i v hv
    have hm := List.mem_of_getElem? hv
    have hm := List.mem_of_mem_take hm
    rcases List.mem_append.mp hm with hm | hm
    · have hm := List.mem_of_mem_take hm
      obtain ⟨j, hj⟩ := List.getElem?_of_mem hm
      exact IntsAre.get hi hj
    · simp only [List.mem_cons, List.not_mem_nil, or_false] at hm
      rcases hm with rfl | rfl | rfl
      · exact ⟨_, _, rfl⟩
      · exact ⟨_, _, rfl⟩
      · exact ⟨_, _, rfl⟩

noncomputable def law1 : Stmt := match (dOf 22).body with
  | [s1, _, _, _, _] => s1
  | _ => .Pass default
noncomputable def law2 : Stmt := match (dOf 22).body with
  | [_, s2, _, _, _] => s2
  | _ => .Pass default
noncomputable def law3 : Stmt := match (dOf 22).body with
  | [_, _, s3, _, _] => s3
  | _ => .Pass default
noncomputable def law4 : Stmt := match (dOf 22).body with
  | [_, _, _, s4, _] => s4
  | _ => .Pass default

section
variable {w : World} {A : Around} {E : Value → Shared → Prop} {s : Shared} {B h : Heap} {tk : Nat} {mg mb : Str → Option Value} {k b1 b3 L a l : Addr} {cd : Value} {m : Str → Option Value} {vs : List Value} {ns : List Int} {Q : Flow → Shared → Prop}

theorem law1_spec (T : Tops w B mg mb k b1 b3) (kB : Kp B h) (hn : h.Ns L m) (hs : m "script" = some (.ref l)) (hl : h.IsList l vs.toArray) (hi : IntsAre vs ns) (hlen : vs.length ≤ 100) (hc : ∃ v, h.IsCell (L + 1) v)
    (hq : ∀ h' tk' low t, low < 24 → h'.IsCell (L + 1) (some (.int ((low : Nat) : Int) t)) → KpO [L + 1] h h' → Q .next (St s h' tk')) :
    wpAny (model Pg w) A (exec law1 (genv 22 L a cd)) Q E (St s h tk) := by
  obtain ⟨v₀, hc⟩ := hc
  conv in law1 => whnf
  refine wpAny_Assign_Name ?_
  refine wpAny_mono (Q := fun v s' => ∃ (low : Nat) (t : Tok) (tk' : Nat), low < 24 ∧ v = .int (low : Int) t ∧ s' = St s h tk') ?_ ?_ (fun _ _ e => e)
  · refine wpAny_IfExp ?_
    refine wpAny_isTrue_Compare1 ?_
    refine Call_Name1 ?_
    refine g_bi (env := genv 22 L a cd) T kB boot_len' ?_
    refine PySem.callWith_builtin1 ?_
    refine g_ld (env := genv 22 L a cd) hn hs ?_
    refine call_len_list (s := St s h tk) hl (by simp; omega) ?_
    refine r_int ?_
    intro t₁ tk₁
    refine i_gt ?_
    refine wpAny_truthy_bool ?_
    by_cases h3 : 3 < vs.length
    · rw [if_pos (by simp; omega)]
      obtain ⟨n, t, e⟩ := IntsAre.get hi (List.getElem?_eq_getElem h3)
      refine wpAny_BinOp ?_
      refine Call_Name1 ?_
      refine g_bi (env := genv 22 L a cd) T kB boot_int ?_
      refine PySem.callWith_type1 ?_
      refine Subscript_ ?_
      refine g_ld (env := genv 22 L a cd) hn hs ?_
      refine r_int ?_
      intro t₂ tk₂
      refine li_item (i := 3) hl (by decide) (List.getElem?_eq_getElem h3) ?_
      rw [e]
      refine call_in ?_
      refine r_int ?_
      intro t₃ tk₃
      refine i_mod (by decide) ?_
      intro t₄ tk₄
      obtain ⟨low, hlow, el⟩ := fmod_ofNat n (b := 24) (by decide)
      exact ⟨low, t₄, tk₄, hlow, congrArg (Value.int · t₄) el, rfl⟩
    · rw [if_neg (by simp; omega)]
      refine r_int ?_
      intro t₂ tk₂
      exact ⟨7, t₂, tk₂, by decide, rfl, rfl⟩
  · rintro v s' ⟨low, t, tk', hlow, rfl, rfl⟩
    refine g_stc (env := genv 22 L a cd) hc (by rfl) ?_
    intro h' hc' kk
    exact hq h' tk' low t hlow hc' kk

set_option maxHeartbeats 1000000 in
theorem law2_spec {low : Nat} {tl : Tok} (T : Tops w B mg mb k b1 b3) (kB : Kp B h) (R : Room A 6 23) (hn : h.Ns L m) (hs : m "script" = some (.ref l)) (hl : h.IsList l vs.toArray) (hi : IntsAre vs ns) (hlen : vs.length ≤ 100) (hc : h.IsCell (L + 1) (some (.int (low : Int) tl))) (hlow : low < 24)
    (hq : ∀ pl h' tk' (X : List Pair), X.length = 3 → (∀ p ∈ X, WordOk p.2 (prep p.2) ∧ p.2.length ≤ 5) → PairsIs h' pl X → KpO [L] h h' → h.get? pl = none → h'.Ns L (fun z => if z = "pairs" then some (.ref pl) else m z) → Q .next (St s h' tk')) :
    wpAny (model Pg w) A (exec law2 (genv 22 L a cd)) Q E (St s h tk) := by
  conv in law2 => whnf
  refine r_comp_to (env := genv 22 L a cd) (cl := [(Str.ofString "begin", L + 1)]) (by rfl) (by rfl) (by decide +kernel) (by rfl) (by decide +kernel) (by rfl) (by rfl) hn ?_
  refine Subscript_ ?_
  refine wpAny_BinOp ?_
  refine Subscript_ ?_
  refine g_ld (env := genv 22 L a cd) hn hs ?_
  refine r_slice ?_
  refine wpAny_evalPart_none ?_
  refine wpAny_evalPart_some ?_
  refine r_int ?_
  intro t₁ tk₁
  refine ⟨none, some (3, t₁), h, tk₁, rfl, rfl, rfl, ?_⟩
  intro sl h₁ k₁ _ hS
  refine l_upto (k := 3) (hl.at fun o e => k₁ _ o e) hS (by simp; omega) ?_
  intro l1 h₂ k₂ _ hl1
  refine List_ ?_
  refine args_cons ?_
  refine r_int ?_
  intro t₂ tk₂
  refine args_cons ?_
  refine r_int ?_
  intro t₃ tk₃
  refine args_cons ?_
  refine r_int ?_
  intro t₄ tk₄
  refine args_nil ?_
  refine c_list (by simp) ?_
  intro l2 h₃ k₃ _ hl2
  have hl1' : h₃.PlainList l1 (vs.take 3).toArray := by simpa using hl1.at fun o e => k₃ _ o e
  refine l_add hl1' hl2 (by simp; omega) ?_
  intro l3 h₄ k₄ _ hl3
  refine r_slice ?_
  refine wpAny_evalPart_none ?_
  refine wpAny_evalPart_some ?_
  refine r_int ?_
  intro t₅ tk₅
  refine ⟨none, some (3, t₅), h₄, tk₅, rfl, rfl, rfl, ?_⟩
  intro sl₂ h₅ k₅ _ hS₂
  refine l_upto (k := 3) (hl3.isList.at fun o e => k₅ _ o e) hS₂ (by simp; omega) ?_
  intro l4 h₆ k₆ _ hl4
  obtain ⟨h3, hints⟩ := take3_ints hi (t1 := t₂) (t2 := t₃) (t3 := t₄)
  have hl4' : h₆.PlainList l4 ((vs.take 3 ++ [Value.int 25 t₂, Value.int 33 t₃, Value.int 54 t₄]).take 3).toArray := by simpa using hl4
  generalize (vs.take 3 ++ [Value.int 25 t₂, Value.int 33 t₃, Value.int 54 t₄]).take 3 = us at h3 hints hl4'
  refine it_list R.handled hl4' ?_
  intro I h₇ It W hlv h0 k₇ hI hlt hlI _
  have k₁₆ : Kp h h₆ := ((((k₁.trans k₂).trans k₃).trans k₄).trans k₅).trans k₆
  have k₁₇ : Kp h h₇ := k₁₆.trans k₇
  refine ⟨I, [I, l4], [I], us.length, h₇, tk₅, _, _, fun bad i hh ys => ∃ X : List Pair, ys = X.map (fun p => Value.ref p.1) ∧ X.length = i ∧ (∀ p ∈ X, WordOk p.2 (prep p.2) ∧ p.2.length ≤ 5) ∧ ∀ p ∈ X, (∃ t u, hh.IsTuple p.1 #[.str (sg p.2) t, .str (sg (prep p.2)) u]) ∧ p.1 ∉ bad, rfl, rfl,
    Start.walk W k₁₇ (by rw [h3]; decide) (fun b hb => by simp at hb; exact hb ▸ none_of k₁₆ hI) hlt hlv h0 (by rfl) (by rfl), ?_, ?_⟩
  · refine ⟨fun _ _ _ => ⟨[], rfl, rfl, (fun p hp => nomatch hp), fun p hp => nomatch hp⟩, ?_, ?_⟩
    · rintro bad i hh hh' ys ⟨X, rfl, e1, e2, e3⟩ kk
      exact ⟨X, rfl, e1, e2, fun p hp => ⟨let ⟨t, u, z⟩ := (e3 p hp).1; ⟨t, u, z.at fun o e => kk _ o (e3 p hp).2 e⟩, (e3 p hp).2⟩⟩
    · rintro C bad i h₈ tk₈ ys E' hi' ⟨m', v, hm, hv, hP⟩ ⟨X, rfl, e1, e2, e3⟩ _ k₈ hbad
      obtain ⟨n, t, rfl⟩ := hints i v hP
      have kB₈ : Kp B h₈ := kB.trans k₈
      refine wpAny_tests_nil ?_
      refine ⟨h₈, tk₈, rfl, Kp.refl _, ?_⟩
      rw [if_pos rfl]
      refine Call_Name2 ?_
      refine g_fn T kB₈ mem18 (by rfl) ?_
      refine c_fn2 T mem18 ?_
      refine wpAny_BinOp ?_
      refine Call_Name1 ?_
      refine g_bi T kB₈ boot_int ?_
      refine PySem.callWith_type1 ?_
      refine g_ld hm hv ?_
      refine call_in ?_
      refine wpAny_BinOp ?_
      refine r_int ?_
      intro t₉ tk₉
      refine r_int ?_
      intro t₁₀ tk₁₀
      refine i_pow (by decide) (by decide) (by decide) ?_
      intro t₁₁ tk₁₁
      refine i_mod (by decide) ?_
      intro t₁₂ tk₁₂
      obtain ⟨num, hnum, en⟩ := fmod_ofNat n (b := 1000000) (by decide)
      rw [show ((10 : Int) ^ (6 : Int).toNat) = ((1000000 : Nat) : Int) from by decide, en]
      refine g_cell (c := L + 1) (hc.keeps k₈) (by rfl) ?_
      refine ⟨⟨_, _, rfl, kB₈⟩, ?_⟩
      refine word_spec T kB₈ R hlow ?_
      intro r h₉ tk₁₃ sp pl u₁ u₂ k₉ hr hT hW hsp
      have epl := hW.prep
      subst epl
      refine ⟨h₉, tk₁₃, rfl, k₉, X ++ [(r, sp)], by simp, by simp [e1], ?_, ?_⟩
      · intro p hp
        rcases List.mem_append.mp hp with hp | hp
        · exact e2 p hp
        · simp at hp; subst hp; exact ⟨hW, hsp⟩
      · intro p hp
        rcases List.mem_append.mp hp with hp | hp
        · exact ⟨let ⟨t, u, z⟩ := (e3 p hp).1; ⟨t, u, z.at fun o e => k₉ _ o e⟩, (e3 p hp).2⟩
        · simp at hp; subst hp
          refine ⟨⟨_, _, hT⟩, fun hb => ?_⟩
          obtain ⟨o, ho⟩ := hbad _ hb
          have hr : h₈.get? r = none := hr
          have ho : h₈.get? r = some o := ho
          rw [hr] at ho; cases ho
  · rintro D bad h' tk' ys ⟨X, rfl, e1, e2, e3⟩ hD k' hDn hDL hn'
    rw [h3] at e1
    exact hq D h' tk' X e1 e2 ⟨hD, fun p hp => (e3 p hp).1⟩ k' hDn hn'
end
end Mine

namespace Mine

theorem IntsAre.len {vs : List Value} {ns : List Int} (H : IntsAre vs ns) : vs.length = ns.length := by
  induction H with
  | nil => rfl
  | cons z u _ ih => simp [ih]

/-- what law's loop keeps -/
structure LawJ (h0 : Heap) (L pl r : Addr) (q0 q1 q2 : Pair) (ta tb : List Nat) (u1 u2 : Tok) (h : Heap) (m : Str → Option Value) : Prop where
  keep : Kp h0 h
  pairs : m "pairs" = some (.ref pl)
  wanted : m "wanted" = some (.ref r)
  words : PairsIs h pl [q0, q1, q2]
  best : h.IsTuple r #[.str (sg ta) u1, .str (sg tb) u2]
  row : ∃ v, h.IsCell (L + 2) v
theorem LawJ.make {h0 : Heap} {L pl r : Addr} {q0 q1 q2 : Pair} {ta tb : List Nat} {u1 u2 : Tok} {h : Heap} {m : Str → Option Value} (_ : h.Ns L m) (keep : Kp h0 h) (pairs : m "pairs" = some (.ref pl)) (wanted : m "wanted" = some (.ref r)) (words : PairsIs h pl [q0, q1, q2])
    (best : h.IsTuple r #[.str (sg ta) u1, .str (sg tb) u2]) (row : ∃ v, h.IsCell (L + 2) v) : LawJ h0 L pl r q0 q1 q2 ta tb u1 u2 h m := ⟨keep, pairs, wanted, words, best, row⟩
theorem LawJ.frame {h0 : Heap} {L pl r I : Addr} {q0 q1 q2 : Pair} {ta tb : List Nat} {u1 u2 : Tok} {h1 h h' : Heap} {m m1 : Str → Option Value} (J1 : LawJ h0 L pl r q0 q1 q2 ta tb u1 u2 h1 m1) (hn1 : h1.Ns L m1) (hL : h0.get? L = none) (hI : h1.get? I = none)
    (J : LawJ h0 L pl r q0 q1 q2 ta tb u1 u2 h m) (k : KpO [L, I] h h') : LawJ h0 L pl r q0 q1 q2 ta tb u1 u2 h' m := by
  have hI0 : h0.get? I = none := none_of J1.keep hI
  obtain ⟨v, hc⟩ := J1.row
  have e1 : pl ∉ [L, I] := by simp [list_ne_ns J1.words.list hn1, list_ne_none J1.words.list hI]
  have e2 : ∀ p ∈ [q0, q1, q2], p.1 ∉ [L, I] := fun p hp => by
    obtain ⟨_, _, z⟩ := J1.words.tups p hp
    obtain ⟨o, ho, _⟩ := id z
    simp [tup_ne_ns z hn1, ne_of_here ⟨o, ho⟩ hI]
  have e3 : r ∉ [L, I] := by
    obtain ⟨o, ho, _⟩ := id J1.best
    simp [tup_ne_ns J1.best hn1, ne_of_here ⟨o, ho⟩ hI]
  have e4 : L + 2 ∉ [L, I] := by simp [cell_ne_ns hc hn1, ne_of_here (IsCell.here hc) hI]
  refine ⟨KpO.base J.keep k (fun b hb => by simp at hb; rcases hb with rfl | rfl; exact hL; exact hI0), J.pairs, J.wanted, J.words.ko k e1 e2, Tu.ko J.best k e3, let ⟨v, c⟩ := J.row; ⟨v, IsCell.ko c k e4⟩⟩

theorem best_at3 (xa xb xc : List Nat) : at3 xa xb xc 0 0 0 = f3 xa xb xc := rfl

set_option maxHeartbeats 1000000 in
theorem lawOk : LawOk := by
  intro w s mg mb k b1 b3 T hg a l vs ns ha hl hi hlen
  have hvl := IntsAre.len hi
  obtain ⟨o, pm, cd, doc, e1, _⟩ := T.fa mem22
  have ea : a = fa mg 22 := by rw [law_name, ha] at e1; injection e1 with e1; injection e1
  subst ea
  show wpAny (model Pg w) callerA (call (.ref (fa mg 22)) [.ref l]) _ _ (St s s.heap s.toks)
  refine enterC (i := 22) (d := 20) (u := 60) (binds := [("script", .ref l)]) ["script"] T (Kp.refl _) mem22 ⟨by rfl, by decide, by decide⟩ (fun pm cd doc => by rfl) rfl (by decide +kernel) ?_
  intro A' L a' cd' h₁ tk₁ R' hL hn₁ C₁ k₁
  have hcl : cellsFrom (L + 1) (dOf 22).scope.names [] = [(Str.ofString "row", L + 2), (Str.ofString "begin", L + 1)] := by rfl
  have c1 : h₁.IsCell (L + 1) none := C₁.cell "begin" (L + 1) (by rw [hcl]; rfl)
  have c2 : h₁.IsCell (L + 2) none := C₁.cell "row" (L + 2) (by rw [hcl]; rfl)
  have fL : s.heap.get? L = none := by rw [hL]; exact noAt _
  have f1 : s.heap.get? (L + 1) = none := by rw [hL]; exact Heap.get?_none_of_le (Nat.le_add_right _ 1)
  have f2 : s.heap.get? (L + 2) = none := by rw [hL]; exact Heap.get?_none_of_le (Nat.le_add_right _ 2)
  obtain ⟨o1, o2, o3, o4, o5, o6⟩ := off_ne L
  conv in (dOf 22).body => whnf
  refine wpAny_execs_cons ?_
  refine law1_spec T k₁ hn₁ (by rfl) (hl.at fun o e => k₁ _ o e) hi (by omega) ⟨_, c1⟩ ?_
  intro h₂ tk₂ low t hlow c1₂ k₂
  have kk₂ : Kp s.heap h₂ := KpO.base k₁ k₂ (by simpa using f1)
  have hn₂ : h₂.Ns L _ := Ns.ko hn₁ k₂ (by simpa using o4)
  have c2₂ := IsCell.ko c2 k₂ (by simpa using Ne.symm o1)
  dsimp only
  refine wpAny_execs_cons ?_
  refine law2_spec T kk₂ (R'.less (by decide) (by decide)) hn₂ (by rfl) (hl.at fun o e => kk₂ _ o e) hi (by omega) c1₂ hlow ?_
  intro pl h₃ tk₃ X hX3 hXok hX₃ k₃ hpl hn₃
  have kk₃ : Kp s.heap h₃ := KpO.base kk₂ k₃ (by simpa using fL)
  have c2₃ := IsCell.ko c2₂ k₃ (by simpa using Ne.symm o5)
  obtain ⟨q0, q1, q2, rfl⟩ : ∃ q0 q1 q2, X = [q0, q1, q2] := by
    match X, hX3 with
    | [x, y, z], _ => exact ⟨x, y, z, rfl⟩
  obtain ⟨v0, w0, hT0⟩ := hX₃.tups q0 (by simp)
  obtain ⟨v1, w1, hT1⟩ := hX₃.tups q1 (by simp)
  obtain ⟨v2, w2, hT2⟩ := hX₃.tups q2 (by simp)
  have hr0 := (hXok q0 (by simp)).1.rest (hXok q0 (by simp)).2
  have hr1 := (hXok q1 (by simp)).1.rest (hXok q1 (by simp)).2
  have hr2 := (hXok q2 (by simp)).1.rest (hXok q2 (by simp)).2
  dsimp only
  refine wpAny_execs_cons ?_
  refine wpAny_Assign_Name ?_
  refine Call_Name3 ?_
  refine g_fn (env := genv 22 L a' cd') T kk₃ mem19 (by rfl) ?_
  refine c_fn3 T mem19 ?_
  refine Subscript_ ?_
  refine Subscript_ ?_
  refine g_ld (env := genv 22 L a' cd') hn₃ (by rfl) ?_
  refine r_int ?_
  intro t₁ tk₄
  refine l_item (vs := [.ref q0.1, .ref q1.1, .ref q2.1]) (i := 0) hX₃.list (by decide) (by rfl) ?_
  refine r_int ?_
  intro t₂ tk₅
  refine t_item (vs := [.str (sg q0.2) v0, .str (sg (prep q0.2)) w0]) (i := 1) hT0 (by decide) (by rfl) ?_
  refine Subscript_ ?_
  refine Subscript_ ?_
  refine g_ld (env := genv 22 L a' cd') hn₃ (by rfl) ?_
  refine r_int ?_
  intro t₃ tk₆
  refine l_item (vs := [.ref q0.1, .ref q1.1, .ref q2.1]) (i := 1) hX₃.list (by decide) (by rfl) ?_
  refine r_int ?_
  intro t₄ tk₇
  refine t_item (vs := [.str (sg q1.2) v1, .str (sg (prep q1.2)) w1]) (i := 1) hT1 (by decide) (by rfl) ?_
  refine Subscript_ ?_
  refine Subscript_ ?_
  refine g_ld (env := genv 22 L a' cd') hn₃ (by rfl) ?_
  refine r_int ?_
  intro t₅ tk₈
  refine l_item (vs := [.ref q0.1, .ref q1.1, .ref q2.1]) (i := 2) hX₃.list (by decide) (by rfl) ?_
  refine r_int ?_
  intro t₆ tk₉
  refine t_item (vs := [.str (sg q2.2) v2, .str (sg (prep q2.2)) w2]) (i := 1) hT2 (by decide) (by rfl) ?_
  refine ⟨⟨_, _, rfl, kk₃⟩, ?_⟩
  refine best_spec T kk₃ (R'.less (by decide) (by decide)) ⟨?_, ?_, ?_⟩ ?_
  · exact Nat.le_trans (prep_len hr0.short) hr0.len
  · exact Nat.le_trans (prep_len hr1.short) hr1.len
  · exact Nat.le_trans (prep_len hr2.short) hr2.len
  intro r h₄ tk₁₀ ta tb u1 u2 k₄ hr hW Ba Bb
  have hn₄ := hn₃.keeps k₄
  refine q_st hn₄ ?_
  intro h₅ tk₁₁ hn₅ k₅
  have kk₅ : Kp s.heap h₅ := KpO.base (kk₃.trans k₄) k₅ (by simpa using fL)
  have J₅ := LawJ.make hn₅ kk₅ (by rfl) (by rfl) ((hX₃.keeps k₄).ns hn₄ k₅) (Tu.ko hW k₅ (by simpa using tup_ne_ns hW hn₄)) ⟨_, IsCell.ko (c2₃.keeps k₄) k₅ (by simpa using Ne.symm o5)⟩
  dsimp only
  refine wpAny_execs_cons ?_
  refine r_for (env := genv 22 L a' cd') (by rfl) (by rfl) ?_
  refine Call_Name1 ?_
  refine g_bi (env := genv 22 L a' cd') T kk₅ boot_rng ?_
  refine PySem.callWith_type1 ?_
  refine r_int ?_
  intro t₇ tk₁₂
  refine c_range ?_
  intro rr h₆ tk₁₃ tr₁ tr₂ k₆ _ hrange
  refine it_range (n := 2) hrange (by decide) ?_
  intro I h₇ hIt k₇ hI hIlt
  have k₅₇ : Kp h₅ h₇ := k₆.trans k₇
  have hI₅ : h₅.get? I = none := none_of k₆ hI
  have hIL : I ≠ L := Ne.symm (ns_ne_none hn₅ hI₅)
  have hIc : I ≠ L + 2 := by obtain ⟨v, c⟩ := J₅.row; exact Ne.symm (ne_of_here (IsCell.here c) hI₅)
  refine ⟨I, [I], [I], 2, _, _, h₇, tk₁₃, _, fun _ hh mm => LawJ s.heap L pl r q0 q1 q2 ta tb u1 u2 hh mm, rfl, rfl, Walks.range R'.handled I 0 1 2, by simpa using hIt, hn₅.keeps k₅₇, (fun hm => hIL (List.mem_singleton.mp hm).symm),
    ⟨kk₅.trans k₅₇, J₅.pairs, J₅.wanted, J₅.words.keeps k₅₇, J₅.best.at fun o e => k₅₇ _ o e, let ⟨v, c⟩ := J₅.row; ⟨v, c.keeps k₅₇⟩⟩, fun i hh hh' mm J kk => LawJ.frame J₅ hn₅ fL hI₅ J kk, ?_, ?_⟩
  · rintro i v hh tkk mm E' hi' ⟨tv, rfl⟩ J hns hIt'
    refine wpAny_mono (turn_spec (i := i) (ti := tv) T J.keep f2 (R'.less (by decide) (by decide)) hns (ne_up J.pairs) (ne_up J.wanted) (by simp) hi' J.words ?_ J.best J.row Ba Bb) ?_ (fun _ _ e => e)
    · intro p hp
      simp only [List.mem_cons, List.not_mem_nil, or_false] at hp
      rcases hp with rfl | rfl | rfl
      · exact hr0
      · exact hr1
      · exact hr2
    · rintro f s' ⟨rfl, h', tk', rfl, hc', kk⟩
      obtain ⟨vc, hc⟩ := J.row
      refine ⟨rfl, h', tk', _, rfl, Ns.ko hns kk (fun hm => o5 (List.mem_singleton.mp hm)), ⟨KpO.base J.keep kk (by simpa using f2), ne_up J.pairs, ne_up J.wanted, J.words.cell hc kk, Tu.ko J.best kk (by simpa using tup_ne_cell J.best hc), hc'⟩, ?_⟩
      intro b hb o e
      have hb : b = I := by simpa using hb
      subst hb
      exact kk b o (by simpa using hIc) e
  · intro h' tk' m' J hn'
    dsimp only
    refine wpAny_execs_cons ?_
    refine wpAny_Return_some ?_
    refine wpAny_Constant_bool ?_
    exact ⟨rfl, h', tk', rfl, J.keep⟩
end Mine

set_option maxHeartbeats 8000000 in
theorem PySem.Challenge.cw_mq0351_01_holds : PySem.Challenge.rw_mq0351_01.Holds := by
  o_law
  exact Mine.holds_of_law Mine.lawOk (by assumption)
