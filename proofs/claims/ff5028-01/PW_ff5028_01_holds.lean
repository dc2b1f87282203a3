import PyProof.Rows.All
import Wide.All
import OpenK.AllK
import Wide.FinOn
import PySem.Challenge.RW_ff5028_01
set_option Elab.async false
set_option maxRecDepth 100000 in
set_option maxHeartbeats 8000000 in
open_top hd for PySem.Challenge.rw_ff5028_01

section
-- part SliceL
open PySem PySem.W PySem.Calls PyProof.Rows PyProof.V PySem.Spec PySem.StrLaws PySem.Builtin PySem.Builtin.Str
namespace Mine
/-- every sign is less than 16^8: its repr is ten signs at most -/
def Small (x : Str) : Prop := ∀ c ∈ x.cps.toList, c < 16 ^ 8
theorem idx_clip {i j : Int} {n : Nat} (hi : 0 ≤ i) (hj : 0 ≤ j) :
    strSliceIndices (some i) (some j) 1 n = strSliceIndices (some ((min i.toNat n : Nat) : Int)) (some ((min j.toNat n : Nat) : Int)) 1 n := by
  have h1 : ¬ (i < 0) := by omega
  have h2 : ¬ (j < 0) := by omega
  have h3 : ¬ (((min i.toNat n : Nat) : Int) < 0) := by omega
  have h4 : ¬ (((min j.toNat n : Nat) : Int) < 0) := by omega
  have e1 : max (0 : Int) (min i (n : Int)) = max (0 : Int) (min ((min i.toNat n : Nat) : Int) (n : Int)) := by omega
  have e2 : max (0 : Int) (min j (n : Int)) = max (0 : Int) (min ((min j.toNat n : Nat) : Int) (n : Int)) := by omega
  simp only [strSliceIndices, h1, h2, h3, h4, if_false, show ((1 : Int) > 0) = True from by simp, if_true]
  rw [e1, e2]
theorem slice_signs {x : Str} {i j : Int} (hi : 0 ≤ i) (hij : i ≤ j) : (Txt.slice x (some i) (some j)).cps.toList = (x.cps.toList.drop i.toNat).take (j.toNat - i.toNat) := by
  have hc := idx_clip (n := x.length) hi (show 0 ≤ j by omega)
  have key : Txt.slice x (some i) (some j) = sliceText x (some ((min i.toNat x.length : Nat) : Int)) (some ((min j.toNat x.length : Nat) : Int)) := by
    unfold Txt.slice sliceText
    rw [hc]
  rw [key, sliceText_nat x (by omega) (by omega)]
  have hL : x.cps.toList.length = x.length := by simp [Str.length]
  show (x.cps.toList.drop _).take _ = _
  apply List.ext_getElem?
  intro k
  simp only [List.getElem?_take, List.getElem?_drop]
  by_cases h1 : k < min j.toNat x.length - min i.toNat x.length
  · rw [if_pos h1, if_pos (by omega)]
    congr 1
    omega
  · rw [if_neg h1]
    split
    · symm
      apply List.getElem?_eq_none
      omega
    · rfl
theorem slice_size {x : Str} {i j : Int} (hi : 0 ≤ i) (hij : i ≤ j) : (Txt.slice x (some i) (some j)).cps.size = min (j.toNat - i.toNat) (x.length - i.toNat) := by
  have := congrArg List.length (slice_signs (x := x) hi hij)
  have hL : x.cps.toList.length = x.length := by simp [Str.length]
  rw [List.length_take, List.length_drop, hL] at this
  simpa using this
theorem slice_small {x : Str} {i : Int} (h0 : 0 ≤ i) : (Txt.slice x (some i) (some (i + 4))).cps.size ≤ 4 := by
  rw [slice_size h0 (by omega)]; omega
theorem slice_Small {x : Str} {i j : Int} (h : Small x) (hi : 0 ≤ i) (hij : i ≤ j) : Small (Txt.slice x (some i) (some j)) := by
  intro c hc
  rw [slice_signs hi hij] at hc
  exact h c (List.mem_of_mem_drop (List.mem_of_mem_take hc))
theorem repr_fits {x : Str} {i : Int} (h : Small x) (hi : 0 ≤ i) (hx : x.length ≤ 60) : (reprText (Txt.slice x (some i) (some (i + 1)))).length ≤ sizeLine := by
  have h1 := reprText_len _ (slice_Small h hi (show i ≤ i + 1 by omega))
  have h2 := Txt.slice_le x (some i) (some (i + 1))
  rw [sizeLine_eq]; omega
end Mine
end

section
-- part TextL
open PySem PySem.W PySem.Calls PyProof.Rows PyProof.V PySem.Spec
namespace Mine
theorem item_Small {x : Str} {i : Int} (h : Small x) : Small (Txt.item x i) := by
  intro c hc
  have e : c = (Txt.charAt x i).getD 0 := by simpa [Txt.item] using hc
  rw [e]
  cases hq : Txt.charAt x i with
  | none => decide
  | some y =>
    unfold Txt.charAt at hq
    first
      | (obtain ⟨k, hk, hy⟩ := Option.bind_eq_some_iff.mp hq
         exact h y (Array.mem_toList_iff.mpr (Array.mem_of_getElem? hy)))
theorem text_step {t lit : Str} {pre : List Int} {n k : Int} (hi : t.length ≤ pre.length + 2 ∧ Small t) (hl : Small lit) : (t ++ Txt.item lit k).length ≤ (pre ++ [n]).length + 2 ∧ Small (t ++ Txt.item lit k) := by
  refine ⟨?_, fun c hc => ?_⟩
  · rw [Str.length_append, List.length_append]
    have : (Txt.item lit k).length = 1 := rfl
    rw [this, List.length_singleton]
    omega
  · rcases PyProof.Rows.mem_cps_append.mp hc with h | h
    · exact hi.2 c h
    · exact item_Small hl c h
theorem small_of {x : Str} (h : (x.cps.toList.all fun c => decide (c < 16 ^ 8)) = true) : Small x := fun c hc => of_decide_eq_true (List.all_eq_true.mp h c hc)
theorem small_signs : Small (Str.ofString "0123456789abcdefABCDEF") := small_of (by decide +kernel)
theorem small_near : Small (Str.ofString "/:@G`g +-_\n٣３Ａ²ſİx") := small_of (by decide +kernel)
theorem small_head : Small (Str.ofString "\\u") := small_of (by decide +kernel)
theorem small_tail : Small (Str.ofString "\\uBeEf12") := small_of (by decide +kernel)
theorem small_append {a b : Str} (ha : Small a) (hb : Small b) : Small (a ++ b) := fun c hc => (mem_cps_append.mp hc).elim (ha c) (hb c)
end Mine
end

section
-- part TextC
open PySem PySem.W PyProof.Rows
namespace Mine
theorem text_end {h₀ h' : Heap} {L : Addr} {m : Str → Option Value} {news : List (Addr × Obj)} {s : Shared} {Q : Value → Shared → Prop} {x : Str} {t : Tok} {tk' : Nat}
    (hret : ∀ x t h' tk', x.length ≤ 42 → Small x → Fr h₀ L h' m → News h₀ L h' news → Q (.str x t) { s with heap := h', toks := tk' }) (e : x.length ≤ 42 ∧ Small x) (F : Fr h₀ L h' m) (N : News h₀ L h' news) :
    Q (.str x t) { s with heap := h', toks := tk' } := hret x t h' tk' e.1 e.2 F N
set_option maxRecDepth 100000 in
set_option maxHeartbeats 8000000 in
theorem text_call : ∀ (w : World) (mean : ExcName → Option Value) (mg mb : Str → Option Value) (dp un : Nat) (gd : Option (List Code)) (cn : Str) (cs : Scope) (a : Addr) (ccd : Value) (cl : List (Str × Addr)) (outer : List Env) (A₀ : Around) (base h₀ : Heap) (L : Addr) (m : Str → Option Value) (news : List (Addr × Obj)) (s : Shared) (l : Addr) (vs : List Value) (ns : List Int)
    (Q E : Value → Shared → Prop), Below A₀ base outer h₀ → Fr h₀ L s.heap m → (hd.heap_39 w.params).In h₀ → News h₀ L s.heap news →
    Top hd.view_39 (looseW hd.view_39 [Str.ofString "errmsg", Str.ofString "JSONDecodeError", Str.ofString "FOUR_DIGIT_HEX", Str.ofString "scan_four_digit_hex"]) mean mg mb h₀ →
    cs.kind = .function → base.IsList l vs.toArray → IntsAre vs ns → ns.length ≤ 63 → dp + 1 < recursionLimit → un + 8 < cLine →
    (∀ x t h' tk', x.length ≤ 42 → Small x → Fr h₀ L h' m → News h₀ L h' news → Q (.str x t) { s with heap := h', toks := tk' }) →
    wpAny (model PySem.Challenge.rw_ff5028_01.row.prog w) (ktrTop dp un gd cn cs L a ccd cl outer) (call (.ref 102) [.ref l]) Q E s := by
  k_fill
  intro w mean mg mb dp un gd cn cs a ccd cl outer A₀ base h₀ L m news s l vs ns Q E B F X N T hk hl hI hlen hd hu hret
  w_strict (
    w_top off
    k_with_none
    refine wpAny_call ?_
    k_dflt cell_enter
    k_with "state" => first | exact ⟨by decide, small_head⟩ | exact text_step ⟨by assumption, by assumption⟩ small_signs | exact text_step ⟨by assumption, by assumption⟩ small_near
    k_with "pyIter ref" => k_state (fun pre text => text.length ≤ pre.length + 2 ∧ Small text) "text"
    k_steps
    all_goals (refine text_end hret ?e1 ?e2 ?e3; (case e2 => k_asm); (case e3 => refine cb_drop (by assumption) (fun p hp => List.mem_cons_of_mem _ hp)); (case e1 => (refine ⟨?_, by assumption⟩; (simp only [List.length_take] at *; omega)))))
end Mine
end

section
-- part FigD
open PySem PySem.W PyProof.Rows PyProof.V PySem.Spec
namespace Mine

/-- the pairs' trees of a display of written texts and ints -/
def litTrees (env : Env) (pos : Pos) (l : List (Str × Int × Nat × Pos × Nat × Pos)) : List (Sem Value × Sem Value) :=
  l.map fun q => (eval (.Constant (.str q.1) q.2.2.1 q.2.2.2.1) env, do let x ← eval (.Constant (.int q.2.1) q.2.2.2.2.1 q.2.2.2.2.2) env; standAt pos; pure x)

/-- the pairs that a dict holds, as the written items say -/
def Holds (kvs : List (Str × Value)) (l : List (Str × Int × Nat × Pos × Nat × Pos)) : Prop :=
  kvs.map (·.1) = l.map (·.1) ∧ FlatPairs PyData.str kvs (l.map fun q => (PyData.str q.1, PyData.int q.2.1))

section
variable {prog : Program} {w : World} {A : Around} {E : Value → Shared → Prop}

theorem stored_fresh {acc : List (Str × Value)} {x : Str} {v : Value} (h : x ∉ acc.map (·.1)) : stored acc x v = acc ++ [(x, v)] := by
  unfold stored
  rw [if_neg]
  rw [List.any_eq_true]
  rintro ⟨p, hp, e⟩
  exact h (List.mem_map.mpr ⟨p, hp, of_decide_eq_true e⟩)

theorem long_loop {d : Addr} {env : Env} {pos : Pos} : ∀ (l : List (Str × Int × Nat × Pos × Nat × Pos)) (acc : List (Str × Value)) (s : Shared) (Q : PUnit → Shared → Prop),
    (acc.map (·.1) ++ l.map (·.1)).Nodup → s.heap.DictOf (strKind prog w) d acc → acc.length + l.length ≤ sizeLine →
    (∀ h' tk vs, Holds vs l → h'.DictOf (strKind prog w) d (acc ++ vs) → Heap.SameBut d s.heap h' → Q PUnit.unit { s with heap := h', toks := tk }) →
    wpAny (model prog w) A (forIn (litTrees env pos l) PUnit.unit fun (x : Sem Value × Sem Value) (_ : PUnit) => (do
      let kv ← x.1
      let vv ← holding [kv] x.2
      holding [kv, vv] (dictSet d kv vv)
      pure (ForInStep.yield PUnit.unit) : Sem (ForInStep PUnit))) Q E s := by
  intro l
  induction l with
  | nil =>
    intro acc s Q _ hm _ hQ
    exact wpAny_pure (hQ s.heap s.toks [] ⟨rfl, .nil⟩ (by simpa using hm) (Heap.SameBut.refl _ _))
  | cons q r ih =>
    intro acc s Q hn hm hsz hQ
    rw [List.length_cons] at hsz
    have hfresh : q.1 ∉ acc.map (·.1) := fun hm' => by
      rw [List.nodup_append] at hn
      exact hn.2.2 _ hm' _ List.mem_cons_self rfl
    show wpAny _ _ (forIn (_ :: litTrees env pos r) _ _) _ _ _
    rw [List.forIn_cons]
    refine wpAny_bind (wpAny_bind (wpAny_Constant_str (env := env) (k := q.2.2.1) (pos := q.2.2.2.1) ?_))
    refine wpAny_bind (wpAny_holding (wpAny_bind (wpAny_Constant_int (env := env) (k := q.2.2.2.2.1) (pos := q.2.2.2.2.2) (wpAny_bind (wpAny_standAt (wpAny_pure ?_))))))
    refine wpAny_bind (wpAny_holding (wpAny_dictSet_pairs (knd := strKind prog w) (k := q.1) (strKind_is prog w _ _) (by exact hm) (fun h₁ hm₁ hs₁ => ?_) (by omega)))
    refine wpAny_pure ?_
    rw [stored_fresh hfresh] at hm₁
    refine ih _ _ Q ?_ hm₁ (by rw [List.length_append]; simp; omega) fun h' tk vs hv hm' hs' => ?_
    · simpa [List.map_append, List.append_assoc] using hn
    · refine hQ h' tk ((q.1, .int q.2.1 (s.toks + 1)) :: vs) ⟨?_, .cons (Flat.int _ _) hv.2⟩ ?_ (hs₁.trans hs')
      · rw [List.map_cons, List.map_cons, hv.1]
      · rw [List.append_assoc] at hm'; exact hm'

theorem sub_long {env : Env} {pos : Pos} {l : List (Str × Int × Nat × Pos × Nat × Pos)} {s : Shared} {Q : Addr → Shared → Prop} (h15 : 15 < l.length) (hn : (l.map (·.1)).Nodup) (hsz : l.length ≤ sizeLine)
    (h : ∀ h' tk vs, Holds vs l → h'.DictOf (strKind prog w) s.heap.objs.size vs → Heap.SameBut s.heap.objs.size (s.heap.push { cls := .type "dict", data := .dict #[] }) h' → Q s.heap.objs.size { s with heap := h', toks := tk }) :
    wpAny (model prog w) A (subDict (litTrees env pos l)) Q E s := by
  unfold subDict
  refine wpAny_bind (wpAny_alloc (wpAny_bind (wpAny_holding ?_)))
  rw [if_neg (by simp only [litTrees, List.length_map]; omega)]
  refine wpAny_bind (wpAny_rule (wpAny_bind ?_))
  refine long_loop l [] _ _ (by simpa using hn) (Heap.DictOf.new _) (by simpa using hsz) fun h' tk vs hv hm hs => ?_
  exact wpAny_pure (wpAny_pure (h h' tk vs hv (by simpa using hm) hs))

theorem pairs_loop : ∀ (l : List (Str × Int × Nat × Pos × Nat × Pos)) {env : Env} {pos : Pos} (s : Shared) (Q : List (Value × Value) → Shared → Prop),
    (∀ vs kvs tk, Carries (strKind prog w) vs kvs → vs.length = l.length → Holds kvs l → Q vs { s with toks := tk }) → wpAny (model prog w) A (evalPairs (litTrees env pos l)) Q E s := by
  intro l
  induction l with
  | nil => intro env pos s Q h; exact wpAny_pure (h [] [] s.toks trivial rfl ⟨rfl, .nil⟩)
  | cons q r ih =>
    intro env pos s Q h
    refine evalPairs_cons (wpAny_Constant_str (env := env) (k := q.2.2.1) (pos := q.2.2.2.1) (wpAny_bind (wpAny_Constant_int (env := env) (k := q.2.2.2.2.1) (pos := q.2.2.2.2.2) (wpAny_bind (wpAny_standAt (wpAny_pure ?_))))))
    refine ih _ _ fun vs kvs tk hc hl hh => ?_
    refine h _ ((q.1, .int q.2.1 (s.toks + 1)) :: kvs) tk ⟨strKind_is prog w _ _, rfl, hc⟩ (by rw [List.length_cons, List.length_cons, hl]) ⟨?_, .cons (Flat.int _ _) hh.2⟩
    rw [List.map_cons, List.map_cons, hh.1]

theorem sub_short {env : Env} {pos : Pos} {l : List (Str × Int × Nat × Pos × Nat × Pos)} {s : Shared} {Q : Addr → Shared → Prop} (h15 : l.length ≤ 15) (hn : (l.map (·.1)).Nodup)
    (h : ∀ h' tk vs, Holds vs l → h'.DictOf (strKind prog w) s.heap.objs.size vs → Heap.SameBut s.heap.objs.size (s.heap.push { cls := .type "dict", data := .dict #[] }) h' → Q s.heap.objs.size { s with heap := h', toks := tk }) :
    wpAny (model prog w) A (subDict (litTrees env pos l)) Q E s := by
  refine wpAny_subDict (knd := strKind prog w) (by simp only [litTrees, List.length_map]; omega) ?_
  refine pairs_loop l _ _ fun vs kvs tk hc hl hh => ?_
  refine ⟨kvs, hc, Heap.DictOf.new _, fun h' hm hs => ?_⟩
  rw [merged_nil_of_nodup kvs (by rw [hh.1]; exact hn)] at hm
  exact h h' _ kvs hh hm hs

theorem put_fresh {d : Addr} {kvs : List (Str × Value)} {k : Str} {key v : Value} {s : Shared} {Q : Unit → Shared → Prop} (hkey : (strKind prog w).is k key = true) (hm : s.heap.DictOf (strKind prog w) d kvs) (hf : k ∉ kvs.map (·.1))
    (hQ : ∀ h', h'.DictOf (strKind prog w) d (kvs ++ [(k, v)]) → Heap.SameBut d s.heap h' → Q () { s with heap := h' })
    (hsz : kvs.length ≤ sizeLine) :
    wpAny (model prog w) A (dictPut d ((strKind prog w).hash k) key v) Q E s := by
  obtain ⟨o, es, ep, ho, hc, hd, hk, hp, hn⟩ := hm
  have hes : es.size ≤ sizeLine := by
    have e1 := hp.length
    have e2 : es.toList.length = es.size := by simp
    omega
  have hidx : (es.findIdx? fun e => (strKind prog w).is k e.key) = kvs.findIdx? fun kv => decide (kv.1 = k) := by
    rw [← hp.findIdx k]; obtain ⟨l⟩ := es; simp
  unfold dictPut
  refine wpAny_bind (wpAny_dictFind_of hkey ho hd hk ?_)
  have hnone : (es.findIdx? fun e => (strKind prog w).is k e.key) = none := by
    rw [hidx, List.findIdx?_eq_none_iff]
    intro p hp'
    rw [decide_eq_false_iff_not]
    exact fun e => hf (List.mem_map.mpr ⟨p, hp', e⟩)
  rw [hnone]
  refine wpAny_updateDictKeys (hz := hes) ho hd (hQ _ ⟨_, _, ep + 1, Heap.get?_update_self _ ho (Obj.isFreed_of_dict (Obj.data_mapDictKeys hd _)), hc.mapDictKeys _, Obj.data_mapDictKeys hd _, hk.push hkey _, ?_, ?_⟩ (Heap.SameBut.update ..))
  · have := hp.append hkey ((strKind prog w).hash k) v
    obtain ⟨l⟩ := es
    simpa using this
  · rw [List.map_append, List.nodup_append]
    refine ⟨hn, by simp, fun a ha b hb => ?_⟩
    simp only [List.map_cons, List.map_nil, List.mem_singleton] at hb
    subst hb
    exact fun e => hf (e ▸ ha)
end
end Mine
end

section
-- part FigE
open PySem PySem.W PyProof.Rows PyProof.V PySem.Spec
namespace Mine
section
variable {prog : Program} {w : World} {A : Around} {E : Value → Shared → Prop}

theorem merge_fresh {d o : Addr} {acc more : List (Str × Value)} {s : Shared} {Q : Unit → Shared → Prop} (hdo : d ≠ o) (hoS : (o == sysModules) = false)
    (hd : s.heap.DictOf (strKind prog w) d acc) (ho : s.heap.DictOf (strKind prog w) o more) (hne : acc ≠ []) (hn : (acc.map (·.1) ++ more.map (·.1)).Nodup) (hsz : acc.length + more.length ≤ sizeLine)
    (hQ : ∀ h', h'.DictOf (strKind prog w) d (acc ++ more) → Heap.SameBut d s.heap h' → Q () { s with heap := h' }) :
    wpAny (model prog w) A (mergeMapping d (.ref o) false) Q E s := by
  obtain ⟨od, esd, epd, hod, hcd, hdd, hkd, hpd, hnd⟩ := id hd
  obtain ⟨oo, eso, epo, hoo, hco, hdo', hko, hpo, hno⟩ := id ho
  have hlen : more.length = eso.size := by rw [← hpo.length]; simp
  have hesd : esd.isEmpty = false := by
    cases hq : esd.isEmpty with
    | false => rfl
    | true =>
      have h0 : esd = #[] := Array.isEmpty_iff.mp hq
      have := hpd.length
      rw [h0] at this
      exact absurd (List.length_eq_zero_iff.mp (by simpa using this.symm)) hne
  unfold mergeMapping
  refine wpAny_bind (wpAny_isInstance ho.typeIs isSubtype_dict_dict ?_)
  rw [if_pos rfl]
  refine wpAny_bind (wpAny_specialOf ho.typeIs F.slot_dict_iter.lookup (wpAny_bind (wpAny_pure ?_)))
  rw [show (some (Value.builtin "dict.__iter__") == some (.builtin "dict.__iter__")) = true from by simp]
  dsimp only
  rw [if_neg (by rw [hoS]; exact Bool.false_ne_true)]
  refine wpAny_bind (wpAny_dictEntries hod hdd ?_)
  rw [hesd, if_neg (by decide)]
  refine wpAny_bind (wpAny_dictEntries hoo hdo' ?_)
  refine wpAny_bind (wpAny_dictEpoch hoo hdo' ?_)
  refine wpAny_bind ?_
  rw [List.range_eq_range']
  refine wpAny_forIn_list _
    (fun rest _ s' => ∃ h' i, s' = { s with heap := h' } ∧ rest = List.range' i (eso.size - i) ∧ i ≤ eso.size ∧ h'.DictOf (strKind prog w) d (acc ++ more.take i) ∧ h'.get? o = some oo ∧ Heap.SameBut d s.heap h')
    _ ?_ ?_ _ _ ⟨s.heap, 0, rfl, by simp, Nat.zero_le _, by simpa using hd, hoo, Heap.SameBut.refl _ _⟩
  · rintro x rest b s' ⟨h', i, rfl, hr, hi, hd', hoo', hs'⟩
    have hlt : i < eso.size := by
      rcases Nat.lt_or_ge i eso.size with h | h
      · exact h
      · rw [Nat.sub_eq_zero_of_le h] at hr; simp at hr
    obtain ⟨rfl, hrest⟩ : x = i ∧ rest = List.range' (i + 1) (eso.size - (i + 1)) := by
      have e : eso.size - i = (eso.size - (i + 1)) + 1 := by omega
      rw [e, List.range'_succ] at hr
      injection hr with h1 h2
      exact ⟨h1, h2⟩
    refine wpAny_bind (wpAny_dictEntries hoo' hdo' ?_)
    rw [Array.getElem?_eq_getElem hlt]
    obtain ⟨⟨k, v⟩, hkv⟩ : ∃ kv, more[x]? = some kv := ⟨more[x]'(by rw [hlen]; exact hlt), List.getElem?_eq_getElem _⟩
    obtain ⟨hkey, hval⟩ := hpo.get? (e := eso[x]) (by simp [hlt]) hkv
    obtain ⟨k', hkey', hhash⟩ := hko eso[x] (Array.getElem_mem hlt)
    obtain rfl : k' = k := (strKind prog w).inj _ _ _ hkey' hkey
    have htk : more.take (x + 1) = more.take x ++ [(k', v)] := by rw [List.take_add_one, hkv]; rfl
    have hf : k' ∉ (acc ++ more.take x).map (·.1) := by
      have h1 : ((acc ++ more.take x).map (·.1) ++ (more.drop x).map (·.1)).Nodup := by
        rw [List.map_append, List.append_assoc, ← List.map_append, List.take_append_drop]
        exact hn
      have h2 : k' ∈ (more.drop x).map (·.1) := List.mem_map.mpr ⟨(k', v), by
        have := List.getElem?_drop (xs := more) (i := x) (j := 0)
        rw [Nat.add_zero, hkv] at this
        exact List.mem_of_getElem? this, rfl⟩
      rw [List.nodup_append] at h1
      exact fun hm => h1.2.2 _ hm _ h2 rfl
    dsimp only
    rw [if_neg Bool.false_ne_true, hhash, hval]
    have hsz' : (acc ++ more.take x).length ≤ sizeLine := by rw [List.length_append, List.length_take]; omega
    refine wpAny_bind (wpAny_holding (put_fresh (s := { s with heap := h' }) hkey hd' hf (fun h'' hd'' hs'' => ?_) hsz'))
    have hoo'' : h''.get? o = some oo := (hs''.2 o (Ne.symm hdo)).trans hoo'
    refine wpAny_bind (wpAny_dictEpoch hoo'' hdo' ?_)
    rw [if_neg (by simp)]
    exact wpAny_pure ⟨h'', x + 1, rfl, hrest, hlt, by rw [htk, ← List.append_assoc]; exact hd'', hoo'', hs'.trans hs''⟩
  · rintro b s' ⟨h', i, rfl, hr, hi, hd', hoo', hs'⟩
    have hin : i = eso.size := by
      rcases Nat.lt_or_ge i eso.size with h | h
      · have e : eso.size - i = (eso.size - (i + 1)) + 1 := by omega
        rw [e, List.range'_succ] at hr; exact nomatch hr
      · exact Nat.le_antisymm hi h
    refine wpAny_pure (hQ h' ?_ hs')
    rw [hin, ← hlen, List.take_length] at hd'; exact hd'
end
end Mine
end

section
-- part FigF
open PySem PySem.W PyProof.Rows PyProof.V PySem.Spec
namespace Mine
theorem gather_run {T : Type} (m : T) (f : (Option (Sem Value) × Sem Value) → (T × List (Sem Value × Sem Value)) → Sem (ForInStep (T × List (Sem Value × Sem Value))))
    (hf : ∀ (p : Sem Value × Sem Value) (run : List (Sem Value × Sem Value)), run.length + 1 < 17 → f (some p.1, p.2) (m, run) = pure (.yield (m, run ++ [p]))) (rest : List (Option (Sem Value) × Sem Value)) :
    ∀ (items run : List (Sem Value × Sem Value)), run.length + items.length < 17 → forIn (items.map (fun p => (some p.1, p.2)) ++ rest) (m, run) f = forIn rest (m, run ++ items) f
  | [], run, _ => by simp
  | p :: r, run, h => by
    rw [List.map_cons, List.cons_append, List.forIn_cons, hf p run (by simp at h; omega), pure_bind]
    have := gather_run m f hf rest r (run ++ [p]) (by simp at h ⊢; omega)
    simpa using this
section
variable {prog : Program} {w : World} {A : Around} {E : Value → Shared → Prop}

theorem display_two {a b : List (Sem Value × Sem Value)} {p : Sem Value × Sem Value} (ha : a.length = 16) (hb : b.length < 17) (hb0 : b ≠ []) :
    dictDisplay ((a ++ p :: b).map fun p => (some p.1, p.2)) = (do
      let d ← subDict (a ++ [p])
      let sub ← holding [.ref d] (subDict b)
      (holding [.ref d, .ref sub] (mergeMapping d (.ref sub) false)).onRaise fun x => do let _ ← holding [.ref d, x] (runValue (.builtin "proto.let_go" {}))
      pure (.ref d)) := by
  unfold dictDisplay
  dsimp only
  rw [List.map_append, gather_run none _ (fun q run h => by
    have hne : ((run ++ [(q.1, q.2)]).length == 17) = false := by simp; omega
    simp only [hne, Bool.false_eq_true, if_false]) _ a [] (by simp; omega)]
  rw [List.map_cons, List.forIn_cons]
  have h17 : (([] ++ a ++ [(p.1, p.2)]).length == 17) = true := by simp [ha]
  simp only [h17, if_true]
  have e17 : (a ++ [(p.1, p.2)]).isEmpty = false := by simp
  simp only [e17, Bool.false_eq_true, if_false, bind_assoc, pure_bind, List.nil_append]
  refine congrArg (bind (subDict _)) (funext fun d => ?_)
  rw [← List.append_nil (List.map _ b), gather_run (some d) _ (fun q run h => by
    have hne : ((run ++ [(q.1, q.2)]).length == 17) = false := by simp; omega
    simp only [hne, Bool.false_eq_true, if_false]) [] b [] (by simpa using hb)]
  have eb : b.isEmpty = false := by cases b with | nil => exact absurd rfl hb0 | cons _ _ => rfl
  simp only [List.forIn_nil, pure_bind, List.nil_append, eb, Bool.false_eq_true, if_false, bind_assoc]

theorem litTrees_append (env : Env) (pos : Pos) (l₁ l₂ : List (Str × Int × Nat × Pos × Nat × Pos)) : litTrees env pos (l₁ ++ l₂) = litTrees env pos l₁ ++ litTrees env pos l₂ := List.map_append
theorem litTrees_length (env : Env) (pos : Pos) (l : List (Str × Int × Nat × Pos × Nat × Pos)) : (litTrees env pos l).length = l.length := List.length_map _

theorem Holds.append {v₁ v₂ : List (Str × Value)} {l₁ l₂ : List (Str × Int × Nat × Pos × Nat × Pos)} (h₁ : Holds v₁ l₁) (h₂ : Holds v₂ l₂) : Holds (v₁ ++ v₂) (l₁ ++ l₂) := by
  refine ⟨by rw [List.map_append, List.map_append, h₁.1, h₂.1], ?_⟩
  rw [List.map_append]
  replace h₁ := h₁.2
  have f₁ := h₁
  clear h₁
  obtain ⟨_, f₂⟩ := h₂
  generalize hD : (l₁.map fun q => (PyData.str q.1, PyData.int q.2.1)) = D₁ at f₁
  clear hD
  induction f₁ with
  | nil => exact f₂
  | cons hv _ ih => exact .cons hv ih
theorem Holds.length {v : List (Str × Value)} {l : List (Str × Int × Nat × Pos × Nat × Pos)} (h : Holds v l) : v.length = l.length := by
  have := congrArg List.length h.1
  simpa using this

theorem display_long {env : Env} {pos : Pos} {l₁ l₂ : List (Str × Int × Nat × Pos × Nat × Pos)} {s : Shared} {Q : Value → Shared → Prop} (h1 : l₁.length = 17) (h2 : l₂.length ≤ 15) (h20 : l₂ ≠ [])
    (hn : ((l₁ ++ l₂).map (·.1)).Nodup) (hbig : sysModules < s.heap.objs.size)
    (h : ∀ h' tk vs, Holds vs (l₁ ++ l₂) → h'.DictOf (strKind prog w) s.heap.objs.size vs → (∀ b o, s.heap.get? b = some o → h'.get? b = some o) → Q (.ref s.heap.objs.size) { s with heap := h', toks := tk }) :
    wpAny (model prog w) A (dictDisplay ((litTrees env pos (l₁ ++ l₂)).map fun p => (some p.1, p.2))) Q E s := by
  have hn1 : (l₁.map (·.1)).Nodup := by rw [List.map_append, List.nodup_append] at hn; exact hn.1
  have hn2 : (l₂.map (·.1)).Nodup := by rw [List.map_append, List.nodup_append] at hn; exact hn.2.1
  obtain ⟨a, p, rfl⟩ : ∃ a p, l₁ = a ++ [p] := by
    rcases List.eq_nil_or_concat l₁ with rfl | ⟨a, p, rfl⟩
    · cases h1
    · exact ⟨a, p, by simp⟩
  have ha : a.length = 16 := by simpa using h1
  have e : litTrees env pos (a ++ [p] ++ l₂) = litTrees env pos a ++ (eval (.Constant (.str p.1) p.2.2.1 p.2.2.2.1) env, do let x ← eval (.Constant (.int p.2.1) p.2.2.2.2.1 p.2.2.2.2.2) env; standAt pos; pure x) :: litTrees env pos l₂ := by
    rw [List.append_assoc, litTrees_append]; rfl
  rw [e, display_two (by rw [litTrees_length]; exact ha) (by rw [litTrees_length]; omega) (by
    intro hq
    have := congrArg List.length hq
    rw [litTrees_length] at this
    exact h20 (List.length_eq_zero_iff.mp this))]
  rw [show litTrees env pos a ++ [(eval (.Constant (.str p.1) p.2.2.1 p.2.2.2.1) env, do let x ← eval (.Constant (.int p.2.1) p.2.2.2.2.1 p.2.2.2.2.2) env; standAt pos; pure x)] = litTrees env pos (a ++ [p]) from (litTrees_append env pos a [p]).symm]
  have hszl := sizeLine_eq
  refine wpAny_bind (sub_long (w := w) (by rw [h1]; omega) hn1 (by rw [h1, hszl]; omega) fun h₁ t₁ v₁ H₁ d₁ s₁ => ?_)
  have n1 : s.heap.objs.size < h₁.objs.size := by
    obtain ⟨o, _, _, ho, _⟩ := d₁
    exact Heap.lt_size ho
  refine wpAny_bind (wpAny_holding (sub_short (w := w) h2 hn2 fun h₂ t₂ v₂ H₂ d₂ s₂ => ?_))
  have d₁' : h₂.DictOf (strKind prog w) s.heap.objs.size v₁ := (d₁.push _).sameBut s₂ (Nat.ne_of_lt n1)
  refine wpAny_bind (wpAny_onRaise (wpAny_holding (merge_fresh (w := w) (acc := v₁) (more := v₂) (Nat.ne_of_lt n1) (beq_eq_false_iff_ne.mpr (Nat.ne_of_gt (Nat.lt_trans hbig n1))) d₁' d₂ ?_ ?_ ?_ fun h₃ d₃ s₃ => ?_)))
  · intro hq
    have := H₁.length
    rw [hq, h1] at this
    cases this
  · rw [H₁.1, H₂.1, ← List.map_append]; exact hn
  · rw [H₁.length, H₂.length, h1, hszl]; omega
  · refine wpAny_pure (h h₃ _ (v₁ ++ v₂) (H₁.append H₂) d₃ fun b o hb => ?_)
    have l0 := Heap.lt_size hb
    rw [s₃.2 b (Nat.ne_of_lt l0), s₂.2 b (Nat.ne_of_lt (Nat.lt_trans l0 n1))]
    refine Heap.get?_push_of_some _ ?_
    rw [s₁.2 b (Nat.ne_of_lt l0)]
    exact Heap.get?_push_of_some _ hb
end
end Mine
end

section
-- part FigG
open PySem PySem.W PyProof.Rows PyProof.V PySem.Spec
namespace Mine
def itemsOf : List (Option Expr) → List Expr → List (Str × Int × Nat × Pos × Nat × Pos)
  | some (.Constant (.str x) k p) :: ks, .Constant (.int v) k' p' :: vs => (x, v, k, p, k', p') :: itemsOf ks vs
  | _, _ => []
def litOk : List (Option Expr) → List Expr → Bool
  | some (.Constant (.str _) _ _) :: ks, .Constant (.int _) _ _ :: vs => litOk ks vs
  | [], [] => true
  | _, _ => false
theorem zip_lit (env : Env) (pos : Pos) : ∀ (keys : List (Option Expr)) (values : List Expr), litOk keys values = true →
    (evalEachOpt keys env).zip ((evalEach values env).map fun v => do let x ← v; standAt pos; pure x) = (litTrees env pos (itemsOf keys values)).map fun p => (some p.1, p.2)
  | [], [], _ => rfl
  | some (.Constant (.str x) k p) :: ks, .Constant (.int v) k' p' :: vs, h => by
    have ih := zip_lit env pos ks vs h
    show (some (eval (.Constant (.str x) k p) env), (do let x ← eval (.Constant (.int v) k' p') env; standAt pos; pure x)) :: (evalEachOpt ks env).zip ((evalEach vs env).map fun v => do let x ← v; standAt pos; pure x) = _
    rw [ih]
    rfl
/-- what the figures' dict says -/
def figL : List (Str × Int) :=
  [(48, 0), (49, 1), (50, 2), (51, 3), (52, 4), (53, 5), (54, 6), (55, 7), (56, 8), (57, 9), (97, 10), (98, 11), (99, 12), (100, 13), (101, 14), (102, 15), (65, 10), (66, 11), (67, 12), (68, 13), (69, 14), (70, 15)].map fun (q : Nat × Int) => ((⟨#[q.1]⟩ : Str), q.2)
def figD : List (PyData × PyData) := figL.map fun q => (PyData.str q.1, PyData.int q.2)

section
variable {prog : Program} {w : World} {A : Around} {E : Value → Shared → Prop}
theorem Dict_long {h₀ : Heap} {L : Addr} {m : Str → Option Value} {news : List (Addr × Obj)} {s : Shared} {env : Env} {pos : Pos} {keys : List (Option Expr)} {values : List Expr} {Q : Value → Shared → Prop}
    (F : Fr h₀ L s.heap m) (N : News h₀ L s.heap news) (hlim : h₀.NoLimit) (hok : litOk keys values = true) (h17 : (itemsOf keys values).length = 22) (hn : ((itemsOf keys values).map (·.1)).Nodup)
    (hL : ((itemsOf keys values).map fun q => (q.1, q.2.1)) = figL)
    (h : ∀ d h' o vs tk, Fr h₀ L h' m → News h₀ L h' ((d, o) :: news) → (∀ p ∈ news, p.1 < d) → (d == sysModules) = false → o.IsDictOf (strKind prog w) vs → FlatPairs PyData.str vs figD → Q (.ref d) { s with heap := h', toks := tk }) :
    wpAny (model prog w) A (eval (.Dict keys values pos) env) Q E s := by
  have hD : ((itemsOf keys values).map fun q => (PyData.str q.1, PyData.int q.2.1)) = figD := by
    rw [figD, ← hL, List.map_map]; rfl
  rw [arm_eval_Dict, zip_lit env pos keys values hok]
  refine wpAny_bind (wpAny_standAt ?_)
  have hbig : sysModules < s.heap.objs.size := Nat.lt_trans (modules_low hlim) (Nat.lt_of_le_of_lt F.above F.ns.lt)
  generalize hl : itemsOf keys values = l at h17 hn hD
  rw [← List.take_append_drop 17 l] at hn hD ⊢
  refine display_long (w := w) (by rw [List.length_take]; omega) (by rw [List.length_drop]; omega) (fun hq => ?_) hn hbig fun h' tk vs H d k => ?_
  · have := congrArg List.length hq
    rw [List.length_drop, h17] at this
    cases this
  · obtain ⟨o, ho, hd⟩ := Heap.dictOf_iff.mp d
    refine h s.heap.objs.size h' o vs tk (F.keeps k) ?_ (fun p hp => Heap.lt_size (N p hp).1) (F.notModules (modules_low hlim)) hd (by rw [← hD]; exact H.2)
    intro p hp
    rcases List.mem_cons.mp hp with rfl | hp
    · exact ⟨ho, Nat.ne_of_gt F.ns.lt, none_at_size F⟩
    · exact ⟨k _ _ (N p hp).1, (N p hp).2⟩
end

local macro_rules | `(tactic| walk_at "eval Dict") => `(tactic| (k_here; (refine' Dict_long ?k1 ?k2 ?k3 ?k4 ?k5 ?k6 ?k7 ?_; (case k1 => k_asm); (case k2 => k_asm); (case k3 => exact TopRead.nolimit (by k_asm)); (case k4 => decide +kernel); (case k5 => decide +kernel); (case k6 => decide +kernel); (case k7 => decide +kernel)); intro d' h' o' vs' tk' F' N' l1 lo' hs' fs'))
set_option maxRecDepth 100000 in
set_option maxHeartbeats 400000 in
theorem figs_call : ∀ (w : World) (mean : ExcName → Option Value) (mg mb : Str → Option Value) (dp un : Nat) (gd : Option (List Code)) (cn : Str) (cs : Scope) (a : Addr) (ccd : Value) (cl : List (Str × Addr)) (outer : List Env) (A₀ : Around) (base h₀ : Heap) (L : Addr) (m : Str → Option Value) (news : List (Addr × Obj)) (s : Shared)
    (Q E : Value → Shared → Prop), Below A₀ base outer h₀ → Fr h₀ L s.heap m → (hd.heap_39 w.params).In h₀ → News h₀ L s.heap news →
    Top hd.view_39 (looseW hd.view_39 [Str.ofString "errmsg", Str.ofString "JSONDecodeError", Str.ofString "FOUR_DIGIT_HEX", Str.ofString "scan_four_digit_hex"]) mean mg mb h₀ →
    cs.kind = .function → dp + 1 < recursionLimit → un + 8 < cLine →
    (∀ d o vs h' tk', Fr h₀ L h' m → News h₀ L h' ((d, o) :: news) → (∀ p ∈ news, p.1 < d) → (d == sysModules) = false → o.IsDictOf (strKind PySem.Challenge.rw_ff5028_01.row.prog w) vs → FlatPairs PyData.str vs figD → Q (.ref d) { s with heap := h', toks := tk' }) →
    wpAny (model PySem.Challenge.rw_ff5028_01.row.prog w) (ktrTop dp un gd cn cs L a ccd cl outer) (call (.ref 88) []) Q E s := by
  k_fill
  intro w mean mg mb dp un gd cn cs a ccd cl outer A₀ base h₀ L m news s Q E B F X N T hk hd hu hret
  w_strict (
    w_top off
    k_with_none
    refine wpAny_call ?_
    k_dflt cell_enter
    k_steps
    all_goals (exact hret _ _ _ _ _ (by k_asm) (by k_asm) (by assumption) (by assumption) (by assumption) (by assumption)))
end Mine
end

section
-- part Hex
open PySem PySem.W PyProof.Rows PyProof.V PySem.Spec
namespace Mine
def hv (c : Int) : Option Int := if 48 ≤ c ∧ c ≤ 57 then some (c - 48) else if 97 ≤ c ∧ c ≤ 102 then some (c - 87) else if 65 ≤ c ∧ c ≤ 70 then some (c - 55) else none
def hfold : List Int → Int → Option Int
  | [], n => some n
  | c :: r, n => match hv c with
    | none => none
    | some v => hfold r (16 * n + v)
theorem hfold_snoc : ∀ (l : List Int) {a n c v : Int}, hfold l a = some n → hv c = some v → hfold (l ++ [c]) a = some (16 * n + v)
  | [], a, n, c, v, h, hc => by
    cases h
    show hfold [c] a = _
    simp only [hfold, hc]
  | b :: r, a, n, c, v, h, hc => by
    simp only [hfold, List.cons_append] at h ⊢
    cases hb : hv b with
    | none => rw [hb] at h; cases h
    | some x => rw [hb] at h; exact hfold_snoc r h hc
theorem hfold_none : ∀ (l : List Int) {a n c : Int} {r : List Int}, hfold l a = some n → hv c = none → hfold (l ++ c :: r) a = none
  | [], a, n, c, r, _, hc => by
    show hfold (c :: r) a = _
    simp only [hfold, hc]
  | b :: t, a, n, c, r, h, hc => by
    simp only [hfold, List.cons_append] at h ⊢
    cases hb : hv b with
    | none => rfl
    | some x => rw [hb] at h; exact hfold_none t h hc
theorem lookup_fig (c : Nat) : lookup (.str ⟨#[c]⟩) figD = (hv (c : Int)).map PyData.int := by
  by_cases h : c ∈ [48, 49, 50, 51, 52, 53, 54, 55, 56, 57, 97, 98, 99, 100, 101, 102, 65, 66, 67, 68, 69, 70]
  · simp only [List.mem_cons, List.not_mem_nil, or_false] at h
    rcases h with rfl | rfl | rfl | rfl | rfl | rfl | rfl | rfl | rfl | rfl | rfl | rfl | rfl | rfl | rfl | rfl | rfl | rfl | rfl | rfl | rfl | rfl <;> rfl
  · have hn : hv (c : Int) = none := by
      simp only [List.mem_cons, List.not_mem_nil, or_false, not_or] at h
      unfold hv
      rw [if_neg (by omega), if_neg (by omega), if_neg (by omega)]
    rw [hn]
    have key : ∀ l : List (Str × Int), (∀ q ∈ l, q.1 ≠ ⟨#[c]⟩) → lookup (.str ⟨#[c]⟩) (l.map fun q => (PyData.str q.1, PyData.int q.2)) = none := by
      intro l
      induction l with
      | nil => intro _; rfl
      | cons q r ih =>
        intro hq
        rw [List.map_cons, PySem.Spec.lookup, if_neg (by
          rw [same_str]
          simpa using hq q (.head _))]
        exact ih fun p hp => hq p (.tail _ hp)
    refine key figL fun q hq e => h ?_
    obtain ⟨p, hp, rfl⟩ := List.mem_map.mp hq
    have e' : p.1 = c := by
      have := congrArg (fun s : Str => s.cps.toList) e
      simpa using this
    rw [← e']
    have := List.mem_map_of_mem (f := Prod.fst) hp
    simpa using this
theorem fig_some {c : Nat} (h : (lookup (.str ⟨#[c]⟩) figD).isSome = true) : ∃ v, hv (c : Int) = some v := by
  rw [lookup_fig] at h
  cases hc : hv (c : Int) with
  | none => rw [hc] at h; cases h
  | some v => exact ⟨v, rfl⟩
theorem fig_none {c : Nat} (h : (lookup (.str ⟨#[c]⟩) figD).isSome = false) : hv (c : Int) = none := by
  rw [lookup_fig] at h
  cases hc : hv (c : Int) with
  | none => rfl
  | some v => rw [hc] at h; cases h
/-- an item of the figures' dict -/
theorem fig_item {prog : Program} {w : World} {A : Around} {E : Value → Shared → Prop} {s : Shared} {d : Addr} {c : Nat} {t : Tok} {Q : Value → Shared → Prop} (T : TabAt (PySem.strKind prog w) PyData.str s.heap d figD)
    (hs : (lookup (.str ⟨#[c]⟩) figD).isSome = true) (h : ∀ v u, hv (c : Int) = some v → Q (.int v u) { s with toks := s.toks + 1 }) :
    wpAny (model prog w) A (getItem (.ref d) (.str ⟨#[c]⟩ t)) Q E s := by
  obtain ⟨v, hv'⟩ := fig_some hs
  refine getItem_tab PyProof.V.same_str (strKind_is _ _ _ _) T (by rw [lookup_fig, hv']; rfl) fun v' hf => ?_
  obtain ⟨u, rfl⟩ := hf.int_inv
  exact h v u hv'

def lawRead (x : Str) (i : Int) : Option Int := if (x.length : Int) < i + 4 then none else hfold (KStt.codes (Txt.slice x (some i) (some (i + 4)))) 0
inductive ReadIs : Option Int → Value → Prop
  | none : ReadIs none .none
  | some (n : Int) (t : Tok) : ReadIs (some n) (.int n t)
end Mine
end

section
-- part ReadC
open PySem PySem.W PyProof.Rows PyProof.V PySem.Spec
namespace Mine
theorem read_end {h₀ h' : Heap} {L : Addr} {m : Str → Option Value} {news : List (Addr × Obj)} {s : Shared} {Q : Value → Shared → Prop} {x : Str} {i : Int} {v : Value} {tk' : Nat}
    (hret : ∀ v h' tk', ReadIs (lawRead x i) v → Fr h₀ L h' m → News h₀ L h' news → Q v { s with heap := h', toks := tk' }) (e : ReadIs (lawRead x i) v) (F : Fr h₀ L h' m) (N : News h₀ L h' news) :
    Q v { s with heap := h', toks := tk' } := hret v h' tk' e F N
theorem read_short {x : Str} {i : Int} (h : (x.length : Int) < i + 4) : ReadIs (lawRead x i) .none := by
  unfold lawRead; rw [if_pos h]; exact .none
theorem read_bad {x : Str} {i n : Int} {l r : List Int} {c : Nat} (h : ¬ (x.length : Int) < i + 4) (e : KStt.codes (Txt.slice x (some i) (some (i + 4))) = l ++ (c : Int) :: r) (hl : hfold l 0 = some n) (hc : (Spec.lookup (.str ⟨#[c]⟩) figD).isSome = false) : ReadIs (lawRead x i) .none := by
  unfold lawRead; rw [if_neg h, e, hfold_none l hl (fig_none hc)]; exact .none
theorem read_good {x : Str} {i n : Int} {t : Tok} (h : ¬ (x.length : Int) < i + 4) (hl : hfold (KStt.codes (Txt.slice x (some i) (some (i + 4)))) 0 = some n) : ReadIs (lawRead x i) (.int n t) := by
  unfold lawRead; rw [if_neg h, hl]; exact .some n t
local macro_rules | `(tactic| walk_at "exec For Name Subscript cons nil") => `(tactic| (k_here; (rename Fr _ _ _ _ => lF'); (with_unfolding_all refine' For_invVF lF' ?k1 ?k2 ?_; (case k1 => exact rfl); (case k2 => exact rfl); k_whole)))
local macro_rules | `(tactic| walk_at "call ref") => `(tactic| (k_here; (with_reducible show wpAny _ _ (PySem.call (Value.ref 88) _) _ _ _); (try dsimp only [List.nil_append, List.append_nil]); k_dflt (refine' figs_call _ _ _ _ _ _ _ _ _ _ _ _ _ _ _ _ _ _ _ _ _ _ ?k1 ?k2 ?k3 ?k4 ?k5 ?k6 ?k7 ?k8 ?_; (case k1 => k_asm); (case k2 => k_asm); (case k3 => k_asm); (case k4 => k_asm); (case k5 => k_asm); (case k6 => exact rfl); (case k7 => ktr_room); (case k8 => ktr_units); k_whole); intro d' o' vs' h' tk' F' N' l1 lo' hs' fs'; (try k_lt l1); (try k_fold)))
local macro_rules | `(tactic| walk_at "getItem ref str") => `(tactic| (k_here; (with_reducible show wpAny _ _ (getItem (Value.ref _) (Value.str _ _)) _ _ _); k_dflt (refine' fig_item ?k1 ?k2 ?_; (case k1 => exact TabAt.ofNews (by k_asm) (by k_mem) (by k_asm) (by k_asm) (by k_asm)); (case k2 => first | assumption | (simp only [Bool.not_eq_true, Bool.not_eq_false] at *; assumption)); k_whole); intro v' u' hv'; (try k_fold)))
set_option maxRecDepth 100000 in
set_option maxHeartbeats 2000000 in
theorem read_call : ∀ (w : World) (mean : ExcName → Option Value) (mg mb : Str → Option Value) (cn : Str) (cs : Scope) (a : Addr) (ccd : Value) (base h₀ : Heap) (L : Addr) (m : Str → Option Value) (news : List (Addr × Obj)) (s : Shared) (x : Str) (t : Tok) (i : Int) (u : Tok)
    (Q E : Value → Shared → Prop), Below callerA base [] h₀ → Fr h₀ L s.heap m → (hd.heap_39 w.params).In h₀ → News h₀ L s.heap news →
    Top hd.view_39 (looseW hd.view_39 [Str.ofString "errmsg", Str.ofString "JSONDecodeError", Str.ofString "FOUR_DIGIT_HEX", Str.ofString "scan_four_digit_hex"]) mean mg mb h₀ →
    cs.kind = .function → x.length ≤ 60 → 0 ≤ i → i ≤ 100 → 
    (∀ v h' tk', ReadIs (lawRead x i) v → Fr h₀ L h' m → News h₀ L h' news → Q v { s with heap := h', toks := tk' }) →
    wpAny (model PySem.Challenge.rw_ff5028_01.row.prog w) (callerA.deeper (envOf cn cs L a ccd)) (call (.ref 95) [.str x t, .int i u]) Q E s := by
  k_fill
  intro w mean mg mb cn cs a ccd base h₀ L m news s x t i u Q E B F X N T hk hx hi0 hi1 hret
  w_strict (
    w_top off
    k_with_none
    refine wpAny_call ?_
    k_dflt cell_enter
    k_with "state" => first | exact rfl | exact hfold_snoc _ (by assumption) (by assumption)
    k_with "pyIter str" => k_state (fun pre n => hfold pre 0 = some n) "n"
    k_steps
    all_goals (refine' read_end hret ?e1 ?e2 ?e3; (case e2 => k_asm); (case e3 => first | k_asm | exact cb_drop (by k_asm) (fun p hp => List.mem_append_left _ hp) | exact cb_drop (by k_asm) (fun p hp => List.mem_cons_of_mem _ (List.mem_append_left _ hp))); (case e1 => first | exact read_short (by assumption) | exact read_good (by assumption) (by assumption) | exact read_bad (by assumption) (by assumption) (by assumption) (by first | assumption | (simp only [Bool.not_eq_true, Bool.not_eq_false, Bool.not_eq_true'] at *; assumption)))))
end Mine
end

section
-- part SreM
open PySem PySem.W
namespace Mine
def code39 : Array Nat := #[14, 4, 0, 4, 4, 6, 0, 24, 16, 4, 4, 13, 11, 9, 0, 67043328, 126, 126, 0, 0, 0, 0, 0, 1, 6, 5, 1]
def isHexC (c : Nat) : Bool := c < 256 && (code39.getD (13 + (1 + c / 32)) 0).testBit (c % 32)
theorem acc (c : Nat) (seen : Sre.Seen) : Sre.accepts code39 11 c seen = if isHexC c = true then .ok (true, seen.add 9) else .ok (false, (seen.add 9).add 0) := rfl
theorem acc_yes {c : Nat} {seen : Sre.Seen} (h : isHexC c = true) : Sre.accepts code39 11 c seen = .ok (true, seen.add 9) := by rw [acc, if_pos h]
theorem acc_no {c : Nat} {seen : Sre.Seen} (h : isHexC c = false) : Sre.accepts code39 11 c seen = .ok (false, (seen.add 9).add 0) := by rw [acc, if_neg (by rw [h]; decide)]
theorem run_good (t : Array Nat) : ∀ (n p f : Nat) (seen : Sre.Seen), (∀ k, k < n → isHexC (t.getD (p + k) 0) = true) → ∃ s', Sre.run code39 t 11 n p f seen = .ok (f + n, s')
  | 0, p, f, seen, _ => ⟨seen, rfl⟩
  | n + 1, p, f, seen, h => by
    have h0 : isHexC (t.getD p 0) = true := h 0 (Nat.succ_pos n)
    obtain ⟨s', e⟩ := run_good t n (p + 1) (f + 1) (seen.add 9) fun k hk => by
      have := h (k + 1) (by omega)
      rwa [show p + (k + 1) = p + 1 + k from by omega] at this
    refine ⟨s', ?_⟩
    rw [Sre.run, acc_yes h0]
    show Sre.run code39 t 11 n (p + 1) (f + 1) (seen.add 9) = _
    rw [e, show f + 1 + n = f + (n + 1) from by omega]
theorem run_bad (t : Array Nat) : ∀ (n p f : Nat) (seen : Sre.Seen), (∃ k, k < n ∧ isHexC (t.getD (p + k) 0) = false) → ∃ g s', g < f + n ∧ Sre.run code39 t 11 n p f seen = .ok (g, s')
  | 0, p, f, seen, ⟨_, h, _⟩ => absurd h (Nat.not_lt_zero _)
  | n + 1, p, f, seen, ⟨k, hk, hb⟩ => by
    cases h0 : isHexC (t.getD p 0) with
    | false =>
      refine ⟨f, (seen.add 9).add 0, by omega, ?_⟩
      rw [Sre.run, acc_no h0]
      rfl
    | true =>
      have hk0 : k ≠ 0 := fun e => by rw [e, Nat.add_zero, h0] at hb; cases hb
      obtain ⟨g, s', hg, e⟩ := run_bad t n (p + 1) (f + 1) (seen.add 9) ⟨k - 1, by omega, by rw [show p + 1 + (k - 1) = p + k from by omega]; exact hb⟩
      refine ⟨g, s', by omega, ?_⟩
      rw [Sre.run, acc_yes h0]
      exact e

def start (t : Array Nat) : Sre.M := Sre.forMatch code39 t 0 0 4 false false
/-- the machine behind its first step -/
def behind (t : Array Nat) : Sre.M := (start t).step
def found (t : Array Nat) (n : Nat) (seen : Sre.Seen) : Sre.M := { behind t with seen, pos := 0 + n }
def seen₂ : Sre.Seen := ((((({} : Sre.Seen).add 14).add 6).add 43).add 24).add 13
theorem two_steps (t : Array Nat) : (behind t).step = (match Sre.run code39 t 11 4 0 0 seen₂ with
    | .error why => ({ behind t with seen := (behind t).seen.add 24 } : Sre.M).stick why
    | .ok (n, seen) => if n < 4 then ({ behind t with seen } : Sre.M).say false else (found t n seen).afterRun .giveBack n ((found t n seen).keep false)) := by kernel_rfl
theorem runFor_on {n : Nat} {m : Sre.M} (h : m.outcome = none) : Sre.M.runFor (n + 1) m = Sre.M.runFor n m.step := by
  rw [Sre.M.runFor, h]; rfl
theorem runFor_two (t : Array Nat) (n : Nat) : Sre.M.runFor (n + 2) (start t) = Sre.M.runFor n (behind t).step :=
  (runFor_on (by kernel_rfl)).trans (runFor_on (by kernel_rfl))
theorem drive_bad (t : Array Nat) (h : ∃ k, k < 4 ∧ isHexC (t.getD k 0) = false) : (Sre.M.runFor 4 (start t)).outcome = some .failed := by
  have e := two_steps t
  obtain ⟨g, s', hg, e'⟩ := run_bad t 4 0 0 seen₂ (by simpa using h)
  rw [e'] at e
  have hg' : g < 4 := by omega
  simp only [hg', if_true] at e
  rw [runFor_two t 2, e]
  kernel_rfl
theorem drive_good (t : Array Nat) (h : ∀ k, k < 4 → isHexC (t.getD k 0) = true) : (Sre.M.runFor 4 (start t)).outcome = none ∧ (Sre.M.runFor 4 (Sre.M.runFor 4 (start t))).outcome = some .matched := by
  have e := two_steps t
  obtain ⟨s', e'⟩ := run_good t 4 0 0 seen₂ (by simpa using h)
  rw [e'] at e
  have e2 : (behind t).step = (found t 4 s').afterRun .giveBack 4 ((found t 4 s').keep false) := e
  rw [runFor_two t 2, e2]
  exact ⟨by kernel_rfl, by kernel_rfl⟩
theorem short_start (t : Array Nat) (h : t.size < 4) : (Sre.M.runFor 4 (Sre.forMatch code39 t 0 0 t.size false false)).outcome = some .failed := by
  have : t.size = 0 ∨ t.size = 1 ∨ t.size = 2 ∨ t.size = 3 := by omega
  rcases this with e | e | e | e <;> rw [e] <;> kernel_rfl
theorem isHexC_hv (c : Nat) : isHexC c = (if (48 ≤ c ∧ c ≤ 57) ∨ (97 ≤ c ∧ c ≤ 102) ∨ (65 ≤ c ∧ c ≤ 70) then true else false) := by
  by_cases h : c < 256
  · have : ∀ d : Fin 256, isHexC d.val = (if (48 ≤ d.val ∧ d.val ≤ 57) ∨ (97 ≤ d.val ∧ d.val ≤ 102) ∨ (65 ≤ d.val ∧ d.val ≤ 70) then true else false) := by decide +kernel
    exact this ⟨c, h⟩
  · rw [if_neg (by omega)]
    unfold isHexC
    rw [decide_eq_false h]
    rfl
end Mine
end

section
-- part MatchC
open PySem PySem.W PyProof.Rows PyProof.V PySem.Spec PySem.Builtin.Re
namespace Mine
section
variable {prog : Program} {w : World} {A : Around} {E : Value → Shared → Prop}
set_option maxRecDepth 100000 in
theorem target_looks {h : Heap} (X : (hd.heap_39 w.params).In h) (x : Str) (t : Tok) :
    Looks (model prog w) h (reTarget "re.Pattern.match" "match" ⟨[.ref 72, .str x t], []⟩) ⟨.ref 72, .str x t, code39, x.cps, 0, 0, 0, min 9223372036854775807 x.cps.size⟩ :=
  Looks.of_peek X (by kernel_rfl)
set_option maxRecDepth 100000 in
theorem bound_looks {h : Heap} (X : (hd.heap_39 w.params).In h) (x : Str) (t : Tok) :
    Looks (model prog w) h (checkBoundCall "re.Pattern.match" ⟨[.ref 72, .str x t], []⟩) () :=
  Looks.of_peek X (by kernel_rfl)
set_option maxRecDepth 100000 in
theorem keeper_looks {h : Heap} (X : (hd.heap_39 w.params).In h) : Looks (model prog w) h (keeperOf (.ref 73)) .machine :=
  Looks.of_peek X (by kernel_rfl)
set_option maxRecDepth 100000 in
theorem call_looks {h : Heap} (X : (hd.heap_39 w.params).In h) (x : Str) (t : Tok) :
    Looks (model prog w) h (callAny (.ref 73) ⟨[.str x t], []⟩) (.again (.builtin "re.Pattern.match" ⟨[.ref 72, .str x t], []⟩)) :=
  Looks.of_peek X (by kernel_rfl)
theorem entry_match : entryFor table "re.Pattern.match" = some Builtin.«re.Pattern.match» := entryFor_of_tree (by kernel_rfl)

theorem drive_one {s : Shared} {m : Sre.M} {o : Sre.Outcome} {n : Nat} {Q : Sre.M → Shared → Prop} (h : (m.runFor 4).outcome = some o) (hq : Q (m.runFor 4) s) : wpAny (model prog w) A (reDrive (n + 1) m) Q E s := by
  rw [reDrive]
  show wpAny _ _ (if (m.runFor 4).outcome.isSome = true then pure (m.runFor 4) else (do rule "sre.turn"; reDrive n (m.runFor 4))) _ _ _
  rw [h, if_pos (show (some o).isSome = true from rfl)]
  exact wpAny_pure hq
theorem drive_on {s : Shared} {m : Sre.M} {n : Nat} {Q : Sre.M → Shared → Prop} (h : (m.runFor 4).outcome = none) (hq : wpAny (model prog w) A (reDrive n (m.runFor 4)) Q E s) : wpAny (model prog w) A (reDrive (n + 1) m) Q E s := by
  rw [reDrive]
  show wpAny _ _ (if (m.runFor 4).outcome.isSome = true then pure (m.runFor 4) else (do rule "sre.turn"; reDrive n (m.runFor 4))) _ _ _
  rw [h, if_neg (by decide)]
  exact wpAny_bind (wpAny_rule hq)
theorem rules_loop {s : Shared} {m : Sre.M} {Q : PUnit → Shared → Prop} (hq : Q PUnit.unit s) : ∀ l : List Nat, wpAny (model prog w) A (forIn l PUnit.unit fun i (_ : PUnit) => (if m.seen.has i = true then (do rule (Sre.names.getD i ""); pure (ForInStep.yield PUnit.unit)) else pure (ForInStep.yield PUnit.unit) : Sem (ForInStep PUnit))) Q E s
  | [] => by rw [List.forIn_nil]; exact wpAny_pure hq
  | i :: l => by
    rw [List.forIn_cons]
    refine wpAny_bind ?_
    by_cases h : m.seen.has i = true
    · rw [if_pos h]; exact wpAny_bind (wpAny_rule (wpAny_pure (rules_loop hq l)))
    · rw [if_neg h]; exact wpAny_pure (rules_loop hq l)
theorem to_end {s : Shared} {m m' : Sre.M} {Q : Option Sre.M → Shared → Prop} (hd : ∀ Q : Sre.M → Shared → Prop, Q m' s → wpAny (model prog w) A (reDrive (2 ^ 64) m) Q E s)
    (hq : (m'.outcome = some .matched ∧ Q (some m') s) ∨ (m'.outcome = some .failed ∧ Q none s)) : wpAny (model prog w) A (reRunToEnd m) Q E s := by
  unfold reRunToEnd
  refine wpAny_bind (hd _ ?_)
  refine wpAny_bind (rules_loop ?_ _)
  rcases hq with ⟨e, hq⟩ | ⟨e, hq⟩ <;> rw [e] <;> exact wpAny_pure hq

/-- four figures of sixteen and no more -/
def Four (x : Str) : Prop := x.cps.size = 4 ∧ ∀ k, k < 4 → isHexC (x.cps.getD k 0) = true

theorem match_call {h₀ : Heap} {L : Addr} {m : Str → Option Value} {news : List (Addr × Obj)} {s : Shared} {x : Str} {t : Tok} {Q : Value → Shared → Prop} (X : (hd.heap_39 w.params).In s.heap) (F : Fr h₀ L s.heap m) (N : News h₀ L s.heap news) (hx : x.cps.size ≤ 4)
    (hnone : ¬ Four x → Q .none s)
    (hsome : Four x → ∀ a o h', o.cls = .type "re.Match" → Fr h₀ L h' m → News h₀ L h' ((a, o) :: news) → Q (.ref a) { s with heap := h' }) :
    wpAny (model prog w) A (call (.ref 73) [.str x t]) Q E s := by
  refine wpAny_call (codeAny_of_tree ?_)
  show wpAny _ _ (callAny (.ref 73) ⟨[.str x t], []⟩) _ _ _
  refine (call_looks X x t).here ⟨Code.quiet_builtin _ (by decide +kernel), ?_⟩
  refine codeAny_builtin entry_match ?_
  unfold Builtin.«re.Pattern.match»
  refine wpAny_bind ((target_looks X x t).here ?_)
  have hmin : min 9223372036854775807 x.cps.size = x.cps.size := Nat.min_eq_right (by omega)
  dsimp only
  rw [hmin]
  unfold reAnswer
  by_cases h4 : x.cps.size = 4
  · rw [h4]
    rcases Classical.em (∀ k, k < 4 → isHexC (x.cps.getD k 0) = true) with hall | hall
    · obtain ⟨e1, e2⟩ := drive_good x.cps hall
      change wpAny _ _ (reRunToEnd (start x.cps) >>= _) _ _ _
      generalize start x.cps = m₀ at e1 e2 ⊢
      refine wpAny_bind (to_end (m' := (m₀.runFor 4).runFor 4) (fun Q hq => ?_) (.inl ⟨e2, ?_⟩))
      · rw [show (2 ^ 64 : Nat) = 18446744073709551614 + 1 + 1 from rfl]
        exact drive_on e1 (drive_one e2 hq)
      generalize (m₀.runFor 4).runFor 4 = m₁
      · dsimp only
        refine wpAny_bind ?_
        unfold reNewMatch
        dsimp only [List.range_zero, List.flatMap_nil, List.any_nil]
        change wpAny _ _ (newTuple _ >>= fun v => newFields "re.Match" [_, _, _, _, _, v]) _ _ _
        unfold newFields
        refine wpAny_bind (newTuple_N F N (fun h' F' N' => ?_) (by rw [sizeLine_eq]; show (2 : Nat) ≤ 16777216; decide))
        refine wpAny_newObj_type ?_ (by show (6 : Nat) ≤ sizeLine + 2; rw [sizeLine_eq]; decide)
        refine wpAny_pure (hsome ⟨h4, hall⟩ _ { cls := .type "re.Match", data := .fields #[.str x t, .ref 72, rawInt (0 : Nat), rawInt (4 : Nat), rawInt m₁.lastindex, .ref s.heap.objs.size] } _ rfl (F'.push _) fun p hp => ?_)
        rcases List.mem_cons.mp hp with rfl | hp
        · exact (N'.push F' _) _ (.head _)
        · exact (N'.push F' _) _ (.tail _ (.tail _ hp))
    · have hbad : ∃ k, k < 4 ∧ isHexC (x.cps.getD k 0) = false := by
        apply Classical.byContradiction
        intro hn
        refine hall fun k hk => ?_
        cases hq : isHexC (x.cps.getD k 0) with
        | true => rfl
        | false => exact absurd ⟨k, hk, hq⟩ hn
      have e := drive_bad x.cps hbad
      change wpAny _ _ (reRunToEnd (start x.cps) >>= _) _ _ _
      generalize start x.cps = m₀ at e ⊢
      refine wpAny_bind (to_end (m' := m₀.runFor 4) (fun Q hq => ?_) (.inr ⟨e, ?_⟩))
      · rw [show (2 ^ 64 : Nat) = 18446744073709551615 + 1 from rfl]
        exact drive_one e hq
      · exact wpAny_pure (hnone fun hf => hall hf.2)
  · have e := short_start x.cps (by omega)
    generalize Sre.forMatch code39 x.cps 0 0 x.cps.size false false = m₀ at e ⊢
    refine wpAny_bind (to_end (m' := m₀.runFor 4) (fun Q hq => ?_) (.inr ⟨e, ?_⟩))
    · rw [show (2 ^ 64 : Nat) = 18446744073709551615 + 1 from rfl]
      exact drive_one e hq
    · exact wpAny_pure (hnone fun hf => h4 hf.1)
end
end Mine
end

section
-- part Int16
open PySem PySem.W PySem.Calls PyProof.Rows PyProof.V PySem.Spec
namespace Mine
/-- the worth of a figure of sixteen -/
def vn (c : Nat) : Nat := if 48 ≤ c ∧ c ≤ 57 then c - 48 else if 97 ≤ c ∧ c ≤ 102 then c - 87 else c - 55
structure HexFacts (c : Nat) : Prop where
  small : c < 128
  some : c ≠ 0
  noBlank : NumText.blank c = false
  noSign : c ≠ 45 ∧ c ≠ 43
  noX : c ≠ 120 ∧ c ≠ 88
  noBar : c ≠ 95
  digit : NumText.digit? c = .some (vn c)
  below : vn c < 16
  worth : hv (c : Int) = .some (vn c : Int)
theorem hexFacts {c : Nat} (h : isHexC c = true) : HexFacts c := by
  have hc : c < 128 := by
    rw [isHexC_hv] at h
    split at h
    · omega
    · cases h
  have all : ∀ d : Fin 128, isHexC d.val = true → (d.val ≠ 0 ∧ NumText.blank d.val = false ∧ (d.val ≠ 45 ∧ d.val ≠ 43) ∧ (d.val ≠ 120 ∧ d.val ≠ 88) ∧ d.val ≠ 95 ∧ NumText.digit? d.val = .some (vn d.val) ∧ vn d.val < 16 ∧ hv (d.val : Int) = .some (vn d.val : Int)) := by decide +kernel
  obtain ⟨a, b, c', d, e, f, g, i⟩ := all ⟨c, hc⟩ h
  exact ⟨hc, a, b, c', d, e, f, g, i⟩
section
variable {a b c d : Nat}
theorem based_16 (hb : HexFacts b) : NumText.based 16 [a, b, c, d] = (16, false, [a, b, c, d]) := by
  unfold NumText.based
  split
  · rename_i p hp
    have hne : ((16 : Nat) == 0 || (16 : Nat) == p) = false := by
      refine Bool.or_eq_false_iff.mpr ⟨rfl, beq_eq_false_iff_ne.mpr fun e => ?_⟩
      subst e
      unfold NumText.prefix? at hp
      split at hp
      · rename_i q heq
        cases heq
        rw [if_neg (by simp [hb.noX.1, hb.noX.2])] at hp
        repeat' split at hp
        all_goals cases hp
      · cases hp
    rw [hne]; rfl
  · rfl
theorem digits_16 (ha : HexFacts a) (hb : HexFacts b) (hc : HexFacts c) (hd : HexFacts d) : NumText.digits? 16 [a, b, c, d] = some #[vn a, vn b, vn c, vn d] := by
  have st : ∀ {p : Array Nat × Bool} {e : Nat}, HexFacts e → NumText.step 16 p e = some (p.1.push (vn e), true) := fun {p e} h => by
    unfold NumText.step
    rw [if_neg (by simp [h.noBar]), h.digit]
    show (if vn e < 16 then _ else _) = _
    rw [if_pos h.below]
  unfold NumText.digits?
  rw [List.foldlM_cons, st ha]
  show (List.foldlM (NumText.step 16) _ [b, c, d] >>= _) = _
  rw [List.foldlM_cons, st hb]
  show (List.foldlM (NumText.step 16) _ [c, d] >>= _) = _
  rw [List.foldlM_cons, st hc]
  show (List.foldlM (NumText.step 16) _ [d] >>= _) = _
  rw [List.foldlM_cons, st hd]
  rfl
def worth4 (a b c d : Nat) : Int := ((((vn a * 16 + vn b) * 16 + vn c) * 16 + vn d : Nat) : Int)
theorem read_16 (ha : HexFacts a) (hb : HexFacts b) (hc : HexFacts c) (hd : HexFacts d) : (int_private% "readNumeral") 0 16 [a, b, c, d] = (int_private% "Numeral.value") (worth4 a b c d) := by
  have e1 : [a, b, c, d].dropWhile NumText.blank = [a, b, c, d] := by rw [List.dropWhile_cons, ha.noBlank]; rfl
  have e2 : NumText.sign [a, b, c, d] = (false, [a, b, c, d]) := by
    unfold NumText.sign
    split
    · rename_i h; cases h; exact absurd rfl ha.noSign.1
    · rename_i h; cases h; exact absurd rfl ha.noSign.2
    · rfl
  have e3 : ([a, b, c, d].reverse.dropWhile NumText.blank).reverse = [a, b, c, d] := by
    show ([d, c, b, a].dropWhile NumText.blank).reverse = _
    rw [List.dropWhile_cons, hd.noBlank]; rfl
  rw [NumText.readNumeral_eq, e1, e2]
  dsimp only
  rw [based_16 hb]
  dsimp only
  rw [e3, digits_16 ha hb hc hd]
  show (int_private% "Numeral.value") ((((((0 * 16 + vn a) * 16 + vn b) * 16 + vn c) * 16 + vn d : Nat) : Int)) = _
  rw [worth4, Nat.zero_mul, Nat.zero_add]
theorem fold_16 (ha : HexFacts a) (hb : HexFacts b) (hc : HexFacts c) (hd : HexFacts d) : hfold (KStt.codes ⟨#[a, b, c, d]⟩) 0 = some (worth4 a b c d) := by
  show hfold [(a : Int), (b : Int), (c : Int), (d : Int)] 0 = _
  simp only [hfold, ha.worth, hb.worth, hc.worth, hd.worth, worth4]
  congr 1
  push_cast
  omega
theorem wp_int16 {M : Model} {A : Around} {E : Value → Shared → Prop} {s : Shared} {Q : Value → Shared → Prop} {v : Value} (ha : HexFacts a) (hb : HexFacts b) (hc : HexFacts c) (hd : HexFacts d)
    (h : Q (.int (worth4 a b c d) s.toks) { s with toks := s.toks + 1 }) : wpAny M A ((int_private% "intFromText") v [a, b, c, d] 16) Q E s := by
  have e : [a, b, c, d].takeWhile (· != 0) = [a, b, c, d] := by simp [ha.some, hb.some, hc.some, hd.some]
  wp_delta
  rw [e]
  rw [if_pos (show [a, b, c, d].length ≤ 640 from by show (4 : Nat) ≤ 640; decide)]
  refine wpAny_bind (wpAny_pure ?_)
  dsimp only
  rw [read_16 ha hb hc hd]
  dsimp only
  rw [if_pos (by simp)]
  exact wpAny_mkInt h
theorem typeCall_int_2 (a b : Value) : checkTypeCall "int" ⟨[a, b], []⟩ = pure () := by kernel_rfl
theorem newCall_int_2 (a b : Value) : checkBuiltinCall "int.__new__" ⟨[.type "int", a, b], []⟩ = pure () := by kernel_rfl
set_option maxHeartbeats 1000000 in
theorem gives_16 {t u : Tok} (ha : HexFacts a) (hb : HexFacts b) (hc : HexFacts c) (hd : HexFacts d) : Gives (Builtin.«int.__new__» ⟨[.type "int", .str ⟨#[a, b, c, d]⟩ t, .int 16 u], []⟩) (.int (worth4 a b c d)) :=
  .of_wp fun M A E s Q h => by
    obtain ⟨hp, g, dd, tk, os⟩ := s
    have f1 := F.conv_sub_int
    have f2 := F.madeHere_int
    have hall : (⟨#[a, b, c, d]⟩ : Str).cps.all (· < 128) = true := by simp [ha.small, hb.small, hc.small, hd.small]
    have hk := KIN.Hid.mk (And.intro ha (And.intro hb (And.intro hc hd)))
    clear ha hb hc hd
    repeat (any_goals (first
      | assumption
      | ((with_reducible show wpAny _ _ ((int_private% "intFromText") _ _ _) _ _ _); rw [if_pos hall]; refine wp_int16 hk.out.1 hk.out.2.1 hk.out.2.2.1 hk.out.2.2.2 ?_)
      | wp_step))
    all_goals first | exact ⟨_, rfl, h⟩ | skip
end
theorem four_is {x : Str} (hf : Four x) : ∃ a b c d, x = ⟨#[a, b, c, d]⟩ ∧ HexFacts a ∧ HexFacts b ∧ HexFacts c ∧ HexFacts d := by
  obtain ⟨⟨l⟩⟩ := x
  obtain ⟨h4, hh⟩ := hf
  match l, h4, hh with
  | [a, b, c, d], _, hh => exact ⟨a, b, c, d, rfl, hexFacts (hh 0 (by decide)), hexFacts (hh 1 (by decide)), hexFacts (hh 2 (by decide)), hexFacts (hh 3 (by decide))⟩
/-- int(x, 16) of four figures -/
theorem call_int16 {prog : Program} {w : World} {A : Around} {E : Value → Shared → Prop} {s : Shared} {x : Str} {t u : Tok} {Q : Value → Shared → Prop} (hf : Four x)
    (h : ∀ n, hfold (KStt.codes x) 0 = some n → Q (.int n s.toks) { s with toks := s.toks + 1 }) : wpAny (model prog w) A (call (.type "int") [.str x t, .int 16 u]) Q E s := by
  obtain ⟨a, b, c, d, rfl, ha, hb, hc, hd⟩ := four_is hf
  exact callType_new F.called_int F.newNe_int (typeCall_int_2 _ _) (newCall_int_2 _ _) (fun obj => F.initArgs_range_2 obj _ _) F.entry_int_new (gives_16 ha hb hc hd).meets
    (show (Made.int (worth4 a b c d)).post _ s from ⟨rfl, h _ (fold_16 ha hb hc hd)⟩)
/-- four figures, or the reading finds none -/
theorem four_fold {x : Str} (hx : x.cps.size = 4) (hn : ¬ Four x) : hfold (KStt.codes x) 0 = none := by
  have hv_none : ∀ c : Nat, isHexC c = false → hv (c : Int) = none := fun c h => by
    rw [isHexC_hv] at h
    unfold hv
    split at h
    · cases h
    · rw [if_neg (by omega), if_neg (by omega), if_neg (by omega)]
  obtain ⟨⟨l⟩⟩ := x
  match l, hx with
  | [a, b, c, d], hx =>
    show hfold [(a : Int), (b : Int), (c : Int), (d : Int)] 0 = none
    cases ha : isHexC a with
    | false => simp only [hfold, hv_none a ha]
    | true =>
      cases hb : isHexC b with
      | false => simp only [hfold, hv_none b hb, (hexFacts ha).worth]
      | true =>
        cases hc : isHexC c with
        | false => simp only [hfold, hv_none c hc, (hexFacts ha).worth, (hexFacts hb).worth]
        | true =>
          cases hd : isHexC d with
          | false => simp only [hfold, hv_none d hd, (hexFacts ha).worth, (hexFacts hb).worth, (hexFacts hc).worth]
          | true =>
            refine absurd ⟨rfl, fun k hk => ?_⟩ hn
            match k, hk with
            | 0, _ => exact ha
            | 1, _ => exact hb
            | 2, _ => exact hc
            | 3, _ => exact hd
end Mine
end

section
-- part Exc1
open PySem PySem.W PySem.Calls PyProof.Rows PyProof.V PySem.Spec
namespace Mine
/-- an exception object of the class at 64 -/
abbrev exObj (d : Option Addr) (t : Addr) : Obj := { cls := .ref 64, dict := d, data := .fields #[.ref t, .none, .none, .none, .bool false, .none] }
abbrev bm64 : List Value := [.type "ValueError", .type "Exception", .type "BaseException", .type "object"]
abbrev cls64 : Obj := excClassObj (Str.ofString "JSONDecodeError") (Str.ofString "JSONDecodeError") 64 63 [.type "ValueError"] bm64 true [] [] false none none (some (.ref 47)) none (some (.str (Str.ofString "JSONDecodeError") 309)) (some (.str (Str.ofString "JSONDecodeError") 317)) (some (.bool true)) "ValueError.__new__"
section
variable {w : World} {h : Heap}
set_option maxRecDepth 100000 in
theorem get64 (X : (hd.heap_39 w.params).In h) : h.get? 64 = some cls64 := X 64 _ (by kernel_rfl)
set_option maxRecDepth 100000 in
theorem get61 (X : (hd.heap_39 w.params).In h) : ∃ o, h.get? 61 = some o ∧ o.cls = .type "function" := by
  have e : ((hd.heap_39 w.params).lookup 61).map (·.cls) = some (.type "function") := by kernel_rfl
  cases ho : (hd.heap_39 w.params).lookup 61 with
  | none => rw [ho] at e; cases e
  | some o =>
    rw [ho] at e
    exact ⟨o, X 61 o ho, Option.some.inj e⟩
noncomputable def es63 (P : Params) : Array DictEntry := match (hd.heap_39 P).lookup 63 with
  | some ⟨_, _, .dict es _, _⟩ => es
  | _ => #[]
set_option maxRecDepth 100000 in
theorem ns63 (X : (hd.heap_39 w.params).In h) : h.Ns 63 (fun n => nsFind (es63 w.params) n) := by
  refine ⟨{ cls := .type "dict", data := .dict (es63 w.params) 3 }, es63 w.params, 3, X 63 _ (by kernel_rfl), rfl, ?_, fun _ => rfl⟩
  have hall : (es63 w.params).all (fun e => match e.key with | .str _ _ => true | _ => false) = true := by kernel_rfl
  intro e he
  have := (Array.all_eq_true_iff_forall_mem.mp hall) e he
  cases hk : e.key with
  | str n t => exact ⟨n, t, rfl⟩
  | _ => rw [hk] at this; cases this
set_option maxRecDepth 100000 in
theorem init63 (P : Params) : nsFind (es63 P) "__init__" = some (.ref 61) := by kernel_rfl
end
section
variable {prog : Program} {w : World} {A : Around} {E : Value → Shared → Prop} {s : Shared} {h₀ : Heap} {L : Addr} {m : Str → Option Value} {news : List (Addr × Obj)}
theorem exc_make {rest : List Value} {Q : Value → Shared → Prop} (X : (hd.heap_39 w.params).In s.heap) (F : Fr h₀ L s.heap m) (N : News h₀ L s.heap news) (hrest : rest.length ≤ sizeLine)
    (k : ∀ e t h', Fr h₀ L h' m → News h₀ L h' ((e, exObj none t) :: news) → (∀ p ∈ news, p.1 ≠ e) →
      wpAny (model prog w) (A.under (.builtin "type.__call__" ⟨.ref 64 :: rest, []⟩)) (call (.ref 61) (.ref e :: rest)) (fun r s' => r = .none ∧ Q (.ref e) s') E { s with heap := h' }) :
    wpAny (model prog w) A (call (.ref 64) rest) Q E s := by
  obtain ⟨oI, hI, hIc⟩ := get61 X
  obtain ⟨hp, g, d, tk, os⟩ := s
  refine wpAny_call_exc_init (hrest := hrest) PySem.F.excBase_ValueError (get64 X) (ns63 X) (init63 w.params) hI hIc fun h' e hm => ?_
  obtain ⟨t, he, ht, htt⟩ := hm.there
  have hen : h₀.get? e = none := TT.none_of F.keep hm.new
  refine k e t h' (F.keeps hm.keeps) ?_ (fun p hp' q => ?_)
  · intro p hp'
    rcases List.mem_cons.mp hp' with rfl | hp'
    · refine ⟨he, fun q => ?_, hen⟩
      have := hm.new
      rw [show e = L from q] at this
      obtain ⟨_, _, _, hL, _⟩ := F.ns
      rw [hL] at this
      cases this
    · exact ⟨hm.keeps _ _ (N p hp').1, (N p hp').2⟩
  · have := (N p hp').1
    rw [q] at this
    have h0 := hm.new
    rw [this] at h0
    cases h0

theorem Raise_own {env : Env} {e : Expr} {pos : Pos} {Q : Flow → Shared → Prop} (hh : A.handled = none)
    (h : wpAny (model prog w) A (eval e env) (fun v s₁ => ∃ a ob vs, v = .ref a ∧ (hd.heap_39 w.params).In s₁.heap ∧ s₁.heap.get? a = some ob ∧ ob.cls = .ref 64 ∧ ob.data = .fields vs ∧ vs[1]? = some .none ∧ E (.ref a) s₁) E s) :
    wpAny (model prog w) A (exec (.Raise (some e) none pos) env) Q E s := by
  show wpAny _ A (do standAt pos; raiseStmt env (some (do let v ← eval e env; standAt pos; pure v)) none) Q E s
  refine wpAny_bind (wpAny_standAt ?_)
  unfold raiseStmt
  dsimp only
  refine wpAny_bind (wpAny_bind (wpAny_mono h (fun v s₁ h₁ => wpAny_bind (wpAny_standAt (wpAny_pure ?_))) fun _ _ x => x))
  obtain ⟨a, ob, vs, rfl, X, ha, hcls, hd', h1, hE⟩ := h₁
  have hC := get64 X
  have hcB : (Value.ref 64 :: bm64).contains (.type "BaseException") = true := by decide +kernel
  obtain ⟨hp, g, d, tk, os⟩ := s₁
  repeat (first | (with_reducible refine wpAny_loadPart_at ha ?_; first | rw [hcls] | rw [hd']) | with_reducible refine wpAny_loadPart_at hC ?_ | (with_reducible refine wpAny_isSubtype_exc hC ?_; rw [hcB]) | with_reducible refine wpAny_field ha hd' h1 ?_ | wp_step)
  exact wpAny_raiseNew_none hh hE
end
end Mine
namespace Mine
/-- an exception's own dict: what it says, and a bound of its length -/
def DictIs (od : Obj) (mA : Str → Option Value) (k : Nat) : Prop :=
  (∃ es ep, od.data = .dict es ep ∧ StrKeys es ∧ UniqKeys es ∧ ∀ name, nsFind es name = mA name) ∧ ∃ ns, Within mA ns ∧ ns.length ≤ k
theorem DictIs.ns1 {od : Obj} {mA : Str → Option Value} {k : Nat} {h : Heap} {d : Addr} (D : DictIs od mA k) (e : h.get? d = some od) : h.Ns1 d mA :=
  let ⟨⟨es, ep, h1, h2, h3, h4⟩, _⟩ := D; ⟨od, es, ep, e, h1, h2, h3, h4⟩
section
variable {prog : Program} {w : World} {A : Around} {E : Value → Shared → Prop} {s : Shared} {h₀ : Heap} {L : Addr} {m : Str → Option Value} {news : List (Addr × Obj)}

theorem fr_off {h h' : Heap} {e : Addr} (F : Fr h₀ L h m) (he : h₀.get? e = none) (heL : e ≠ L) (same : ∀ b o, b ≠ e → h.get? b = some o → h'.get? b = some o) : Fr h₀ L h' m :=
  ⟨let ⟨o, es, ep, ho, r⟩ := F.ns; ⟨o, es, ep, same L o heL.symm ho, r⟩, fun b o hb => same b o (fun q => by rw [q, he] at hb; cases hb) (F.keep b o hb), F.above⟩
theorem base_init {e t : Addr} {v : Value} {Q : Value → Shared → Prop} (X : (hd.heap_39 w.params).In s.heap) (F : Fr h₀ L s.heap m) (N : News h₀ L s.heap ((e, exObj none t) :: news)) (hr : ∀ p ∈ news, p.1 ≠ e)
    (k : ∀ t' h', Fr h₀ L h' m → News h₀ L h' ((e, exObj none t') :: news) → Q .none { s with heap := h' }) :
    wpAny (model prog w) A (call (.builtin "ValueError.__init__") [.ref e, v]) Q E s := by
  obtain ⟨he, heL, hen⟩ := N _ (.head _)
  obtain ⟨hp, g, dr, tk, os⟩ := s
  refine wpAny_call (codeAny_call_builtin PySem.F.excBase_ValueError.init.plain PySem.F.excBase_ValueError.initEntry (wpAny_check_init_sub PySem.F.excBase_ValueError (get64 X) he rfl ?_))
  unfold Builtin.«BaseException.__init__»
  change wpAny _ _ (newTuple [v] >>= fun t' => Builtin.BaseException.bexcPut (.ref e) 0 t' >>= fun _ => ret .none) _ _ _
  refine wpAny_bind (newTuple_N F N (fun h' F' N' => ?_) (by rw [sizeLine_eq]; show (1 : Nat) ≤ 16777216; decide))
  obtain ⟨he', _, _⟩ := N' _ (.tail _ (.head _))
  unfold Builtin.BaseException.bexcPut
  refine wpAny_bind (wpAny_bind (wpAny_field he' rfl rfl (wpAny_bind (wpAny_setField he' rfl (by show 0 < 6; decide) (wpAny_letGo ?_)))))
  refine wpAny_pure (k hp.objs.size _ (fr_off F' hen heL fun b o hb ho => (Heap.get?_update_other _ _ (Ne.symm hb)).trans ho) fun p hp' => ?_)
  rcases List.mem_cons.mp hp' with rfl | hp'
  · exact ⟨Heap.get?_update_self _ he' rfl, heL, hen⟩
  · exact ⟨(Heap.get?_update_other _ _ (Ne.symm (hr p hp'))).trans (N' p (.tail _ (.tail _ hp'))).1, (N' p (.tail _ (.tail _ hp'))).2⟩

/-- the names that the class and its base leave free -/
structure FreeName (w : World) (name : Str) : Prop where
  own : nsFind (es63 w.params) name = none
  base : typeLookup (.type "ValueError") name = pure none
set_option maxRecDepth 100000 in
theorem sa63 (P : Params) : nsFind (es63 P) "__setattr__" = none := by kernel_rfl

theorem exc_next {e d t : Addr} {od : Obj} {mA : Str → Option Value} {n : Nat} {name : Str} {v : Value} {Q : Unit → Shared → Prop} (X : (hd.heap_39 w.params).In s.heap) (F : Fr h₀ L s.heap m) (N : News h₀ L s.heap news)
    (he : (e, exObj (some d) t) ∈ news) (hd' : (d, od) ∈ news) (D : DictIs od mA n) (hf : FreeName w name) (hn : n ≤ 100) {rest : List (Addr × Obj)} (hr : ∀ p ∈ rest, p.1 ≠ e) (hrd : ∀ p ∈ rest, p.1 ≠ d) (hsub : ∀ p ∈ rest, p ∈ news)
    (k : ∀ od' h' tk', Fr h₀ L h' m → News h₀ L h' ((d, od') :: (e, exObj (some d) t) :: rest) → DictIs od' (fun y => if y = name then some v else mA y) (n + 1) → Q () { s with heap := h', toks := tk' }) :
    wpAny (model prog w) A (setAttr (.ref e) name v) Q E s := by
  obtain ⟨ge, eL, e0⟩ := N _ he
  obtain ⟨gd, dL, d0⟩ := N _ hd'
  have hde : d ≠ e := fun q => by
    have ge' : s.heap.get? e = some (exObj (some d) t) := ge
    have gd' : s.heap.get? d = some od := gd
    rw [q, ge'] at gd'
    obtain ⟨⟨es, ep, h1, _⟩, _⟩ := D
    rw [← Option.some.inj gd'] at h1
    cases h1
  obtain ⟨ns, hW, hl⟩ := D.2
  obtain ⟨hp, g, dr, tk, os⟩ := s
  have he64 : e ≠ 64 := fun q => by
    have ge' : hp.get? e = some (exObj (some d) t) := ge
    rw [q, get64 X] at ge'
    cases ge'
  refine store_attr (ns := ns) PySem.F.store_ValueError (get64 X) (ns63 X) (sa63 w.params) hf.own hf.base he64 ⟨exObj (some d) t, ge, rfl, (fun _ q => by cases q), .inr ⟨d, rfl, hde, D.ns1 gd⟩⟩ (fun h' tk' I' hk hsame => ?_) hW (by rw [sizeLine_eq]; omega)
  obtain ⟨o₁, g₁, c₁, dt₁, sl₁, di₁⟩ := hsame _ ge
  have e₁ : o₁ = exObj (some d) t := by
    obtain ⟨oc, od', odt, osl⟩ := o₁
    cases c₁; cases dt₁; cases sl₁; cases (di₁ d rfl)
    rfl
  subst e₁
  obtain ⟨o₂, g₂, _, _, hd₂⟩ := I'
  have e₂ : o₂ = exObj (some d) t := Option.some.inj (g₂.symm.trans g₁)
  subst e₂
  rcases hd₂ with ⟨q, _⟩ | ⟨dx, q, _, od', es, ep, h0, h1, h2, h3, h4⟩
  · cases q
  · cases q
    have same : ∀ b o, b ≠ e → b ≠ d → hp.get? b = some o → h'.get? b = some o := fun b o b1 b2 hb => hk b o b1 (fun o₀ dx h5 h6 => by
      have h7 := Option.some.inj (h5.symm.trans ge)
      rw [h7] at h6
      cases h6
      exact b2) hb
    refine k od' h' tk' ?_ ?_ ⟨⟨es, ep, h1, h2, h3, h4⟩, name :: ns, Within.cons name v hW, by rw [List.length_cons]; omega⟩
    · refine ⟨let ⟨o, es, ep, ho, r⟩ := F.ns; ⟨o, es, ep, same L o eL.symm dL.symm ho, r⟩, fun b o hb => same b o (fun q => ?_) (fun q => ?_) (F.keep b o hb), F.above⟩
      · rw [q, e0] at hb; cases hb
      · rw [q, d0] at hb; cases hb
    · intro p hp'
      rcases List.mem_cons.mp hp' with rfl | hp'
      · exact ⟨h0, dL, d0⟩
      rcases List.mem_cons.mp hp' with rfl | hp'
      · exact ⟨g₁, eL, e0⟩
      · exact ⟨same _ _ (hr p hp') (hrd p hp') (N p (hsub p hp')).1, (N p (hsub p hp')).2⟩
end
section
open Builtin Builtin.ObjectAttr
variable {prog : Program} {w : World} {A : Around} {E : Value → Shared → Prop} {h : Heap} {g : Array GenState} {d : Drawn} {t : Nat} {os : OsState}
variable {nm q : Str} {C N x : Addr} {bs bm : List Value} {sn : List Str} {sub : List Value} {ab : Bool} {col : Option Bool} {dd : Option Addr} {k0 k1 k2 k3 k5 : Option Value} {B newId sa owner : String}
  {mN : Str → Option Value} {name : Str} {v : Value}
/-- the first attribute of an exception object that has no dict yet -/
theorem first_store {o : Obj} {Q : Unit → Shared → Prop} (SF : StoreFacts B bm sa owner)
    (hC : h.get? C = some (excClassObj nm q C N bs bm true sn sub ab col dd k0 k1 k2 k3 k5 newId)) (hn : h.Ns N mN) (hns : mN "__setattr__" = none) (hna : mN name = none)
    (hB : typeLookup (.type B) name = pure none) (hx : h.get? x = some o) (hc : o.cls = .ref C) (hnc : ∀ c, o.data ≠ .cls c) (hdn : o.dict = none)
    (hq : ∀ od h' tk', h.get? h.objs.size = none → h'.get? h.objs.size = some od → DictIs od (fun y => if y = name then some v else none) 1 → h'.get? x = some { o with dict := some h.objs.size } →
      (∀ b ob, b ≠ x → h.get? b = some ob → h'.get? b = some ob) → Q () ⟨h', g, d, tk', os⟩) :
    wpAny (model prog w) A (setAttr (.ref x) name v) Q E ⟨h, g, d, t, os⟩ := by
  have f3 := SF.slot.bind (.ref x)
  have hpass := SF.passes (.ref x)
  unfold setAttr callSpecial? specialOf
  repeat (any_goals (first | assumption | (with_reducible refine wpAny_loadPart_at hx ?_; rw [hc]) | (with_reducible refine wpAny_typeLookup_exc hC hn SF.mro SF.slot.lookup ?_; rw [hns]) | wp_step))
  refine codeAny_call_builtin SF.slot.plain SF.entry (wpAny_check_sa SF hC hx hc ?_)
  unfold Builtin.«object.__setattr__»
  repeat (first | rw [refuse_eq] | (rw [refuseLoop_ref, hpass]) | (with_reducible refine wpAny_loadPart_at hx ?_; rw [hc]) | with_reducible refine wpAny_mroOf_exc hC ?_ | (with_reducible refine wpAny_typeLookup_exc hC hn SF.mro hB ?_; rw [hna]) | wp_step)
  rw [hdn]
  dsimp only
  rw [if_neg (by simp [typeHasDict])]
  have hfr : o.isFreed = false := (Heap.get?_some_iff.mp hx).2
  have hx₁ : (h.push { cls := .type "dict", data := .dict #[] }).get? x = some o := Heap.get?_push_of_some _ hx
  have hxs : x ≠ h.objs.size := Nat.ne_of_lt (Heap.lt_size hx)
  split
  · rename_i c hcd
    exact absurd hcd (hnc c)
  · refine wpAny_bind (wpAny_alloc ?_)
    refine wpAny_bind (wpAny_update hx₁ ?_)
    refine wpAny_pure ?_
    have hgd : ((h.push { cls := .type "dict", data := .dict #[] }).update x fun o => { cls := o.cls, dict := some h.objs.size, data := o.data, slots := o.slots }).get? h.objs.size
        = some { cls := .type "dict", data := .dict #[] } :=
      (Heap.get?_update_other _ _ hxs).trans (Heap.get?_push_at rfl rfl)
    have hnd : ((h.push { cls := .type "dict", data := .dict #[] }).update x fun o => { cls := o.cls, dict := some h.objs.size, data := o.data, slots := o.slots }).Ns1 h.objs.size (fun _ => none) :=
      Heap.Ns1.of_empty ⟨_, #[], _, hgd, rfl, fun e he => absurd he (by simp), fun _ => rfl⟩
    have hxd : ((h.push { cls := .type "dict", data := .dict #[] }).update x fun o => { cls := o.cls, dict := some h.objs.size, data := o.data, slots := o.slots }).get? x = some { o with dict := some h.objs.size } := by
      refine Heap.get?_update_self _ hx₁ ?_
      obtain ⟨oc, od, odt, osl⟩ := o
      cases odt <;> first | rfl | exact hfr
    have hsame : ∀ b ob, b ≠ x → h.get? b = some ob → ((h.push { cls := .type "dict", data := .dict #[] }).update x fun o => { cls := o.cls, dict := some h.objs.size, data := o.data, slots := o.slots }).get? b = some ob :=
      fun b ob hb e => (Heap.get?_update_other _ _ (Ne.symm hb)).trans (Heap.get?_push_of_some _ e)
    generalize (h.push { cls := .type "dict", data := .dict #[] }).update x (fun o => { cls := o.cls, dict := some h.objs.size, data := o.data, slots := o.slots }) = h₂ at hgd hnd hxd hsame ⊢
    show wpAny _ _ (storeInDict h.objs.size (.str name t) name v) _ _ _
    unfold storeInDict newKeyGuard
    refine wpAny_bind (wpAny_pure (wpAny_bind (wpAny_nsSet1 (s := ⟨h₂, g, d, t + 1, os⟩) hnd fun h' hn' hs => ?_)))
    obtain ⟨oD, esD, epD, hoD, hdD, hcD⟩ := hn'.count (Within.cons name v Within.nil)
    refine wpAny_bind (wpAny_lookBehind hoD (by rw [hdD]; exact pastItsLine_dict (Nat.le_trans hcD (by rw [List.length_cons, List.length_nil, sizeLine_eq]; omega))) ?_)
    obtain ⟨od, es, ep, e0, e1, e2, e3, e4⟩ := hn'
    have z := hq od h' (t + 1 + 1) (Heap.get?_none_of_le (Nat.le_refl _)) e0 ⟨⟨es, ep, e1, e2, e3, e4⟩, [name], Within.cons name v Within.nil, Nat.le_refl _⟩ ((hs.2 x hxs).trans hxd)
      fun b ob hb e => (hs.2 b (Nat.ne_of_lt (Heap.lt_size e))).trans (hsame b ob hb e)
    wp_walk
    exact z
end
section
variable {prog : Program} {w : World} {A : Around} {E : Value → Shared → Prop} {s : Shared} {h₀ : Heap} {L : Addr} {m : Str → Option Value} {news : List (Addr × Obj)}
theorem exc_first {e t : Addr} {name : Str} {v : Value} {Q : Unit → Shared → Prop} (X : (hd.heap_39 w.params).In s.heap) (F : Fr h₀ L s.heap m) (N : News h₀ L s.heap news)
    (he : (e, exObj none t) ∈ news) (hf : FreeName w name) {rest : List (Addr × Obj)} (hr : ∀ p ∈ rest, p.1 ≠ e) (hsub : ∀ p ∈ rest, p ∈ news)
    (k : ∀ d od' h' tk', Fr h₀ L h' m → News h₀ L h' ((d, od') :: (e, exObj (some d) t) :: rest) → (∀ p ∈ rest, p.1 ≠ d) → DictIs od' (fun y => if y = name then some v else none) 1 → Q () { s with heap := h', toks := tk' }) :
    wpAny (model prog w) A (setAttr (.ref e) name v) Q E s := by
  obtain ⟨ge, eL, e0⟩ := N _ he
  obtain ⟨hp, g, dr, tk, os⟩ := s
  refine first_store PySem.F.store_ValueError (get64 X) (ns63 X) (sa63 w.params) hf.own hf.base ge rfl (fun _ q => by cases q) rfl fun od h' tk' hn0 hd' D hx' hk => ?_
  have same : ∀ b o, b ≠ e → hp.get? b = some o → h'.get? b = some o := hk
  refine k hp.objs.size od h' tk' (fr_off F e0 eL same) (fun p hp' => ?_) (fun p hp' q => ?_) D
  · rcases List.mem_cons.mp hp' with rfl | hp'
    · exact ⟨hd', Nat.ne_of_gt F.ns.lt, TT.none_of F.keep hn0⟩
    rcases List.mem_cons.mp hp' with rfl | hp'
    · exact ⟨hx', eL, e0⟩
    · exact ⟨same _ _ (hr p hp') (N p (hsub p hp')).1, (N p (hsub p hp')).2⟩
  · have := (N p (hsub p hp')).1
    rw [q] at this
    rw [this] at hn0
    cases hn0
end
end Mine
end

section
-- part StrC
open PySem PySem.W PySem.Calls PyProof.Rows PyProof.V PySem.Spec PySem.StrLaws PySem.Builtin PySem.Builtin.Str
namespace Mine
theorem last_some (x y : Str) (hi limit : Nat) (hl : 1 ≤ limit) (h : (occurrences x y 0 hi limit).length ≠ 0) : ∃ i, lastOccurrence x y 0 hi = some i ∧ i ≤ hi := by
  have hA : ∃ a, StrLaws.At x y hi a ∧ a ∈ List.range' 0 (hi + 1 - 0) := by
    rw [occ_eq] at h
    rcases occ_first x y hi limit hl (List.range' 0 (hi + 1 - 0)) 0 (fun _ _ => Nat.zero_le _) with ⟨h0, _⟩ | ⟨pre, a, post, e, _, ha, _⟩
    · rw [h0] at h
      exact absurd rfl h
    · exact ⟨a, ha, by rw [e]; simp⟩
  obtain ⟨a, ha, hm⟩ := hA
  rw [last_eq]
  have key := last_run x y hi (List.range' 0 (hi + 1 - 0)) [] none (fun _ h => nomatch h) (fun _ h => nomatch h) (by simpa using List.pairwise_lt_range' (s := 0) (n := hi + 1 - 0))
  cases hr : (forIn (List.range' 0 (hi + 1 - 0)) none (lastBody x y hi)).run with
  | none => rw [hr] at key; exact absurd ha (key a (by simpa using hm))
  | some b => rw [hr] at key; exact ⟨b, rfl, by have := key.1.1; omega⟩
/-- the end of a search from 0 to p -/
def upTo (x : Str) (p : Int) : Nat := min p.toNat x.length
theorem from_zero (n : Nat) : fromIndex n 0 = 0 := rfl
theorem from_pos {n : Nat} {p : Int} (h : 0 ≤ p) : fromIndex n p = p.toNat := by
  unfold fromIndex
  rw [if_neg (by omega)]
  omega
theorem gives_count (x y : Str) {p : Int} (t u v z : Tok) (h : 0 ≤ p) : Gives («str.count» ⟨[.str x t, .str y u, .int 0 v, .int p z], []⟩) (.int (occurrences x y 0 (upTo x p) (x.length + 1)).length) := by
  show Gives (retInt (occurrences x y (fromIndex x.length 0) (min (fromIndex x.length p) x.length) (x.length + 1)).length) _
  rw [from_zero, from_pos h]
  exact .of_eq rfl
theorem gives_rindex (x y : Str) {p : Int} {i : Nat} (t u v z : Tok) (h : 0 ≤ p) (hi : lastOccurrence x y 0 (upTo x p) = some i) : Gives («str.rindex» ⟨[.str x t, .str y u, .int 0 v, .int p z], []⟩) (.int i) := by
  show Gives (match lastOccurrence x y (fromIndex x.length 0) (min (fromIndex x.length p) x.length) with
    | some i => retInt i
    | none => (do rule "str.rindex.not-found"; raiseError "ValueError" "substring not found")) _
  rw [from_zero, from_pos h]
  rw [show lastOccurrence x y 0 (min p.toNat x.length) = some i from hi]
  exact .of_eq rfl
section
variable {prog : Program} {w : World} {A : Around} {E : Value → Shared → Prop} {s : Shared} {x y : Str} {t u v z : Tok} {p : Int} {Q : Value → Shared → Prop}
theorem count4 (h : 0 ≤ p) (hq : ∀ n : Nat, n = (occurrences x y 0 (upTo x p) (x.length + 1)).length → n ≤ x.length + 1 → Q (.int (n : Int) s.toks) { s with toks := s.toks + 1 }) :
    wpAny (model prog w) A (call (.builtin "str.count") [.str x t, .str y u, .int 0 v, .int p z]) Q E s :=
  call_gives PySem.F.slot_str_count (typeIs_str _ _ _) PySem.F.entry_str_count (PySem.F.args_str_count_4 _ _ _ _) (gives_count x y t u v z h)
    (hq _ rfl (by have := occ_length_le_len x y 0 (upTo x p) (x.length + 1); have : upTo x p ≤ x.length := Nat.min_le_right _ _; omega))
theorem rindex4 (h : 0 ≤ p) (hn : (occurrences x y 0 (upTo x p) (x.length + 1)).length ≠ 0) (hq : ∀ i : Nat, (i : Int) ≤ p → Q (.int (i : Int) s.toks) { s with toks := s.toks + 1 }) :
    wpAny (model prog w) A (call (.builtin "str.rindex") [.str x t, .str y u, .int 0 v, .int p z]) Q E s := by
  obtain ⟨i, hi, hl⟩ := last_some x y (upTo x p) (x.length + 1) (by omega) hn
  exact call_gives PySem.F.slot_str_rindex (typeIs_str _ _ _) PySem.F.entry_str_rindex (PySem.F.args_str_rindex_4 _ _ _ _) (gives_rindex x y t u v z h hi)
    (hq i (by have : upTo x p ≤ p.toNat := Nat.min_le_left _ _; omega))
/-- the words hold no %r: nothing is replaced -/
theorem replace_none {hu : (occurrences x y 0 x.length (x.length + 1)).isEmpty = true} {z : Str} {v : Tok} (h : Q (.str x t) s) :
    wpAny (model prog w) A (call (.builtin "str.replace") [.str x t, .str y u, .str z v]) Q E s := by
  have e : ((occurrences x y 0 x.length (x.length + 1)).isEmpty || (y.length == 0 && z.length == 0)) = true := by rw [hu]; rfl
  refine call_gives PySem.F.slot_str_replace (typeIs_str _ _ _) PySem.F.entry_str_replace (PySem.F.args_str_replace_3 _ _ _)
    (gives_str_replace x y z t u v fun h' => by rw [e] at h'; cases h') ?_
  rw [e]
  exact h
end
end Mine
end

section
-- part LineC
open PySem PySem.W PySem.Calls PyProof.Rows PyProof.V PySem.Spec
namespace Mine
local macro_rules | `(tactic| walk_at "call builtin:str.count") => `(tactic| (k_here; (with_reducible show wpAny _ _ (PySem.call (Value.builtin _) [Value.str _ _, Value.str _ _, Value.int 0 _, Value.int _ _]) _ _ _); k_dflt (refine' count4 ?k1 ?_; (case k1 => first | assumption | omega); k_whole); intro n' hn' hl'; (try k_fold)))
local macro_rules | `(tactic| walk_at "call builtin:str.rindex") => `(tactic| (k_here; (with_reducible show wpAny _ _ (PySem.call (Value.builtin _) [Value.str _ _, Value.str _ _, Value.int 0 _, Value.int _ _]) _ _ _); k_dflt (refine' rindex4 ?k1 ?k2 ?_; (case k1 => first | assumption | omega); (case k2 => omega); k_whole); intro n' hl'; (try k_fold)))
set_option maxRecDepth 100000 in
set_option maxHeartbeats 2000000 in
theorem line_call : ∀ (w : World) (mean : ExcName → Option Value) (mg mb : Str → Option Value) (dp un : Nat) (gd : Option (List Code)) (cn : Str) (cs : Scope) (a : Addr) (ccd : Value) (cl : List (Str × Addr)) (outer : List Env) (A₀ : Around) (base h₀ : Heap) (L : Addr) (m : Str → Option Value) (news : List (Addr × Obj)) (s : Shared) (x : Str) (t : Tok) (p : Int) (u : Tok)
    (Q E : Value → Shared → Prop), Below A₀ base outer h₀ → Fr h₀ L s.heap m → (hd.heap_39 w.params).In h₀ → News h₀ L s.heap news →
    Top hd.view_39 (looseW hd.view_39 [Str.ofString "errmsg", Str.ofString "JSONDecodeError", Str.ofString "FOUR_DIGIT_HEX", Str.ofString "scan_four_digit_hex"]) mean mg mb h₀ →
    cs.kind = .function → x.length ≤ 60 → 0 ≤ p → p ≤ 100 → dp + 1 < recursionLimit → un + 8 < cLine →
    (∀ d i j ti tj h' tk', 0 ≤ i → i ≤ 100 → 0 ≤ j → j ≤ 200 → Fr h₀ L h' m → News h₀ L h' ((d, { cls := .type "tuple", data := .seq #[.int i ti, .int j tj] }) :: news) → Q (.ref d) { s with heap := h', toks := tk' }) →
    wpAny (model PySem.Challenge.rw_ff5028_01.row.prog w) (ktrTop dp un gd cn cs L a ccd cl outer) (call (.ref 38) [.str x t, .int p u]) Q E s := by
  k_fill
  intro w mean mg mb dp un gd cn cs a ccd cl outer A₀ base h₀ L m news s x t p u Q E B F X N T hk hx hp0 hp1 hd hu hret
  w_strict (
    w_top off
    k_with_none
    refine wpAny_call ?_
    k_dflt cell_enter
    k_steps
    all_goals (refine' hret _ _ _ _ _ _ _ ?_ ?_ ?_ ?_ ?fr ?nw; (case nw => assumption); (case fr => k_asm); (all_goals omega)))
end Mine
end

section
-- part ErrC
open PySem PySem.W PySem.Calls PyProof.Rows PyProof.V PySem.Spec
namespace Mine
local macro_rules | `(tactic| walk_at "call ref") => `(tactic| (k_here; (with_reducible show wpAny _ _ (PySem.call (Value.ref 38) [Value.str _ _, Value.int _ _]) _ _ _); k_dflt (refine' line_call _ _ _ _ _ _ _ _ _ _ _ _ _ _ _ _ _ _ _ _ _ _ _ _ _ _ ?k1 ?k2 ?k3 ?k4 ?k5 ?k6 ?k9 ?k10 ?k11 ?k7 ?k8 ?_; (case k1 => k_asm); (case k2 => k_asm); (case k3 => k_asm); (case k4 => k_asm); (case k5 => k_asm); (case k6 => first | exact rfl | assumption); (case k7 => ktr_room); (case k8 => ktr_units); (case k9 => assumption); (case k10 => assumption); (case k11 => assumption); k_whole); intro d' i' j' ti' tj' h' tk' i0' i1' j0' j1' F' N'; (try k_fold)))
local macro_rules | `(tactic| walk_at "call builtin:repr") => `(tactic| (k_here; (with_reducible show wpAny _ _ (PySem.call (Value.builtin _) [Value.str _ _]) _ _ _); k_dflt (refine' PySem.P.repr_of_str ?_ ?k1; (case k1 => exact repr_fits (by assumption) (by assumption) (by assumption)); k_whole); (try k_fold)))
local macro_rules | `(tactic| walk_at "call builtin:str.replace") => `(tactic| (k_here; (with_reducible show wpAny _ _ (PySem.call (Value.builtin _) [Value.str _ _, Value.str _ _, Value.str _ _]) _ _ _); k_dflt (refine' replace_none (hu := ?hu) ?_; (case hu => decide +kernel); k_whole); (try k_fold)))
set_option maxRecDepth 100000 in
set_option maxHeartbeats 2000000 in
theorem err_call : ∀ (w : World) (mean : ExcName → Option Value) (mg mb : Str → Option Value) (dp un : Nat) (gd : Option (List Code)) (cn : Str) (cs : Scope) (a : Addr) (ccd : Value) (cl : List (Str × Addr)) (outer : List Env) (A₀ : Around) (base h₀ : Heap) (L : Addr) (m : Str → Option Value) (news : List (Addr × Obj)) (s : Shared) (v : Tok) (x : Str) (t : Tok) (p : Int) (u : Tok)
    (Q E : Value → Shared → Prop), Below A₀ base outer h₀ → Fr h₀ L s.heap m → (hd.heap_39 w.params).In h₀ → News h₀ L s.heap news →
    Top hd.view_39 (looseW hd.view_39 [Str.ofString "errmsg", Str.ofString "JSONDecodeError", Str.ofString "FOUR_DIGIT_HEX", Str.ofString "scan_four_digit_hex"]) mean mg mb h₀ →
    cs.kind = .function → Small x → x.length ≤ 60 → 0 ≤ p → p ≤ 100 → dp + 2 < recursionLimit → un + 16 < cLine →
    (∀ z tz h' tk', Fr h₀ L h' m → News h₀ L h' news → Q (.str z tz) { s with heap := h', toks := tk' }) →
    wpAny (model PySem.Challenge.rw_ff5028_01.row.prog w) (ktrTop dp un gd cn cs L a ccd cl outer) (call (.ref 46) [.str (Str.ofString "Invalid \\uXXXX escape sequence") v, .str x t, .int p u] [(Str.ofString "end", .none)]) Q E s := by
  k_fill
  intro w mean mg mb dp un gd cn cs a ccd cl outer A₀ base h₀ L m news s v x t p u Q E B F X N T hk hy hx hp0 hp1 hd hu hret
  w_strict (
    w_top off
    k_with_none
    refine wpAny_call ?_
    k_dflt (refine' code_def ?k1 ?k2 ?k3 ?k4 ?k5 ?kA ?kF ?kK ?k6 ?k7 ?k8 ?k9 ?kB ?_ ?c2 ?c3 ?c4 ?c5; (case kA => exact rfl); (case kF => exact rfl); (case kK => assumption); (case k1 => k_asm); (case k2 => k_asm); (case k3 => k_asm); (case k4 => k_asm); (case k5 => k_asm); (case k6 => k_is); (case k7 => k_is); (case k8 => ktr_room); (case k9 => first | exact BindsTo.of_eq rfl | exact binds_K (by k_in) rfl (by k_is) rfl rfl rfl); (case c5 => decide); (case kB => exact locs rfl); (case c2 => exact rfl); (case c3 => exact rfl); (case c4 => exact rfl); k_whole; intro g' L' h' FG' F' N' B' X' T'; (try dsimp only); (try k_lift B'); (try k_fold))
    k_steps
    all_goals (refine' hret _ _ _ _ ?fr ?nw; (case fr => k_asm); (case nw => exact cb_drop (by k_asm) (fun p hp => by repeat (first | exact hp | refine List.mem_cons_of_mem _ ?_)))))
end Mine
end

section
-- part InitC
open PySem PySem.W PySem.Calls PyProof.Rows PyProof.V PySem.Spec
namespace Mine
section
variable {w : World}
set_option maxRecDepth 100000
theorem free_msg : FreeName w (Str.ofString "msg") := ⟨by kernel_rfl, by rw [typeLookup_type, builtinLookup_eq_fast]; kernel_rfl⟩
theorem free_doc : FreeName w (Str.ofString "doc") := ⟨by kernel_rfl, by rw [typeLookup_type, builtinLookup_eq_fast]; kernel_rfl⟩
theorem free_pos : FreeName w (Str.ofString "pos") := ⟨by kernel_rfl, by rw [typeLookup_type, builtinLookup_eq_fast]; kernel_rfl⟩
theorem free_end : FreeName w (Str.ofString "end") := ⟨by kernel_rfl, by rw [typeLookup_type, builtinLookup_eq_fast]; kernel_rfl⟩
theorem free_lineno : FreeName w (Str.ofString "lineno") := ⟨by kernel_rfl, by rw [typeLookup_type, builtinLookup_eq_fast]; kernel_rfl⟩
theorem free_colno : FreeName w (Str.ofString "colno") := ⟨by kernel_rfl, by rw [typeLookup_type, builtinLookup_eq_fast]; kernel_rfl⟩
theorem free_endlineno : FreeName w (Str.ofString "endlineno") := ⟨by kernel_rfl, by rw [typeLookup_type, builtinLookup_eq_fast]; kernel_rfl⟩
theorem free_endcolno : FreeName w (Str.ofString "endcolno") := ⟨by kernel_rfl, by rw [typeLookup_type, builtinLookup_eq_fast]; kernel_rfl⟩
theorem meta_VE : typeOf (.type "ValueError") = pure (.type "type") := by rfl
end
local macro_rules | `(tactic| walk_at "getMethod type:ValueError") => `(tactic| (k_here; refine' method_type ?F ?X ?m (by decide +kernel) ?e ?h ?_; (case F => k_asm); (case X => k_asm); (case m => exact meta_VE); (case e => k_dflt k_is); (case h => k_handed)))
local macro_rules | `(tactic| walk_at "call builtin:ValueError.__init__") => `(tactic| (k_here; k_dflt (refine' base_init ?k1 ?k2 ?k3 ?k4 ?_; (case k1 => exact Frag.In.keeps (by k_asm) (Fr.keep (by k_asm))); (case k2 => k_asm); (case k3 => k_asm); (case k4 => assumption); k_whole); intro t' h' F' N'; (try k_fold)))
local macro_rules | `(tactic| walk_at "setAttr ref") => `(tactic| (k_here; (first
  | (k_dflt (refine' exc_first ?k1 ?k2 ?k3 ?k4 ?k5 ?k6 ?k7 ?_; (case k1 => exact Frag.In.keeps (by k_asm) (Fr.keep (by k_asm))); (case k2 => k_asm); (case k3 => k_asm); (case k4 => k_mem); (case k5 => (first | exact free_msg | exact free_doc | exact free_pos | exact free_end | exact free_lineno | exact free_colno | exact free_endlineno | exact free_endcolno)); (case k6 => assumption); (case k7 => (intro p9 h9; repeat (first | exact h9 | refine List.mem_cons_of_mem _ ?_))); k_whole); intro d' od' h' tk' F' N' nd' D'; (try k_fold))
  | (k_dflt (refine' exc_next ?k1 ?k2 ?k3 ?k4 ?k5 ?k6 ?k7 ?k8 ?k9 ?k10 ?k11 ?_; (case k1 => exact Frag.In.keeps (by k_asm) (Fr.keep (by k_asm))); (case k2 => k_asm); (case k3 => k_asm); (case k4 => k_mem); (case k5 => k_mem); (case k6 => k_asm); (case k7 => (first | exact free_msg | exact free_doc | exact free_pos | exact free_end | exact free_lineno | exact free_colno | exact free_endlineno | exact free_endcolno)); (case k8 => decide); (case k9 => assumption); (case k10 => assumption); (case k11 => (intro p9 h9; repeat (first | exact h9 | refine List.mem_cons_of_mem _ ?_))); k_whole); intro od' h' tk' F' N' D'; (try k_fold)))))
local macro_rules | `(tactic| walk_at "call ref") => `(tactic| (k_here; (with_reducible show wpAny _ _ (PySem.call (Value.ref 38) [Value.str _ _, Value.int _ _]) _ _ _); k_dflt (refine' line_call _ _ _ _ _ _ _ _ _ _ _ _ _ _ _ _ _ _ _ _ _ _ _ _ _ _ ?k1 ?k2 ?k3 ?k4 ?k5 ?k6 ?k9 ?k10 ?k11 ?k7 ?k8 ?_; (case k1 => k_asm); (case k2 => k_asm); (case k3 => k_asm); (case k4 => k_asm); (case k5 => k_asm); (case k6 => first | exact rfl | assumption); (case k7 => ktr_room); (case k8 => ktr_units); (case k9 => assumption); (case k10 => assumption); (case k11 => assumption); k_whole); intro d' i' j' ti' tj' h' tk' i0' i1' j0' j1' F' N'; (try k_fold)))
local macro_rules | `(tactic| walk_at "call ref") => `(tactic| (k_here; (with_reducible show wpAny _ _ (PySem.call (Value.ref 46) [Value.str _ _, Value.str _ _, Value.int _ _] _) _ _ _); k_dflt (refine' err_call _ _ _ _ _ _ _ _ _ _ _ _ _ _ _ _ _ _ _ _ _ _ _ _ _ _ _ ?k1 ?k2 ?k3 ?k4 ?k5 ?k6 ?k12 ?k9 ?k10 ?k11 ?k7 ?k8 ?_; (case k1 => k_asm); (case k2 => k_asm); (case k3 => k_asm); (case k4 => k_asm); (case k5 => k_asm); (case k6 => first | exact rfl | assumption); (case k7 => ktr_room); (case k8 => ktr_units); (case k9 => assumption); (case k10 => assumption); (case k11 => assumption); (case k12 => assumption); k_whole); intro z' tz' h' tk' F' N'; (try k_fold)))
set_option maxRecDepth 100000 in
set_option maxHeartbeats 2000000 in
theorem init_call : ∀ (w : World) (mean : ExcName → Option Value) (mg mb : Str → Option Value) (dp un : Nat) (gd : Option (List Code)) (cn : Str) (cs : Scope) (a : Addr) (ccd : Value) (cl : List (Str × Addr)) (outer : List Env) (A₀ : Around) (base h₀ : Heap) (L : Addr) (m : Str → Option Value) (news : List (Addr × Obj)) (s : Shared) (e t₀ : Addr) (v : Tok) (x : Str) (t : Tok) (p : Int) (u : Tok)
    (Q E : Value → Shared → Prop), Below A₀ base outer h₀ → Fr h₀ L s.heap m → (hd.heap_39 w.params).In h₀ → News h₀ L s.heap ((e, exObj none t₀) :: news) → (∀ p ∈ news, p.1 ≠ e) →
    Top hd.view_39 (looseW hd.view_39 [Str.ofString "errmsg", Str.ofString "JSONDecodeError", Str.ofString "FOUR_DIGIT_HEX", Str.ofString "scan_four_digit_hex"]) mean mg mb h₀ →
    cs.kind = .function → Small x → x.length ≤ 60 → 0 ≤ p → p ≤ 100 → dp + 3 < recursionLimit → un + 24 < cLine →
    (∀ d od mA t' h' tk', DictIs od mA 8 → mA (Str.ofString "msg") = some (.str (Str.ofString "Invalid \\uXXXX escape sequence") v) → mA (Str.ofString "doc") = some (.str x t) → mA (Str.ofString "pos") = some (.int p u) → mA (Str.ofString "end") = some .none →
      Fr h₀ L h' m → News h₀ L h' ((d, od) :: (e, exObj (some d) t') :: news) → Q .none { s with heap := h', toks := tk' }) →
    wpAny (model PySem.Challenge.rw_ff5028_01.row.prog w) (ktrTop dp un gd cn cs L a ccd cl outer) (call (.ref 61) [.ref e, .str (Str.ofString "Invalid \\uXXXX escape sequence") v, .str x t, .int p u]) Q E s := by
  k_fill
  intro w mean mg mb dp un gd cn cs a ccd cl outer A₀ base h₀ L m news s e t₀ v x t p u Q E B F X N hne T hk hy hx hp0 hp1 hd hu hret
  w_strict (
    w_top off
    k_with_none
    refine wpAny_call ?_
    k_dflt (refine' code_def ?k1 ?k2 ?k3 ?k4 ?k5 ?kA ?kF ?kK ?k6 ?k7 ?k8 ?k9 ?kB ?_ ?c2 ?c3 ?c4 ?c5; (case kA => exact rfl); (case kF => exact rfl); (case kK => assumption); (case k1 => k_asm); (case k2 => k_asm); (case k3 => k_asm); (case k4 => k_asm); (case k5 => k_asm); (case k6 => k_is); (case k7 => k_is); (case k8 => ktr_room); (case k9 => first | exact BindsTo.of_eq rfl | exact binds_K (by k_in) rfl (by k_is) rfl rfl rfl); (case c5 => decide); (case kB => exact locs rfl); (case c2 => exact rfl); (case c3 => exact rfl); (case c4 => exact rfl); k_whole; intro g' L' h' FG' F' N' B' X' T'; (try dsimp only); (try k_lift B'); (try k_fold))
    k_steps
    all_goals (refine' hret _ _ _ _ _ _ ?dc ?m1 ?m2 ?m3 ?m4 ?fr ?nw; (case nw => assumption); (case fr => k_asm); (case dc => assumption); (case m1 => kernel_rfl); (case m2 => kernel_rfl); (case m3 => kernel_rfl); (case m4 => kernel_rfl)))
end Mine
end

section
-- part MildL
open PySem PySem.W PySem.Calls PyProof.Rows PyProof.V PySem.Spec
namespace Mine
/-- a step that leaves an object's dict alone and frees nothing -/
def Gentle (f : Obj → Obj) : Prop := ∀ o, (f o).dict = o.dict ∧ (o.isFreed = false → (f o).isFreed = false)
/-- a tree without calls whose writes are gentle -/
def Mild {α : Type} : Sem α → Prop
  | .pure _ => True
  | .raise _ => True
  | .unsupported _ => True
  | .finish _ => True
  | .rule _ k => Mild (k ())
  | .at _ k => Mild (k ())
  | .load _ _ k => ∀ o, Mild (k o)
  | .update _ _ f k => Gentle f ∧ Mild (k ())
  | .alloc _ k => ∀ a, Mild (k a)
  | .loadIfAlive _ k => ∀ o, Mild (k o)
  | .point _ k => Mild (k ())
  | .fresh k => ∀ t, Mild (k t)
  | .ask k => ∀ x, Mild (k x)
  | .handled _ k => ∀ x, Mild (k x)
  | .stack k => ∀ x, Mild (k x)
  | .thread k => ∀ x, Mild (k x)
  | _ => False
def DK (e : Addr) (d : Option Addr) (h : Heap) : Prop := ∃ oe, h.get? e = some oe ∧ oe.dict = d
theorem DK.update {e : Addr} {d : Option Addr} {h : Heap} {a : Addr} {f : Obj → Obj} (x : DK e d h) (g : Gentle f) : DK e d (h.update a f) := by
  obtain ⟨oe, he, hd⟩ := x
  by_cases q : a = e
  · subst q
    exact ⟨f oe, Heap.get?_update_self f he ((g oe).2 (Heap.get?_some_iff.mp he).2), ((g oe).1).trans hd⟩
  · exact ⟨oe, (Heap.get?_update_other _ _ q).trans he, hd⟩
theorem mild_wp {α : Type} {M : Model} {Γ : PySem.Ctx} {e : Addr} {d : Option Addr} : ∀ (t : Sem α), Mild t → ∀ (Q : α → Pos → Shared → Prop) (E : Value → Pos → Shared → Prop) (p : Pos) (s : Shared), DK e d s.heap →
    Sem.wp M Γ t (fun a p s' => DK e d s'.heap → Q a p s') (fun x p s' => DK e d s'.heap → E x p s') p s → Sem.wp M Γ t Q E p s := by
  intro t
  induction t with
  | pure a => intro _ Q E p s x h; unfold Sem.wp at h ⊢; exact h x
  | raise a => intro _ Q E p s x h; unfold Sem.wp at h ⊢; exact h x
  | unsupported a => intro _ Q E p s x h; unfold Sem.wp at h ⊢; exact h
  | finish a => intro _ Q E p s x h; unfold Sem.wp at h ⊢; exact h
  | rule _ k ih => intro m Q E p s x h; unfold Mild at m; unfold Sem.wp at h ⊢; exact ih _ m _ _ _ _ x h
  | «at» _ k ih => intro m Q E p s x h; unfold Mild at m; unfold Sem.wp at h ⊢; exact ih _ m _ _ _ _ x h
  | load a _ k ih => intro m Q E p s x h; unfold Mild at m; unfold Sem.wp at h ⊢; obtain ⟨o, ho, h⟩ := h; exact ⟨o, ho, ih _ (m o) _ _ _ _ x h⟩
  | update a _ f k ih => intro m Q E p s x h; unfold Mild at m; unfold Sem.wp at h ⊢; exact ⟨h.1, ih _ m.2 _ _ _ _ (x.update m.1) h.2⟩
  | alloc o k ih =>
    intro m Q E p s x h; unfold Mild at m; unfold Sem.wp at h ⊢
    exact ih _ (m _) _ _ _ _ (let ⟨oe, he, hd⟩ := x; ⟨oe, Heap.get?_push_of_some _ he, hd⟩) h
  | loadIfAlive a k ih => intro m Q E p s x h; unfold Mild at m; unfold Sem.wp at h ⊢; exact ih _ (m _) _ _ _ _ x h
  | point _ k ih => intro m Q E p s x h; unfold Mild at m; unfold Sem.wp at h ⊢; exact ih _ m _ _ _ _ x h
  | fresh k ih => intro m Q E p s x h; unfold Mild at m; unfold Sem.wp at h ⊢; exact ih _ (m _) _ _ _ _ x h
  | ask k ih => intro m Q E p s x h; unfold Mild at m; unfold Sem.wp at h ⊢; exact ih _ (m _) _ _ _ _ x h
  | handled _ k ih => intro m Q E p s x h; unfold Mild at m; unfold Sem.wp at h ⊢; exact ih _ (m _) _ _ _ _ x h
  | stack k ih => intro m Q E p s x h; unfold Mild at m; unfold Sem.wp at h ⊢; exact ih _ (m _) _ _ _ _ x h
  | thread k ih => intro m Q E p s x h; unfold Mild at m; unfold Sem.wp at h ⊢; exact ih _ (m _) _ _ _ _ x h
  | _ => intro m; unfold Mild at m; exact m.elim
theorem mild_any {α : Type} {M : Model} {A : Around} {e : Addr} {d : Option Addr} {t : Sem α} {Q : α → Shared → Prop} {E : Value → Shared → Prop} {s : Shared} (m : Mild t) (x : DK e d s.heap)
    (h : wpAny M A t (fun a s' => DK e d s'.heap → Q a s') (fun y s' => DK e d s'.heap → E y s') s) : wpAny M A t Q E s :=
  fun Γ p hΓ => mild_wp t m _ _ _ _ x (h Γ p hΓ)
theorem mild_bind {α β : Type} {f : α → Sem β} : ∀ (t : Sem α), Mild t → (∀ a, Mild (f a)) → Mild (t >>= f) := by
  intro t
  show Mild t → (∀ a, Mild (f a)) → Mild (Sem.bind t f)
  induction t with
  | pure a => intro _ hf; exact hf a
  | raise a => intro _ _; trivial
  | unsupported a => intro _ _; trivial
  | finish a => intro _ _; trivial
  | rule _ k ih => intro m hf; exact ih _ m hf
  | «at» _ k ih => intro m hf; exact ih _ m hf
  | load a _ k ih => intro m hf; exact fun o => ih _ (m o) hf
  | update a _ f k ih => intro m hf; exact ⟨m.1, ih _ m.2 hf⟩
  | alloc o k ih => intro m hf; exact fun o => ih _ (m o) hf
  | loadIfAlive a k ih => intro m hf; exact fun o => ih _ (m o) hf
  | point _ k ih => intro m hf; exact ih _ m hf
  | fresh k ih => intro m hf; exact fun o => ih _ (m o) hf
  | ask k ih => intro m hf; exact fun o => ih _ (m o) hf
  | handled _ k ih => intro m hf; exact fun o => ih _ (m o) hf
  | stack k ih => intro m hf; exact fun o => ih _ (m o) hf
  | thread k ih => intro m hf; exact fun o => ih _ (m o) hf
  | _ => intro m; exact m.elim
theorem mild_pure {α : Type} {a : α} : Mild (pure a : Sem α) := trivial
theorem mild_uns {α : Type} {a : String} : Mild (unsupported a : Sem α) := trivial
theorem mild_load {a : Addr} : Mild (load a) := fun _ => trivial
theorem mild_alloc {o : Obj} : Mild (alloc o) := fun _ => trivial
theorem mild_stack : Mild stack := fun _ => trivial
theorem mild_update {a : Addr} {f : Obj → Obj} (h : Gentle f) : Mild (update a f) := ⟨h, trivial⟩
theorem mild_fieldsOf {v : Value} : Mild (fieldsOf v) := by
  unfold fieldsOf
  split
  · refine mild_bind _ mild_load fun o => ?_
    split <;> trivial
  · exact mild_uns
theorem mild_field {v : Value} {i : Nat} : Mild (field v i) := by
  unfold field
  refine mild_bind _ mild_fieldsOf fun o => ?_
  split <;> trivial

theorem gentle_fields (f : Array Value → Array Value) : Gentle (Obj.mapFields f) := fun o => by
  obtain ⟨c, d, dt, sl⟩ := o
  cases dt <;> exact ⟨rfl, fun h => h⟩
theorem mild_setField {v x : Value} {i : Nat} : Mild (setField v i x) := by
  unfold setField
  split
  · unfold updateField
    refine mild_bind _ mild_load fun o => ?_
    split
    · split
      · exact mild_update (gentle_fields _)
      · exact mild_uns
    · exact mild_uns
  · exact mild_uns
theorem mild_setFlight {e : Value} {f : Option Addr} : Mild (setFlight e f) := by
  unfold setFlight
  refine mild_bind _ mild_field fun tb => ?_
  split
  · exact mild_setField
  · exact mild_pure
theorem mild_frameEnvs : Mild frameEnvs := mild_bind _ mild_stack fun _ => mild_pure
theorem mild_under : Mild underTheClaimsCaller := mild_bind _ mild_stack fun _ => mild_pure
theorem mild_keptBack {env : Env} {b : Bool} {l : List Env} : Mild (keptBack env b l) := by
  unfold keptBack
  split
  · split
    · exact mild_pure
    · exact mild_bind _ mild_under fun _ => mild_pure
  · exact mild_pure
theorem mild_behind {env : Env} {l : List Env} : Mild (behindIsImport env l) := by
  unfold behindIsImport
  split
  · exact mild_pure
  · split
    · exact mild_pure
    · exact mild_bind _ mild_field fun _ => mild_pure
theorem mild_ready : ∀ l : List Env, Mild (readyFrames l)
  | [] => by unfold readyFrames; exact mild_pure
  | env :: outer => by
    unfold readyFrames
    split
    · refine mild_bind _ mild_load fun o => ?_
      split
      · exact mild_pure
      · refine mild_bind _ mild_behind fun _ => mild_bind _ mild_keptBack fun _ => mild_bind _ (mild_update ?_) fun _ => mild_ready outer
        intro o
        obtain ⟨c, d, dt, sl⟩ := o
        cases dt <;> exact ⟨rfl, fun h => h⟩
    · exact mild_uns
theorem mild_frameOf {env : Env} : Mild (PySem.frameOf env) := by
  unfold PySem.frameOf
  refine mild_bind _ mild_frameEnvs fun l => mild_bind _ ?_ fun r => ?_
  · unfold frameObject
    split
    · exact mild_pure
    · exact mild_bind _ (mild_ready _) fun _ => mild_pure
  · split
    · exact mild_pure
    · exact mild_uns
theorem mild_place {f : Addr} {b : Bool} : Mild (entryPlaceOf f b) := by
  unfold entryPlaceOf
  refine mild_bind _ mild_stack fun l => ?_
  split <;> exact mild_pure
theorem mild_newEntry {a b c d e : Value} {l : List Value} : Mild (EntryCells.newEntry a b c d e l) := by
  unfold EntryCells.newEntry newFields newObj newObjAsIs
  dsimp only
  split <;> (try split) <;> first | exact mild_bind _ mild_uns fun _ => mild_bind _ mild_alloc fun _ => mild_pure | exact mild_bind _ mild_alloc fun _ => mild_pure
theorem mild_noteFrame {e : Value} {env : Env} : Mild (noteFrame e env) := by
  unfold noteFrame
  split
  · refine mild_bind _ mild_field fun head => ?_
    have last : ∀ f b, Mild (do setField e 1 (← EntryCells.newEntry head (← PySem.frameOf env) .none (rawInt f) .none (← entryPlaceOf f b))) := fun f b =>
      mild_bind _ mild_frameOf fun _ => mild_bind _ mild_place fun _ => mild_bind _ mild_newEntry fun _ => mild_setField
    split
    · refine mild_bind _ mild_field fun x => ?_
      split
      · exact mild_pure
      · exact mild_bind _ mild_setField fun _ => last _ _
    · exact last _ _
  · exact mild_uns
theorem mild_leaving {e : Value} {env : Env} : Mild (leaving env e) := mild_bind _ mild_noteFrame fun _ => mild_setFlight
end Mine
end

section
-- part ThrowL
open PySem PySem.W PySem.Calls PyProof.Rows PyProof.V PySem.Spec
namespace Mine
/-- an exception of the class at 64 in flight, with its dict -/
def Thrown (base : Heap) (l : List Env) (e d : Addr) (od : Obj) (news : List (Addr × Obj)) (h : Heap) : Prop :=
  ∃ B a0, base.StaysIn B ∧ (∀ p ∈ (d, od) :: news, B.get? p.1 = some p.2 ∧ base.get? p.1 = none) ∧ Heap.FlyingW B l e (.ref 64) a0 h ∧ DK e (some d) h
theorem leave_own {M : Model} {A : Around} {E : Value → Shared → Prop} {s' : Shared} {base g : Heap} {outer : List Env} {L a e d t : Addr} {od : Obj} {m mA : Str → Option Value} {k : Nat} {name : Str} {scope : Scope} {cd : Value} {Q : Unit → Shared → Prop}
    (K : Below A base outer g) (F : Fr g L s'.heap m) {news : List (Addr × Obj)} (N : News g L s'.heap ((d, od) :: (e, exObj (some d) t) :: news)) (hr : ∀ p ∈ news, p.1 ≠ e) (D : DictIs od mA k)
    (hQ : ∀ h', Thrown base outer e d od news h' → g.UpToSlots h' → Q () { s' with heap := h' }) (hk : scope.kind = .function := by rfl) :
    wpAny M (A.deeper (envOf name scope L a cd)) (leaving (envOf name scope L a cd) (.ref e)) Q E s' := by
  have K' := K.push (name := name) (a := a) (cd := cd) F hk
  obtain ⟨ge, eL, e0⟩ := N _ (.tail _ (.head _))
  obtain ⟨gd, dL, d0⟩ := N _ (.head _)
  have ge' : s'.heap.get? e = some (exObj (some d) t) := ge
  have gd' : s'.heap.get? d = some od := gd
  have hde : d ≠ e := fun q => by
    rw [q, ge'] at gd'
    obtain ⟨⟨es, ep, h1, _⟩, _⟩ := D
    rw [← Option.some.inj gd'] at h1
    cases h1
  have hin : ∀ env ∈ (envOf name scope L a cd :: outer), ∀ b, env.frame = some b → b ∈ e :: (envOf name scope L a cd :: outer).filterMap (·.frame) := fun env he b hb => .tail _ (List.mem_filterMap.mpr ⟨env, he, hb⟩)
  have st : base.StaysIn (hideAll s'.heap (e :: (envOf name scope L a cd :: outer).filterMap (·.frame))) := fun b o q => hideAll_get _ (K'.stays b o q) fun hm => by
    rcases List.mem_cons.mp hm with rfl | hm
    · rw [fresh_of_stays K.stays e0] at q; cases q
    · rw [(K'.frames.mem hm).1] at q; cases q
  have hd : ∀ p ∈ (d, od) :: news, (hideAll s'.heap (e :: (envOf name scope L a cd :: outer).filterMap (·.frame))).get? p.1 = some p.2 ∧ base.get? p.1 = none := fun p hp => by
    have hN : s'.heap.get? p.1 = some p.2 ∧ p.1 ≠ L ∧ g.get? p.1 = none := N p ((List.mem_cons.mp hp).elim (fun q => q ▸ .head _) fun q => .tail _ (.tail _ q))
    have hpe : p.1 ≠ e := (List.mem_cons.mp hp).elim (fun q => q ▸ hde) (hr p)
    refine ⟨hideAll_get _ hN.1 fun hm => ?_, fresh_of_stays K.stays hN.2.2⟩
    rcases List.mem_cons.mp hm with q | hm
    · exact hpe q
    obtain ⟨env, he, hf⟩ := List.mem_filterMap.mp hm
    rcases List.mem_cons.mp he with rfl | he
    · exact hN.2.1 (Option.some.inj hf).symm
    · obtain ⟨o, ho, _⟩ := (K.frames.mem (List.mem_filterMap.mpr ⟨env, he, hf⟩)).2
      rw [hN.2.2] at ho; cases ho
  refine mild_any mild_leaving ⟨_, ge', rfl⟩ ?_
  refine wpAny_leaving_firstW (a0 := .ref t) K'.stack (funFrames_hide K'.frames hin) rfl ge' (fun b o q => of_hideAll _ q) (hideAll_none _ (.head _)) rfl rfl rfl fun h' hL hDK => ?_
  obtain ⟨k1, ⟨_, _, k2⟩, k3, k4⟩ := hL
  exact hQ h' ⟨_, _, st, hd, ⟨k1, hideAll_none _ (.head _), k2, k3⟩, hDK⟩ ((Heap.UpToSlots.of_keeps F.keep).trans k4)
end Mine
end

section
-- part ScanC
open PySem PySem.W PySem.Calls PyProof.Rows PyProof.V PySem.Spec
namespace Mine
section
variable {prog : Program} {w : World} {A : Around} {E : Value → Shared → Prop} {s : Shared}
theorem callWith_B {h₀ : Heap} {pos : Pos} {env : Env} {e : Expr} {rest : List Expr} {first : List Value} {Q : Value → Shared → Prop} (_X : (hd.heap_39 w.params).In h₀)
    (h : wpAny (model prog w) A (spliced (backTo pos (starEach (e :: rest) env))) (fun vs s₁ => (hd.heap_39 w.params).In s₁.heap ∧ wpAny (model prog w) A (call (.ref 73) (first ++ vs)) Q E s₁) E s)
    (he : starEach (e :: rest) env = (false, eval e env) :: starEach rest env := by rfl) (hplain : (backTo pos (starEach rest env)).any (·.1) = false := by rfl) :
    wpAny (model prog w) A (callWith pos (.ref 73) first (backTo pos (starEach (e :: rest) env)) []) Q E s := by
  rw [he] at h ⊢
  exact callWith_of (by show ((false || (backTo pos (starEach rest env)).any (·.1)) || false) = false; rw [hplain]; rfl) (fun h X => ⟨.machine, .inr (.inl rfl), keeper_looks X⟩) (evalArgs_plain h)
theorem noBool_match : typeLookup (.type "re.Match") "__bool__" = pure none := by rw [typeLookup_type, builtinLookup_eq_fast]; kernel_rfl
theorem noLen_match : typeLookup (.type "re.Match") "__len__" = pure none := by rw [typeLookup_type, builtinLookup_eq_fast]; kernel_rfl
theorem truthy_match {h₀ : Heap} {L a : Addr} {news : List (Addr × Obj)} {o : Obj} {Q : Bool → Shared → Prop} (N : News h₀ L s.heap news) (hm : (a, o) ∈ news) (hc : o.cls = .type "re.Match")
    (h : Q true s) : wpAny (model prog w) A (truthy (.ref a)) Q E s := by
  have hT : s.TypeIs (.ref a) "re.Match" := ⟨o, (N _ hm).1, hc⟩
  unfold truthy
  refine wpAny_bind (wpAny_callSpecial?_none (name := Str.ofString "__bool__") hT noBool_match ?_)
  exact wpAny_bind (wpAny_specialOf hT noLen_match (wpAny_pure h))
theorem wt64 (C : Addr) (vals : List Value) : (Code.builtin "type.__call__" { pos := Value.ref C :: vals }).weight = 1 := by
  have := depth_under_make {} C vals
  simpa [Around.under] using this
theorem cu64 (args : Args) : (Code.builtin "type.__call__" args).cUnits = 1 := by
  first | rfl | simp [Code.cUnits, Code.frames, Code.isFrame]
theorem news_drop2 {h₀ h : Heap} {L : Addr} {q r : Addr × Obj} {news : List (Addr × Obj)} (N : News h₀ L h (q :: r :: news)) : News h₀ L h (q :: news) :=
  fun p hp => N p ((List.mem_cons.mp hp).elim (fun e => e ▸ .head _) fun h => .tail _ (.tail _ h))
theorem four_read {x : Str} {i n : Int} (h0 : 0 ≤ i) (hf : Four (Txt.slice x (some i) (some (i + 4)))) (hn : hfold (KStt.codes (Txt.slice x (some i) (some (i + 4)))) 0 = some n) : lawRead x i = some n := by
  have h := hf.1
  rw [slice_size h0 (by omega)] at h
  unfold lawRead
  rw [if_neg (by omega)]
  exact hn
theorem not_four_read {x : Str} {i : Int} (h0 : 0 ≤ i) (hf : ¬ Four (Txt.slice x (some i) (some (i + 4)))) : lawRead x i = none := by
  unfold lawRead
  split
  · rfl
  · rename_i h
    exact four_fold (by rw [slice_size h0 (by omega)]; omega) hf
end
local macro_rules | `(tactic| walk_at "callWith ref nil nil") => `(tactic| (k_here; (with_reducible show wpAny _ _ (callWith _ (Value.ref 73) _ _ _) _ _ _); k_dflt (refine' callWith_B ?k1 ?_; (case k1 => k_asm); k_whole)))
local macro_rules | `(tactic| walk_at "call ref") => `(tactic| (k_here; (with_reducible show wpAny _ _ (PySem.call (Value.ref 73) _) _ _ _); (try dsimp only [List.nil_append, List.append_nil]); k_dflt (refine' match_call ?k1 ?k2 ?k3 ?k4 ?_ ?_; (case k1 => exact Frag.In.keeps (by k_asm) (Fr.keep (by k_asm))); (case k2 => k_asm); (case k3 => k_asm); (case k4 => exact slice_small (by assumption)); k_whole); (all_goals (first | (intro hF' a' o' h' c' F' N'; (try k_fold)) | (intro hF'; (try k_fold))))))
local macro_rules | `(tactic| walk_at "truthy ref") => `(tactic| (k_here; k_dflt (refine' truthy_match ?k1 ?k2 ?k3 ?_; (case k1 => k_asm); (case k2 => k_mem); (case k3 => assumption); k_whole)))
local macro_rules | `(tactic| walk_at "call type:int") => `(tactic| (k_here; (with_reducible show wpAny _ _ (PySem.call (Value.type _) [Value.str _ _, Value.int 16 _]) _ _ _); k_dflt (refine' call_int16 ?k1 ?_; (case k1 => assumption); k_whole); intro n' hn'; (try k_fold)))
local macro_rules | `(tactic| walk_at "exec Raise some none") => `(tactic| (k_here; k_dflt (refine' Raise_own ?k1 ?_; (case k1 => exact rfl); k_whole)))
local macro_rules | `(tactic| walk_at "call ref") => `(tactic| (k_here; (with_reducible show wpAny _ _ (PySem.call (Value.ref 64) _) _ _ _); (try dsimp only [List.nil_append, List.append_nil]); k_dflt (refine' exc_make ?k1 ?k2 ?k4 ?k3 ?_; (case k1 => exact Frag.In.keeps (by k_asm) (Fr.keep (by k_asm))); (case k2 => k_asm); (case k4 => k_asm); (case k3 => (rw [sizeLine_eq]; exact Nat.le_of_ble_eq_true rfl)); k_whole); intro e' t' h' F' N' ne'; (try k_fold)))
local macro_rules | `(tactic| walk_at "call ref") => `(tactic| (k_here; (with_reducible show wpAny _ _ (PySem.call (Value.ref 61) _) _ _ _); k_dflt (refine' init_call _ _ _ _ _ _ _ _ _ _ _ _ _ _ _ _ _ _ _ _ _ _ _ _ _ _ _ _ _ ?k1 ?k2 ?k3 ?k4 ?k13 ?k5 ?k6 ?k12 ?k9 ?k10 ?k11 ?k7 ?k8 ?_; (case k1 => k_asm); (case k2 => k_asm); (case k3 => k_asm); (case k4 => k_asm); (case k5 => k_asm); (case k6 => first | exact rfl | assumption); (case k7 => (simp only [wt64, depth_deeper, depth_caller]; decide)); (case k8 => (have hcL9 := cLine_is; simp only [cu64, units_deeper, units_caller]; omega)); (case k9 => assumption); (case k10 => omega); (case k11 => omega); (case k12 => assumption); (case k13 => assumption); k_whole); intro d' od' mA' t' h' tk' D' m1' m2' m3' m4' F' N'; (try k_fold)))
set_option maxRecDepth 100000 in
set_option maxHeartbeats 2000000 in
theorem scan_call : ∀ (w : World) (mean : ExcName → Option Value) (mg mb : Str → Option Value) (cn : Str) (cs : Scope) (a : Addr) (ccd : Value) (base h₀ : Heap) (L : Addr) (m : Str → Option Value) (news : List (Addr × Obj)) (s : Shared) (x : Str) (t : Tok) (i : Int) (u : Tok)
    (Q E : Value → Shared → Prop), Below callerA base [] h₀ → Fr h₀ L s.heap m → (hd.heap_39 w.params).In h₀ → News h₀ L s.heap news →
    Top hd.view_39 (looseW hd.view_39 [Str.ofString "errmsg", Str.ofString "JSONDecodeError", Str.ofString "FOUR_DIGIT_HEX", Str.ofString "scan_four_digit_hex"]) mean mg mb h₀ →
    cs.kind = .function → Small x → x.length ≤ 60 → 2 ≤ i → i ≤ 100 →
    (∀ n d tn tp h' tk', lawRead x i = some n → Fr h₀ L h' m → News h₀ L h' ((d, { cls := .type "tuple", data := .seq #[.int n tn, .int (i + 4) tp] }) :: news) → Q (.ref d) { s with heap := h', toks := tk' }) →
    (∀ g e d od mA k v tp h' tk', lawRead x i = none → DictIs od mA k → mA (Str.ofString "msg") = some (.str (Str.ofString "Invalid \\uXXXX escape sequence") v) → mA (Str.ofString "doc") = some (.str x t) → mA (Str.ofString "pos") = some (.int (i - 2) tp) → mA (Str.ofString "end") = some .none →
      Fr h₀ L g m → g.UpToSlots h' → Thrown base [envOf cn cs L a ccd] e d od news h' → E (.ref e) { s with heap := h', toks := tk' }) →
    wpAny (model PySem.Challenge.rw_ff5028_01.row.prog w) (callerA.deeper (envOf cn cs L a ccd)) (call (.ref 81) [.str x t, .int i u]) Q E s := by
  k_fill
  intro w mean mg mb cn cs a ccd base h₀ L m news s x t i u Q E B F X N T hk hsm hx hi2 hi1 hret hraise
  have hi0 : 0 ≤ i := by omega
  w_strict (
    w_top off
    k_with_none
    refine wpAny_call ?_
    k_dflt (refine' code_def ?k1 ?k2 ?k3 ?k4 ?k5 ?kA ?kF ?kK ?k6 ?k7 ?k8 ?k9 ?kB ?_ ?c2 ?c3 ?c4 ?c5; (case kA => exact rfl); (case kF => exact rfl); (case kK => assumption); (case k1 => k_asm); (case k2 => k_asm); (case k3 => k_asm); (case k4 => k_asm); (case k5 => k_asm); (case k6 => k_is); (case k7 => k_is); (case k8 => ktr_room); (case k9 => first | exact BindsTo.of_eq rfl | exact binds_K (by k_in) rfl (by k_is) rfl rfl rfl); (case c5 => decide); (case kB => exact locs rfl); (case c2 => exact rfl); (case c3 => exact rfl); (case c4 => exact rfl); k_whole; intro g' L' h' FG' F' N' B' X' T'; (try dsimp only); (try k_lift B'); (try k_fold))
    k_steps
    all_goals (try first
      | (refine' hret _ _ _ _ _ _ (four_read hi0 (by assumption) (by assumption)) ?fr ?nw; (case fr => k_asm); (case nw => exact news_drop2 (by assumption)))
      | (rename News _ _ _ _ => N9; exact (N9 _ (.tail _ (.head _))).1)
      | exact rfl
      | (rename News _ _ _ _ => N9; rename DictIs _ _ _ => D9; refine' leave_own ?k1 ?k2 N9 (by assumption) D9 ?_; (case k1 => k_asm); (case k2 => k_asm); (intro h9 hT9 hU9); (exact hraise _ _ _ _ _ _ _ _ _ _ (not_four_read hi0 (by assumption)) D9 (by assumption) (by assumption) (by assumption) (by assumption) (by assumption) hU9 hT9))))
end Mine
end

section
-- part CatchL
open PySem PySem.W PySem.Calls PyProof.Rows PyProof.V PySem.Spec
namespace Mine
section
variable {prog : Program} {w : World} {A₀ : Around} {E : Value → Shared → Prop} {s' : Shared} {h₀ g : Heap} {outer : List Env} {L a e d : Addr} {od : Obj} {m : Str → Option Value} {name : Str} {scope : Scope} {cd : Value}
  {n : Str} {b₀ : Stmt} {suite : List Stmt} {pos np : Pos} {rest : List ExceptHandler} {Q : Flow → Shared → Prop}
  {p : Program} {loose : List Str} {mean : ExcName → Option Value} {mg mb : Str → Option Value} {x : Str}
theorem caught_mine (K : Below A₀ h₀ outer h₀) (F : Fr h₀ L g m) (hsm : g.UpToSlots s'.heap) {news : List (Addr × Obj)} (R : Thrown h₀ (envOf name scope L a cd :: outer) e d od news s'.heap) (X : (hd.heap_39 w.params).In h₀) (T : Top p loose mean mg mb h₀)
    (ex : nsIn (hd.heap_39 w.params) mainGlobals x = some (some (.ref 64)))
    (k : ∀ h' oe vs tk, Fr h₀ L h' (fun y => if y = n then some (.ref e) else m y) → News h₀ L h' ((d, od) :: (e, oe) :: news) → oe.cls = .ref 64 → oe.dict = some d → oe.data = .fields vs →
      wpAny (model prog w) ((A₀.deeper (envOf name scope L a cd)).mark (some (.ref e))) (execs (b₀ :: suite) (envOf name scope L a cd))
        (fun f s₄ => wpAny (model prog w) (A₀.deeper (envOf name scope L a cd)) (do bindName (envOf name scope L a cd) n .none; unbindBehindTheSuite (envOf name scope L a cd) n pos) (fun _ s₅ => Q f s₅) E s₄)
        (AsSuiteRaised (model prog w) ((A₀.deeper (envOf name scope L a cd)).mark (some (.ref e))) (envOf name scope L a cd) n pos (notedBy (model prog w) ((A₀.deeper (envOf name scope L a cd)).mark (some (.ref e))) (envOf name scope L a cd) (cameBackBy (model prog w) (A₀.deeper (envOf name scope L a cd)) (envOf name scope L a cd) E)))
        { s' with heap := h', toks := tk })
    (hk : scope.kind = .function := by rfl) (hlo : (envOf name scope L a cd).kindOf n = some .local := by rfl) (hx : (envOf name scope L a cd).kindOf x = some .globalImplicit := by rfl) (hd : (x == ("__debug__" : Str)) = false := by decide) :
    wpAny (model prog w) (A₀.deeper (envOf name scope L a cd)) (noteFrame (.ref e) (envOf name scope L a cd))
      (fun _ s₂ => wpAny (model prog w) (A₀.deeper (envOf name scope L a cd)) (setFlight (.ref e) none) (fun _ s₃ =>
        wpAny (model prog w) (A₀.deeper (envOf name scope L a cd)) (handleBy (.ref e) (envOf name scope L a cd) (.ExceptHandler (some (.Name x np)) (some n) (b₀ :: suite) pos :: rest)) Q E s₃) E s₂) E s' := by
  obtain ⟨B, a0, hB, hBd, hfl, hDK⟩ := R
  have hL : B.get? L = none := by
    obtain ⟨_, ⟨L', _, hf, hn', _⟩, _⟩ := hfl.2.2.1
    obtain rfl : L = L' := Option.some.inj hf
    exact hn'
  refine mild_any mild_noteFrame hDK (wpAny_looks_onW (Around.frames_deeper K.stack) rfl hfl fun h₄ hheld₄ hsm₄ hDK₄ => ?_)
  refine mild_any mild_setFlight hDK₄ (wpAny_landsW hheld₄ fun h₅ hheld hsm₅' hDK₅ => ?_)
  have hsm₅ := hsm₄.trans hsm₅'
  have hheld' := flyingW_base hB hheld
  have F₅ := F.of_stays hheld'.1 (hsm.trans hsm₅)
  obtain ⟨ob, hob, hobc⟩ := hheld'.there
  refine wpAny_handleBy_cons (codeAny_handlers_test (name_K F₅ X (topRead_of T) ex ?_ hk hx hd)) (by intro q; cases q)
  have hC₅ := F₅.keep _ _ (get64 X)
  refine wpAny_excMatches_sub_self hC₅ hob hobc (by decide +kernel) (codeAny_handlers_suite_as ?_)
  refine mild_any mild_setFlight hDK₅ (lands_againW hheld fun h₆ hfl₆ hsm₆ hDK₆ => ?_)
  have hfl₆' := flyingW_base hB hfl₆
  have F₆ := F.of_stays hfl₆'.1 ((hsm.trans hsm₅).trans hsm₆)
  obtain ⟨oe, ws, hoe, hoec, hoed, hoe0⟩ := hfl₆'.first
  obtain ⟨oe', hoe', hdict⟩ := hDK₆
  obtain rfl : oe' = oe := Option.some.inj (hoe'.symm.trans hoe)
  have heL : e ≠ L := fun q => by
    obtain ⟨o, es, ep, ho, hdd, _⟩ := F₆.ns
    rw [q, ho] at hoe
    rw [← Option.some.inj hoe, hdd] at hoed
    cases hoed
  have old : ∀ p ∈ (d, od) :: news, h₆.get? p.1 = some p.2 ∧ p.1 ≠ L ∧ h₀.get? p.1 = none := fun p hp =>
    ⟨hfl₆.1 _ _ (hBd p hp).1, (fun (z : p.1 = L) => by have := (hBd p hp).1; rw [z, hL] at this; cases this), (hBd p hp).2⟩
  have N₆ : News h₀ L h₆ ((d, od) :: (e, oe') :: news) := fun q hq => by
    rcases List.mem_cons.mp hq with rfl | hq
    · exact old _ (.head _)
    rcases List.mem_cons.mp hq with rfl | hq
    · exact ⟨hoe, heL, hfl₆'.2.1⟩
    · exact old _ (.tail _ hq)
  refine stN F₆ N₆ (fun h₇ F₇ N₇ => ?_) hk hlo
  exact k h₇ _ _ _ F₇ N₇ hoec hdict hoed
end
end Mine
end

section
-- part AttrL
open PySem PySem.W PySem.Calls PyProof.Rows PyProof.V PySem.Spec
namespace Mine
section
open Builtin Builtin.ObjectAttr
variable {prog : Program} {w : World} {A : Around} {E : Value → Shared → Prop} {h : Heap} {g : Array GenState} {dr : Drawn} {t : Nat} {os : OsState} {a d : Addr} {o : Obj} {vs : Array Value} {name : Str} {v : Value} {mA : Str → Option Value}
set_option maxRecDepth 100000 in
theorem ga63 (P : Params) : nsFind (es63 P) "__getattribute__" = none := by kernel_rfl
set_option maxRecDepth 100000 in
theorem gx63 (P : Params) : nsFind (es63 P) "__getattr__" = none := by kernel_rfl
theorem check_ga {M : Model} {nameV : Value} {Q : Unit → Shared → Prop} (X : (hd.heap_39 w.params).In h) (hx : h.get? a = some o) (hc : o.cls = .ref 64) (hq : Q () ⟨h, g, dr, t, os⟩) :
    wpAny M A (checkBuiltinCall "BaseException.__getattribute__" ⟨[.ref a, nameV], []⟩) Q E ⟨h, g, dr, t, os⟩ := by
  have hk : builtinKind "BaseException.__getattribute__" = some .slot := by decide +kernel
  have hsplit : splitId "BaseException.__getattribute__" = some ("BaseException", "__getattribute__") := by decide +kernel
  have hcB : (Value.ref 64 :: bm64).contains (.type "BaseException") = true := by decide +kernel
  have hC := get64 X
  have ha := F.args_bexc_ga (.ref a) nameV
  simp only [checkBuiltinCall, hk, hsplit]
  refine wpAny_bind ?_
  · unfold isInstance
    repeat (first | (with_reducible refine wpAny_loadPart_at hx ?_; rw [hc]) | (with_reducible refine wpAny_isSubtype_exc hC ?_; rw [hcB]) | wp_step)
    exact hq
theorem entry_ga {tk : Tok} {Q : Fin → Shared → Prop} (X : (hd.heap_39 w.params).In h) (hx : h.get? a = some o) (hc : o.cls = .ref 64) (hd : o.data = .fields vs) (hdi : o.dict = some d) (hD : h.Ns1 d mA) (hf : FreeName w name) (hm : mA name = some v)
    (hq : Q (.done (.ret v)) ⟨h, g, dr, t, os⟩) :
    wpAny (model prog w) A (Builtin.«object.__getattribute__» ⟨[.ref a, .str name tk], []⟩) Q E ⟨h, g, dr, t, os⟩ := by
  have hC := get64 X
  have hN := ns63 X
  have h1 := hf.own
  have h2 := hf.base
  unfold Builtin.«object.__getattribute__» find getOf dataDescriptor? ownThenClass inOwnDict
  repeat (any_goals (first | assumption | (with_reducible refine wpAny_loadPart_at hx ?_; first | rw [hc] | rw [hd]) | (with_reducible refine wpAny_typeLookup_exc hC hN F.attrBase_ValueError.mro h2 ?_; rw [h1]) | wp_step))
  rw [hdi]
  refine wpAny_pure ?_
  unfold inDict
  refine wpAny_nsGet (m := mA) (by obtain ⟨o, es, ep, q1, q2, q3, _, q5⟩ := hD; exact ⟨o, es, ep, q1, q2, q3, q5⟩) ?_
  rw [hm]
  repeat (any_goals (first | assumption | wp_step))
theorem by_ga {tk : Tok} {fill expr : Bool} {Q : Value → Shared → Prop} (X : (hd.heap_39 w.params).In h) (hx : h.get? a = some o) (hc : o.cls = .ref 64) (hd : o.data = .fields vs) (hdi : o.dict = some d) (hD : h.Ns1 d mA) (hf : FreeName w name) (hm : mA name = some v)
    (hv : handedOut v = pure v) (hq : Q v ⟨h, g, dr, t, os⟩) :
    wpAny (model prog w) A (getAttrBy (.ref a) (.str name tk) fill expr) Q E ⟨h, g, dr, t, os⟩ := by
  have hC := get64 X
  have hN := ns63 X
  have f3 := F.attrBase_ValueError.ga.bind (.ref a)
  have hx0 : (expr && onTheHeap (Value.builtin "BaseException.__getattribute__")) = false := by cases expr <;> rfl
  have hx2 : (Value.builtin "BaseException.__getattribute__" == Value.builtin "object.__getattribute__") = false := by decide +kernel
  have hx1 : (onTheHeap (Value.ref 64) && Value.builtin "BaseException.__getattribute__" == Value.builtin "object.__getattribute__") = false := by rw [hx2]; rfl
  repeat (any_goals (first | assumption | (with_reducible refine wpAny_loadPart_at hx ?_; rw [hc]) | (with_reducible refine wpAny_typeLookup_exc hC hN F.attrBase_ValueError.mro F.attrBase_ValueError.ga.lookup ?_; rw [ga63]) | (with_reducible refine wpAny_typeLookup_exc hC hN F.attrBase_ValueError.mro F.attrBase_ValueError.noGetattr ?_; rw [gx63]) | wp_step))
  refine codeAny_call_builtin F.attrBase_ValueError.ga.plain F.entry_bexc_ga (check_ga X hx hc (entry_ga X hx hc hd hdi hD hf hm ?_))
  show wpAny (model prog w) A (handedOut v) Q E _
  rw [hv]
  exact wpAny_pure hq
theorem exc_attr {expr : Bool} {Q : Value → Shared → Prop} (X : (hd.heap_39 w.params).In h) (hx : h.get? a = some o) (hc : o.cls = .ref 64) (hd : o.data = .fields vs) (hdi : o.dict = some d) (hD : h.Ns1 d mA) (hf : FreeName w name) (hm : mA name = some v)
    (hv : handedOut v = pure v) (hq : Q v ⟨h, g, dr, t + 1, os⟩) : wpAny (model prog w) A (getAttr (.ref a) name expr) Q E ⟨h, g, dr, t, os⟩ := by
  unfold getAttr
  repeat (any_goals (first | assumption | with_reducible apply by_ga X hx hc hd hdi hD hf hm hv | wp_step))
theorem exc_look {s : Shared} {h₀ : Heap} {L : Addr} {m : Str → Option Value} {news : List (Addr × Obj)} {od : Obj} {k : Nat} {expr : Bool} {Q : Value → Shared → Prop} (X : (hd.heap_39 w.params).In h₀) (F : Fr h₀ L s.heap m) (N : News h₀ L s.heap news) (he : (a, o) ∈ news) (hd' : (d, od) ∈ news)
    (hc : o.cls = .ref 64) (hd : o.data = .fields vs) (hdi : o.dict = some d) (D : DictIs od mA k) (hf : FreeName w name) (hm : mA name = some v) (hv : handedOut v = pure v) (hq : Q v { s with toks := s.toks + 1 }) :
    wpAny (model prog w) A (getAttr (.ref a) name expr) Q E s := by
  obtain ⟨hp, g, dr, t, os⟩ := s
  exact exc_attr (Frag.In.keeps X F.keep) (N _ he).1 hc hd hdi (D.ns1 (N _ hd').1) hf hm hv hq
theorem news_none {h₀ h : Heap} {L : Addr} {l : List (Addr × Obj)} (_N : News h₀ L h l) : News h₀ L h [] := fun _ hp => nomatch hp
end
end Mine
end

section
-- part ReadL
open PySem PySem.W PySem.Calls PyProof.Rows PyProof.V PySem.Spec
namespace Mine
theorem first_read {x : Str} : lawRead (x ++ Str.ofString "\\uBeEf12") ((x.length : Int) + 2) = some 48879 := by
  have hL : x.cps.toList.length = x.length := by simp [Str.length]
  have hl : (x ++ Str.ofString "\\uBeEf12").length = x.length + 8 := by
    rw [Str.length_append]; rfl
  unfold lawRead
  rw [if_neg (by rw [hl]; omega)]
  have e : (Txt.slice (x ++ Str.ofString "\\uBeEf12") (some ((x.length : Int) + 2)) (some ((x.length : Int) + 2 + 4))).cps.toList = [66, 101, 69, 102] := by
    rw [slice_signs (by omega) (by omega)]
    have e1 : ((x.length : Int) + 2).toNat = x.cps.toList.length + 2 := by omega
    have e2 : ((x.length : Int) + 2 + 4).toNat - ((x.length : Int) + 2).toNat = 4 := by omega
    rw [e2, e1, Str.cps_append, Array.toList_append, ← List.drop_drop, List.drop_left]
    rfl
  have e' : KStt.codes (Txt.slice (x ++ Str.ofString "\\uBeEf12") (some ((x.length : Int) + 2)) (some ((x.length : Int) + 2 + 4))) = [66, 101, 69, 102] := by
    unfold KStt.codes
    first | rw [e] | skip
    rfl
  rw [e']
  decide
end Mine
end

section
-- part LawX
open PySem PySem.W PySem.Calls PyProof.Rows PyProof.V PySem.Spec
namespace Mine
local macro_rules | `(tactic| walk_at "call ref") => `(tactic| (k_here; (with_reducible show wpAny _ _ (PySem.call (Value.ref 102) _) _ _ _); (try dsimp only [List.nil_append, List.append_nil]); k_dflt (refine' text_call _ _ _ _ _ _ _ _ _ _ _ _ _ _ _ _ _ _ _ _ _ _ _ _ _ ?k1 ?k2 ?k3 ?k4 ?k5 ?k6 ?k9 ?k10 ?k11 ?k7 ?k8 ?_; (case k1 => k_asm); (case k2 => k_asm); (case k3 => k_asm); (case k4 => k_asm); (case k5 => k_asm); (case k6 => exact rfl); (case k7 => ktr_room); (case k8 => ktr_units); (case k9 => assumption); (case k10 => assumption); (case k11 => omega); k_whole); intro x' t' h' tk' l' sm' F' N'; (try k_fold)))
theorem len_text {a : Str} (h : a.length ≤ 42) : (a ++ Str.ofString "\\uBeEf12").length ≤ 60 := by
  rw [Str.length_append]
  have : (Str.ofString "\\uBeEf12").length = 8 := rfl
  omega
local macro_rules | `(tactic| walk_at "call ref") => `(tactic| (k_here; (with_reducible show wpAny _ _ (PySem.call (Value.ref 81) _) _ _ _); (try dsimp only [List.nil_append, List.append_nil]); k_dflt (refine' scan_call _ _ _ _ _ _ _ _ _ _ _ _ _ _ _ _ _ _ _ _ ?k1 ?k2 ?k3 ?k4 ?k5 ?k6 ?k7 ?k8 ?k9 ?k10 ?_ ?_; (case k1 => k_asm); (case k2 => k_asm); (case k3 => k_asm); (case k4 => k_asm); (case k5 => k_asm); (case k6 => exact rfl); (case k7 => first | assumption | exact small_append (by assumption) small_tail); (case k8 => first | assumption | exact len_text (by assumption)); (case k9 => omega); (case k10 => omega); k_whole); (all_goals (first | (intro n' d' tn' tp' h' tk' hr' F' N'; have q9 := first_read.symm.trans hr'; have q8 := Option.some.inj q9; subst q8; (try k_fold)) | (intro g' e' d' od' mA' k' v' tp' h' tk' hr' D' m1' m2' m3' m4' FG' hU' hT'; have q9 := first_read.symm.trans hr'; cases q9) | (intro n' d' tn' tp' h' tk' hr' F' N'; (rename ReadIs _ _ => hR9; rw [hr'] at hR9; cases hR9); (try k_fold)) | (intro g' e' d' od' mA' k' v' tp' h' tk' hr' D' m1' m2' m3' m4' FG' hU' hT'; (rename ReadIs _ _ => hR9; rw [hr'] at hR9; cases hR9))))))
local macro_rules | `(tactic| walk_at "call ref") => `(tactic| (k_here; (with_reducible show wpAny _ _ (PySem.call (Value.ref 95) _) _ _ _); (try dsimp only [List.nil_append, List.append_nil]); k_dflt (refine' read_call _ _ _ _ _ _ _ _ _ _ _ _ _ _ _ _ _ _ _ _ ?k1 ?k2 ?k3 ?k4 ?k5 ?k6 ?k8 ?k9 ?k10 ?_; (case k1 => k_asm); (case k2 => k_asm); (case k3 => k_asm); (case k4 => k_asm); (case k5 => k_asm); (case k6 => exact rfl); (case k8 => first | assumption | exact len_text (by assumption)); (case k9 => omega); (case k10 => omega); k_whole); intro v' h' tk' hR' F' N'; (try k_fold)))
local macro_rules | `(tactic| walk_at "noteFrame ref") => `(tactic| (k_here; (rename Thrown _ _ _ _ _ _ _ => hT9); (with_reducible show wpAny _ _ (noteFrame _ _) (fun _ s₂ => wpAny _ _ (setFlight _ none) (fun _ s₃ => wpAny _ _ (handleBy _ _ (ExceptHandler.ExceptHandler (some (Expr.Name _ _)) (some _) _ _ :: _)) _ _ s₃) _ s₂) _ _); k_dflt (refine' caught_mine ?k1 ?k2 ?k3 hT9 ?k4 ?k5 ?k6 ?_ ?k7 ?k8 ?k9 ?k10; (case k3 => assumption); (case k1 => k_asm); (case k2 => k_asm); (case k4 => k_asm); (case k5 => k_asm); (case k6 => k_is); (case k7 => exact rfl); (case k8 => exact rfl); (case k9 => exact rfl); (case k10 => decide)); (intro h' oe' vs' tk' F' N' hc' hdi' hda'); (try k_fold)))
local macro_rules | `(tactic| walk_at "getAttr ref") => `(tactic| (k_here; k_dflt (refine' exc_look ?k1 ?k2 ?k3 ?k4 ?k5 ?k6 ?k7 ?k8 ?k9 ?k10 ?k11 ?k12 ?_; (case k1 => k_asm); (case k2 => k_asm); (case k3 => k_asm); (case k4 => k_mem); (case k6 => assumption); (case k8 => assumption); (case k7 => assumption); (case k5 => k_mem); (case k9 => k_asm); (case k10 => first | exact free_msg | exact free_doc | exact free_pos | exact free_end); (case k11 => assumption); (case k12 => exact rfl); k_whole)))
set_option maxRecDepth 100000 in
set_option maxHeartbeats 2000000 in
theorem law_holds : PySem.Challenge.rw_ff5028_01.Holds := hd (by
  w_strict (
    w_top off
    k_with_none
    k_go0
    all_goals try k_fold
    k_with "state" => first | exact rfl | assumption | exact beq_iff_eq.mpr (by omega)
    k_steps
    · have hl8 : (Str.ofString "\\uBeEf12").length = 8 := rfl
      (rename News _ _ _ _ => N9; have N8 := news_none N9)
      k_state (fun (_ : List Int) (good : Bool) => good = true) "good"
      all_goals (try (rename _ = true => hq9; subst hq9))
      all_goals k_steps))
end Mine
end

theorem PySem.Challenge.cw_ff5028_01_holds : PySem.Challenge.rw_ff5028_01.Holds := by
  exact Mine.law_holds
