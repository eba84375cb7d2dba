import PyProof.Rows.All
import Wide.All
import OpenK.AllK
import Wide.FinOn
import PyProof.StrLawsReplace
import PySem.Challenge.RW_wo0058_01
set_option Elab.async false
set_option maxHeartbeats 4000000
set_option compiler.extract_closed false
section
open PySem PySem.W PyProof.Rows PySem.Calls
open PySem.Builtin.Str (strSliceIndices occurrences partsBetween glued subAt)
set_option maxRecDepth 100000
namespace W58
/-! Texts as lists of signs: cuts, one sign replaced, counted, sought. -/
noncomputable def cut (l : List Nat) (i j : Option Int) : List Nat := (Txt.slice ⟨l.toArray⟩ i j).cps.toList
theorem cut_plain (l : List Nat) (i j : Option Int) (a b : Nat) (hab : a ≤ b) (hb : b ≤ l.length) (e : strSliceIndices i j 1 l.length = (List.range (b - a)).map fun k => a + k) : cut l i j = (l.drop a).take (b - a) := by
  unfold cut Txt.slice
  have hl : (⟨l.toArray⟩ : Str).length = l.length := by simp [Str.length]
  rw [hl, e]
  by_cases h : (((1 : Int) == 1) && (((List.range (b - a)).map fun k => a + k).length == l.length)) = true
  · rw [if_pos h]
    have : b - a = l.length := by simpa using h
    have h0 : a = 0 := by (first | lia | omega)
    subst h0
    simp only [List.drop_zero]
    rw [List.take_of_length_le (by (first | lia | omega))]
  · rw [if_neg h]
    show (List.toArray _).toList = _
    simp only [List.toList_toArray, List.getElem?_toArray]
    exact StrLaws.picks l (b - a) a (by (first | lia | omega))
theorem idx_of {i j : Option Int} {len a b : Nat} (ha : ((match i with | none => (0 : Int) | some v => max 0 (min (if v < 0 then v + (len : Int) else v) (len : Int))) : Int) = (a : Int)) (hb : ((match j with | none => (len : Int) | some v => max 0 (min (if v < 0 then v + (len : Int) else v) (len : Int))) : Int) = (b : Int)) (hab : a ≤ b) :
    strSliceIndices i j 1 len = (List.range (b - a)).map fun k => a + k := by
  have e : strSliceIndices i j 1 len = sliceRange (a : Int) (b : Int) 1 := by
    unfold strSliceIndices
    rw [← ha, ← hb]
    cases i <;> cases j <;> rfl
  rw [e]
  unfold sliceRange
  have e2 : (if (1 : Int) > 0 then (if (a : Int) < b then ((b : Int) - a + 1 - 1) / 1 else 0) else (if (a : Int) > b then ((a : Int) - b - 1 - 1) / (-1) else 0)) = ((b - a : Nat) : Int) := by
    rw [if_pos (by decide)]
    split
    · rw [Int.ediv_one]; (first | lia | omega)
    · (first | lia | omega)
  rw [e2]
  refine List.map_congr_left fun k _ => ?_
  show ((a : Int) + 1 * (k : Int)).toNat = a + k
  (first | lia | omega)
theorem cut_up (l : List Nat) (k : Nat) : cut l none (some k) = l.take k := by
  have := cut_plain l none (some k) 0 (min k l.length) (by (first | lia | omega)) (by (first | lia | omega)) (idx_of rfl (by show max 0 (min (if (k : Int) < 0 then (k : Int) + l.length else k) (l.length : Int)) = _; split <;> (first | lia | omega)) (by (first | lia | omega)))
  rw [this]
  simp only [List.drop_zero, Nat.sub_zero]
  by_cases h : k ≤ l.length
  · rw [Nat.min_eq_left h]
  · rw [Nat.min_eq_right (by (first | lia | omega)), List.take_of_length_le (Nat.le_refl _), List.take_of_length_le (by (first | lia | omega))]
theorem cut_from (l : List Nat) (k : Nat) : cut l (some k) none = l.drop k := by
  by_cases h : k ≤ l.length
  · have := cut_plain l (some k) none k l.length h (Nat.le_refl _) (idx_of (by show max 0 (min (if (k : Int) < 0 then (k : Int) + l.length else k) (l.length : Int)) = _; split <;> (first | lia | omega)) rfl h)
    rw [this]
    rw [List.take_of_length_le (by simp)]
  · have := cut_plain l (some k) none l.length l.length (Nat.le_refl _) (Nat.le_refl _) (idx_of (by show max 0 (min (if (k : Int) < 0 then (k : Int) + l.length else k) (l.length : Int)) = _; split <;> (first | lia | omega)) rfl (Nat.le_refl _))
    rw [this, List.drop_eq_nil_of_le (show l.length ≤ k by (first | lia | omega))]
    simp
theorem cut_mid (l : List Nat) (a b : Nat) (hab : a ≤ b) : cut l (some a) (some b) = (l.drop a).take (b - a) := by
  have := cut_plain l (some a) (some b) (min a l.length) (min b l.length) (by (first | lia | omega)) (by (first | lia | omega)) (idx_of (by show max 0 (min (if (a : Int) < 0 then (a : Int) + l.length else a) (l.length : Int)) = _; split <;> (first | lia | omega)) (by show max 0 (min (if (b : Int) < 0 then (b : Int) + l.length else b) (l.length : Int)) = _; split <;> (first | lia | omega)) (by (first | lia | omega)))
  rw [this]
  by_cases h : a ≤ l.length
  · rw [Nat.min_eq_left h]
    by_cases h2 : b ≤ l.length
    · rw [Nat.min_eq_left h2]
    · rw [Nat.min_eq_right (by (first | lia | omega)), List.take_of_length_le (by simp), List.take_of_length_le (by simp; (first | lia | omega))]
  · rw [List.drop_eq_nil_of_le (show l.length ≤ min a l.length by (first | lia | omega)), List.drop_eq_nil_of_le (show l.length ≤ a by (first | lia | omega))]
    simp
theorem cut_init (l : List Nat) : cut l none (some (-1)) = l.dropLast := by
  have := cut_plain l none (some (-1)) 0 (l.length - 1) (by (first | lia | omega)) (by (first | lia | omega)) (idx_of rfl (by show max 0 (min (if (-1 : Int) < 0 then (-1 : Int) + l.length else -1) (l.length : Int)) = _; rw [if_pos (by decide)]; (first | lia | omega)) (by (first | lia | omega)))
  rw [this]
  simp [List.dropLast_eq_take]
theorem cut_last (l : List Nat) : cut l (some (-1)) none = l.drop (l.length - 1) := by
  have := cut_plain l (some (-1)) none (l.length - 1) l.length (by (first | lia | omega)) (by (first | lia | omega)) (idx_of (by show max 0 (min (if (-1 : Int) < 0 then (-1 : Int) + l.length else -1) (l.length : Int)) = _; rw [if_pos (by decide)]; (first | lia | omega)) rfl (by (first | lia | omega)))
  rw [this, List.take_of_length_le (by simp)]
/-- one sign, written anew -/
noncomputable def sub1 (c : Nat) (z l : List Nat) : List Nat := l.flatMap fun a => if a = c then z else [a]
theorem sub1_append (c : Nat) (z a b : List Nat) : sub1 c z (a ++ b) = sub1 c z a ++ sub1 c z b := by unfold sub1; rw [List.flatMap_append]
theorem sub1_free (c : Nat) (z : List Nat) : ∀ l : List Nat, c ∉ l → sub1 c z l = l
  | [], _ => rfl
  | a :: l, h => by
    have : sub1 c z (a :: l) = (if a = c then z else [a]) ++ sub1 c z l := rfl
    rw [this, sub1_free c z l fun m => h (.tail _ m), if_neg fun e => h (by rw [e]; exact .head _)]; rfl
theorem sub1_one (c : Nat) (z : List Nat) : sub1 c z [c] = z := by simp [sub1]
theorem join_nil (sep : Str) : (Str.join sep []).cps.toList = [] := rfl
theorem join_one (sep x : Str) : (Str.join sep [x]).cps.toList = x.cps.toList := rfl
theorem join_cons (sep x y : Str) (r : List Str) : (Str.join sep (x :: y :: r)).cps.toList = x.cps.toList ++ sep.cps.toList ++ (Str.join sep (y :: r)).cps.toList := by
  rw [show Str.join sep (x :: y :: r) = x ++ sep ++ Str.join sep (y :: r) from rfl]
  simp [Str.cps_append]
theorem sub1_join (c : Nat) (z : Str) : ∀ parts : List Str, (∀ p ∈ parts, c ∉ p.cps.toList) → sub1 c z.cps.toList (Str.join ⟨#[c]⟩ parts).cps.toList = (Str.join z parts).cps.toList
  | [], _ => rfl
  | [x], h => by rw [join_one, join_one]; exact sub1_free c _ _ (h x (.head _))
  | x :: y :: r, h => by
    rw [join_cons, join_cons, sub1_append, sub1_append, sub1_free c _ _ (h x (.head _)), sub1_join c z (y :: r) fun p hp => h p (.tail _ hp)]
    rw [show (⟨#[c]⟩ : Str).cps.toList = [c] from rfl, sub1_one]
theorem count_join (c : Nat) : ∀ parts : List Str, (∀ p ∈ parts, c ∉ p.cps.toList) → (Str.join ⟨#[c]⟩ parts).cps.toList.count c = parts.length - 1
  | [], _ => rfl
  | [x], h => by rw [join_one]; exact List.count_eq_zero.mpr (h x (.head _))
  | x :: y :: r, h => by
    rw [join_cons, List.count_append, List.count_append, List.count_eq_zero.mpr (h x (.head _)), count_join c (y :: r) fun p hp => h p (.tail _ hp)]
    rw [show (⟨#[c]⟩ : Str).cps.toList = [c] from rfl]
    simp; (first | lia | omega)
theorem replace_is (l : List Nat) (c : Nat) (z : Str) : (Txt.replace ⟨l.toArray⟩ ⟨#[c]⟩ z).cps.toList = sub1 c z.cps.toList l := by
  rw [StrLaws.replace_one, ← sub1_join c z _ (StrLaws.split_free ⟨l.toArray⟩ c), StrLaws.join_split]
theorem contains_is (l : List Nat) (c : Nat) : Txt.contains ⟨l.toArray⟩ ⟨#[c]⟩ = decide (c ∈ l) := by
  unfold Txt.contains
  rw [StrLaws.found_one]
theorem count_is (l : List Nat) (c : Nat) : Txt.count ⟨l.toArray⟩ ⟨#[c]⟩ = (l.count c : Nat) := by
  have e : (Str.join ⟨#[c]⟩ (Txt.split ⟨l.toArray⟩ ⟨#[c]⟩)).cps.toList = l := by rw [StrLaws.join_split]
  have h := count_join c _ (StrLaws.split_free ⟨l.toArray⟩ c)
  rw [e] at h
  unfold Txt.count
  rw [h]
  congr 1
  have hfree := StrLaws.split_free ⟨l.toArray⟩ c
  by_cases hc : (decide ((⟨l.toArray⟩ : Str).length < (⟨#[c]⟩ : Str).length) || decide (PySem.Builtin.Str.strKind ⟨l.toArray⟩ < PySem.Builtin.Str.strKind ⟨#[c]⟩)) = true
  · have es : Txt.split ⟨l.toArray⟩ ⟨#[c]⟩ = [⟨l.toArray⟩] := by unfold Txt.split; rw [if_pos hc]
    rw [es] at hfree ⊢
    cases ho : occurrences ⟨l.toArray⟩ ⟨#[c]⟩ 0 (⟨l.toArray⟩ : Str).length ((⟨l.toArray⟩ : Str).length + 1) with
    | nil => rfl
    | cons i r =>
      obtain ⟨f, hk⟩ := StrLaws.occ_chain ⟨l.toArray⟩ ⟨#[c]⟩ ((⟨l.toArray⟩ : Str).length + 1)
      rw [ho] at hk
      have hm := (StrLaws.subAt_one ⟨l.toArray⟩ c i).mp hk.2.1
      exact absurd (List.mem_of_getElem? hm) (hfree _ (.head _))
  · unfold Txt.split
    rw [if_neg hc]
    cases he : (occurrences ⟨l.toArray⟩ ⟨#[c]⟩ 0 (⟨l.toArray⟩ : Str).length ((⟨l.toArray⟩ : Str).length + 1)).isEmpty with
    | true => rw [if_pos rfl, List.isEmpty_iff.mp he]; rfl
    | false =>
      rw [if_neg (by decide)]
      unfold partsBetween
      simp
end W58
end
section
open PySem PySem.W PyProof.Rows PySem.Calls PySem.Spec PySem.SeqAt PyProof.V
set_option maxRecDepth 100000
namespace W58
/-! dict(pairs): a dict out of a list of pairs whose first halves are texts -/
section
variable {prog : Program} {w : World} {A : Around} {E : Value → Shared → Prop} {s : Shared}
theorem lk_list_keys : typeLookup (.type "list") (Str.ofString "keys") = pure none := by rw [typeLookup_type, builtinLookup_eq_fast]; kernel_rfl
theorem keys_miss {a : Addr} {xs : Array Value} {k : Nat} {sl : Array (Option Value)} {Q : Option Value → Shared → Prop} (hx : s.heap.get? a = some { cls := .type "list", dict := none, data := .seq xs k, slots := sl }) (hA : A.handled = none)
    (h : ∀ h' tk, (∀ b o, s.heap.get? b = some o → h'.get? b = some o) → Q none { s with heap := h', toks := tk }) : wpAny (model prog w) A (getAttr? (.ref a) "keys") Q E s := by
  obtain ⟨hp, g, d, tk, os⟩ := s
  have hT : ∀ tk', (⟨hp, g, d, tk', os⟩ : Shared).TypeIs (.ref a) "list" := fun _ => ⟨_, hx, rfl⟩
  have f1 := sub_AttributeError
  have f3 := F.slot_list_getattribute.lookup
  have f4 := F.slot_list_getattribute.bind (.ref a)
  have f5 := am_list_getattr_none
  unfold getAttr? getAttrBy? getAttrBy
  repeat (any_goals (first | assumption | exact hT _ | ((with_reducible show wpAny _ _ (call (Value.builtin "list.__getattribute__") _ _) _ _ _); refine call_meets F.slot_list_getattribute (hT _) am_entry_list_getattribute (F.args_list_getattribute_2 _ _) (meets_getattribute_miss_list a xs k sl (Str.ofString "keys") _ lk_list_keys (by decide +kernel) (by size_fits)) ⟨hx, hA, fun h' tk' e hx' => ?_⟩) | wp_step))
  obtain ⟨t', u', he⟩ := hx'.there
  show wpAny _ _ (getattributeRaised _ _ _ _ _ _ _) _ _ _
  unfold getattributeRaised
  have hI : ∀ tk'', (⟨h', g, d, tk'', os⟩ : Shared).TypeIs (.ref e) "AttributeError" := fun _ => ⟨_, he, rfl⟩
  repeat (any_goals (first | assumption | wp_step))
  exact h _ _ hx'.of.keeps
theorem valueAt_none {K : Type} [DecidableEq K] {kvs : List (K × Value)} {k : K} (h : k ∉ kvs.map (·.1)) : stored kvs k v = kvs ++ [(k, v)] := by
  unfold stored
  rw [if_neg]
  intro q
  obtain ⟨p, hp, e⟩ := List.any_eq_true.mp q
  exact h (List.mem_map.mpr ⟨p, hp, by simpa using e⟩)
/-- the pairs, as they stand: texts ahead -/
noncomputable def PairsAt (h : Heap) : List Value → List (Str × Value) → Prop
  | [], kvs => kvs = []
  | v :: r, kvs => ∃ a k t x kvs', v = .ref a ∧ IsTup h a #[.str k t, x] ∧ kvs = (k, x) :: kvs' ∧ PairsAt h r kvs'
theorem PairsAt.keep {h h' : Heap} (k : ∀ b o, h.get? b = some o → h'.get? b = some o) : ∀ {vs : List Value} {kvs : List (Str × Value)}, PairsAt h vs kvs → PairsAt h' vs kvs
  | [], _, e => e
  | _ :: _, _, ⟨a, s, t, x, r, e, ⟨o, ho, z⟩, e2, q⟩ => ⟨a, s, t, x, r, e, ⟨o, k _ _ ho, z⟩, e2, q.keep k⟩
theorem entry_upd_loop : entryFor table "dict.update.loop" = some Builtin.«dict.update.loop» := entryFor_of_tree (by kernel_rfl)
theorem plain_upd_loop : plainId "dict.update.loop" = true := by decide +kernel
theorem PairsAt.but {h h' : Heap} {d it : Addr} (nd : ∀ a xs, IsTup h a xs → a ≠ d ∧ a ≠ it) (k : ∀ b o, b ≠ d → b ≠ it → h.get? b = some o → h'.get? b = some o) : ∀ {vs : List Value} {kvs : List (Str × Value)}, PairsAt h vs kvs → PairsAt h' vs kvs
  | [], _, e => e
  | _ :: _, _, ⟨a, s, t, x, r, e, T, e2, q⟩ => ⟨a, s, t, x, r, e, let ⟨o, ho, z⟩ := T; ⟨o, k _ _ (nd _ _ T).1 (nd _ _ T).2 ho, z⟩, e2, q.but nd k⟩
theorem upd_loop {d it l : Addr} {items : Array Value} {R : Result → Shared → Prop} (hh : A.handled = none) (hne : d ≠ it) (hl : l ≠ it) (hdl : d ≠ l) : ∀ (r : List Value) (i : Nat) (more acc : List (Str × Value)) (s : Shared), items.toList.drop i = r → s.heap.IsListIter it l i → s.heap.IsList l items →
    s.heap.DictOf (strKind prog w) d acc → PairsAt s.heap r more → ((acc ++ more).map (·.1)).Nodup → acc.length + more.length ≤ sizeLine →
    (∀ h' tk, h'.DictOf (strKind prog w) d (acc ++ more) → (∀ b o, b ≠ d → b ≠ it → s.heap.get? b = some o → h'.get? b = some o) → R (.ok (.ret .none)) { s with heap := h', toks := tk }) →
    codeAny (model prog w) A (.builtin "dict.update.loop" ⟨[.ref d, .ref it, rawInt i, .none], []⟩) R s := by
  intro r
  induction r with
  | nil =>
    intro i more acc s hr hit hli hd hp hn hsz h
    refine codeAny_builtin entry_upd_loop ?_
    rw [Around.under_plainId plain_upd_loop _]
    have hx : items[i]? = none := by
      rw [← Array.getElem?_toList]
      have := List.drop_eq_nil_iff.mp hr
      exact List.getElem?_eq_none this
    cases hp
    show wpAny _ _ (pyNext (.ref it) >>= _) _ _ s
    refine wpAny_bind (wpAny_pyNext_list_end hh hit hli hx fun h₁ he₁ => ?_)
    show wpAny _ _ (Builtin.Dict.addKeywords d [] >>= _) _ _ _
    refine wpAny_bind (wpAny_pure (wpAny_pure ?_))
    have := h h₁ s.toks (by simpa using hd.extBut he₁ hne) (fun b o _ hb e => he₁ b o hb e)
    exact this
  | cons v r ih =>
    intro i more acc s hr hit hli hd hp hn hsz h
    refine codeAny_builtin entry_upd_loop ?_
    rw [Around.under_plainId plain_upd_loop _]
    have hx : items[i]? = some v := by
      rw [← Array.getElem?_toList]
      have : (items.toList.drop i)[0]? = some v := by rw [hr]; rfl
      simpa using this
    have hr' : items.toList.drop (i + 1) = r := by
      rw [← List.drop_drop, hr]; rfl
    obtain ⟨a, k, t, x, kvs', rfl, T, rfl, hp⟩ := hp
    show wpAny _ _ (pyNext (.ref it) >>= _) _ _ s
    refine wpAny_bind (wpAny_pyNext_list_item hit hli hx fun h₁ hit₁ hs₁ => ?_)
    have nd : ∀ a xs, IsTup s.heap a xs → a ≠ d ∧ a ≠ it := by
      intro a xs ⟨o, ho, hc, _⟩
      constructor
      · intro e
        obtain ⟨o', _, _, ho', hD, _⟩ := id hd
        rw [← e, ho] at ho'; cases ho'; have := hD.1; rw [hc] at this; exact absurd (Value.type.inj this) (by decide)
      · intro e
        obtain ⟨o', ho', hc', _⟩ := id hit
        rw [← e, ho] at ho'; cases ho'; rw [hc] at hc'; exact absurd (Value.type.inj hc') (by decide)
    have T₁ : IsTup h₁ a #[.str k t, x] := let ⟨o, ho, z⟩ := T; ⟨o, hs₁.extBut _ _ (nd _ _ T).2 ho, z⟩
    have hd₁ := hd.extBut hs₁.extBut hne
    show wpAny _ _ (holding [Value.ref a] (tryCatch (Builtin.Dict.pairItems (.ref a)) _ >>= _) >>= _) _ _ _
    refine wpAny_bind (wpAny_holding (wpAny_bind (wpAny_tryCatch ?_)))
    unfold Builtin.Dict.pairItems
    refine wpAny_bind (wpAny_typeOf T₁.typeIs ?_)
    rw [if_pos (by decide)]
    obtain ⟨o, ho, hc, n, hdt⟩ := id T₁
    refine wpAny_bind (wpAny_seqItems ho hdt (wpAny_pure ?_))
    show wpAny _ _ (holding [Value.str k t, x] (dictSet d (.str k t) x)) _ _ _
    have hn' : (acc.map (·.1) ++ k :: kvs'.map (·.1)).Nodup := by simpa using hn
    have hk : k ∉ acc.map (·.1) := fun m => (List.nodup_append.mp hn').2.2 k m k (.head _) rfl
    refine wpAny_holding (wpAny_dictSet_pairs (knd := strKind prog w) (k := k) (strKind_is prog w k t) hd₁ (fun h₂ hd₂ hs₂ => ?_) (by simp only [List.length_cons] at hsz; (first | lia | omega)))
    refine wpAny_pure ⟨plainId_quiet plain_upd_loop _, ?_⟩
    rw [valueAt_none hk] at hd₂
    have hc₁ := hs₂.extBut
    refine ih (i + 1) kvs' (acc ++ [(k, x)]) _ hr' (hit₁.extBut hs₂.extBut (Ne.symm hne)) ((hli.extBut hs₁.extBut hl).extBut hs₂.extBut (Ne.symm hdl)) hd₂ (hp.but nd fun b o hb hb' e => hs₂.extBut b o hb (hs₁.extBut b o hb' e)) (by simpa using hn) (by simp only [List.length_append, List.length_cons, List.length_nil] at hsz ⊢; (first | lia | omega)) fun h₃ tk hd₃ hk₃ => ?_
    refine h h₃ tk (by simpa using hd₃) fun b o hb hb' e => hk₃ b o hb hb' (hs₂.extBut b o hb (hs₁.extBut b o hb' e))
theorem call_dict_pairs {l : Addr} {items : Array Value} {n : Nat} {sl : Array (Option Value)} {kvs : List (Str × Value)} {Q : Value → Shared → Prop} (hh : A.handled = none) (hl : s.heap.get? l = some { cls := .type "list", dict := none, data := .seq items n, slots := sl })
    (hp : PairsAt s.heap items.toList kvs) (hn : (kvs.map (·.1)).Nodup) (hsz : kvs.length ≤ sizeLine)
    (h : ∀ h' tk, h'.DictOf (strKind prog w) s.heap.objs.size kvs → (∀ b o, s.heap.get? b = some o → h'.get? b = some o) → Q (.ref s.heap.objs.size) { s with heap := h', toks := tk }) :
    wpAny (model prog w) A (call (.type "dict") [.ref l]) Q E s := by
  refine callType_codes (Q₁ := fun obj s₁ => obj = .ref s.heap.objs.size ∧ s₁ = { s with heap := s.heap.push { cls := .type "dict", data := .dict #[] } }) PySem.F.kt_called_dict (PySem.F.kt_typeCall_dict_1 _) PySem.F.entry_dict_init (kt_code_dict_new _ ⟨rfl, rfl⟩) ?_
  rintro obj s₁ ⟨rfl, rfl⟩
  have hnew : (s.heap.push { cls := .type "dict", data := .dict #[] }).DictOf (strKind prog w) s.heap.objs.size [] := Heap.DictOf.new s.heap
  refine ⟨hnew.typeIs, PySem.F.args_dict_init_2 _ _, ?_⟩
  have lt := Heap.lt_size hl
  unfold Builtin.«dict.__init__»
  refine wpAny_bind ?_
  unfold Builtin.Dict.selfAndRest
  refine wpAny_bind (wpAny_notOrdered_dict hnew.typeIs ?_)
  show wpAny _ _ (pure (s.heap.objs.size, [Value.ref l])) _ _ _
  refine wpAny_pure ?_
  show wpAny _ _ (Builtin.Dict.updateFrom "dict.__init__" s.heap.objs.size (.ref l) [] .none) _ _ _
  unfold Builtin.Dict.updateFrom
  have hl₁ := Heap.get?_push_of_some (h := s.heap) { cls := .type "dict", data := .dict #[] } hl
  refine wpAny_bind (wpAny_typeOf ⟨_, hl₁, rfl⟩ ?_)
  rw [if_pos (by decide)]
  refine wpAny_bind (keys_miss hl₁ hh fun h₁ tk hk₁ => ?_)
  have hL₁ : h₁.IsList l items := ⟨_, hk₁ _ _ hl₁, rfl, n, rfl⟩
  have hk : ∀ b o, s.heap.get? b = some o → h₁.get? b = some o := fun b o e => hk₁ b o (Heap.get?_push_of_some _ e)
  have hd₁ : h₁.DictOf (strKind prog w) s.heap.objs.size [] := hnew.keep hk₁
  obtain ⟨od, _, _, hod, _⟩ := id hd₁
  have ld := Heap.lt_size hod
  have ll := Heap.lt_size (hk₁ _ _ hl₁)
  show wpAny _ _ (rule _ >>= _) _ _ _
  refine wpAny_bind (wpAny_rule (wpAny_bind (wpAny_pyIter_list hL₁ (wpAny_pure ⟨plainId_quiet plain_upd_loop _, ?_⟩))))
  refine upd_loop (A := A.in1) (l := l) (items := items) (show A.in1.handled = none from hh) (Nat.ne_of_lt ld) (Nat.ne_of_lt ll) (Nat.ne_of_gt lt) items.toList 0 kvs [] { s with heap := h₁.push { cls := .type "list_iterator", data := .fields #[.ref l, .int 0 0] }, toks := tk } rfl ?_ ?_ ?_ ?_ (by simpa using hn) (by simpa using hsz) fun h₂ tk₂ hd₂ hk₂ => ?_
  · exact ⟨_, Heap.get?_push_size _ rfl, rfl, rfl⟩
  · exact hL₁.push _
  · exact hd₁.push _
  · exact hp.keep fun b o e => Heap.get?_push_of_some _ (hk b o e)
  refine ⟨rfl, h h₂ tk₂ (by simpa using hd₂) fun b o e => hk₂ b o ?_ ?_ (Heap.get?_push_of_some _ (hk b o e))⟩
  · exact Nat.ne_of_lt (Heap.lt_size e)
  · exact Nat.ne_of_lt (Heap.lt_size (hk b o e))
end
end W58
end
section
open PySem PySem.W PyProof.Rows PySem.Calls
set_option maxRecDepth 100000
namespace W58
/-! The abstract side: values without tokens, a heap of places, a frame's names. -/
inductive AV where
  | none
  | bool (b : Bool)
  | int (i : Int)
  | str (s : List Nat)
  | ref (n : Nat)
  | con (v : Value)
inductive AO where
  | list (xs : List AV)
  | plist (xs : List AV)
  | tup (xs : List AV)
  | range (a b c : Int)
  | slice (l u st : AV)
  | liter (n : Nat) (i : Nat)
  | riter (x left step : Int)
  | siter (s : List Nat) (i : Nat)
  | dict (es : List (List Nat × AV))
  | inst (C : Addr) (d : Nat)
  | ns (es : List (Str × AV))
  | any
noncomputable def AO.lst? : AO → Option (List AV)
  | .list xs => some xs
  | .plist xs => some xs
  | _ => none
structure St where
  loc : List (Str × AV)
  hp : List AO
/-- the value that a token-less value stands for, places by ρ -/
noncomputable def conc (ρ : List Addr) : AV → Value → Prop
  | .none, v => v = .none
  | .bool b, v => v = .bool b
  | .int i, v => ∃ t, v = .int i t
  | .str s, v => ∃ t, v = .str ⟨s.toArray⟩ t
  | .ref n, v => ∃ a, v = .ref a ∧ ρ[n]? = some a
  | .con w, v => v = w
noncomputable def concs (ρ : List Addr) : List AV → List Value → Prop
  | [], vs => vs = []
  | x :: xs, vs => ∃ v r, vs = v :: r ∧ conc ρ x v ∧ concs ρ xs r
theorem conc_mono {ρ ρ' : List Addr} (h : ρ <+: ρ') : ∀ {x : AV} {v : Value}, conc ρ x v → conc ρ' x v
  | .none, _, e => e
  | .bool _, _, e => e
  | .int _, _, e => e
  | .str _, _, e => e
  | .con _, _, e => e
  | .ref n, _, ⟨a, e, r⟩ => ⟨a, e, by
      obtain ⟨t, rfl⟩ := h
      rw [List.getElem?_append_left (by
        have := List.getElem?_eq_some_iff.mp r
        exact this.1)]
      exact r⟩
theorem concs_mono {ρ ρ' : List Addr} (h : ρ <+: ρ') : ∀ {xs : List AV} {vs : List Value}, concs ρ xs vs → concs ρ' xs vs
  | [], _, e => e
  | _ :: _, _, ⟨v, r, e, a, b⟩ => ⟨v, r, e, conc_mono h a, concs_mono h b⟩
theorem concs_len {ρ : List Addr} : ∀ {xs : List AV} {vs : List Value}, concs ρ xs vs → vs.length = xs.length
  | [], _, e => by subst e; rfl
  | _ :: _, _, ⟨_, _, e, _, b⟩ => by subst e; simp [concs_len b]
theorem concs_get {ρ : List Addr} : ∀ {xs : List AV} {vs : List Value} {i : Nat} {x : AV}, concs ρ xs vs → xs[i]? = some x → ∃ v, vs[i]? = some v ∧ conc ρ x v
  | _ :: _, _, 0, _, ⟨v, _, e, a, _⟩, q => by subst e; cases q; exact ⟨v, rfl, a⟩
  | _ :: _, _, i + 1, _, ⟨_, r, e, _, b⟩, q => by subst e; exact concs_get (i := i) b q
theorem concs_append {ρ : List Addr} : ∀ {xs ys : List AV} {vs ws : List Value}, concs ρ xs vs → concs ρ ys ws → concs ρ (xs ++ ys) (vs ++ ws)
  | [], _, _, _, e, h => by subst e; exact h
  | _ :: _, _, _, _, ⟨v, r, e, a, b⟩, h => by subst e; exact ⟨v, r ++ _, rfl, a, concs_append b h⟩
/-- an object's names, in their order -/
noncomputable def DesIs (ρ : List Addr) : List (Str × AV) → List DictEntry → Prop
  | [], des => des = []
  | (k, x) :: r, des => ∃ hsh t v d', des = ⟨hsh, .str k t, v⟩ :: d' ∧ conc ρ x v ∧ DesIs ρ r d'
theorem DesIs_mono {ρ ρ' : List Addr} (h : ρ <+: ρ') : ∀ {es : List (Str × AV)} {des : List DictEntry}, DesIs ρ es des → DesIs ρ' es des
  | [], _, e => e
  | _ :: _, _, ⟨hsh, t, v, d', e, a, b⟩ => ⟨hsh, t, v, d', e, conc_mono h a, DesIs_mono h b⟩
theorem DesIs_len {ρ : List Addr} : ∀ {es : List (Str × AV)} {des : List DictEntry}, DesIs ρ es des → des.length = es.length
  | [], _, e => by cases e; rfl
  | _ :: _, _, ⟨_, _, _, _, e, _, b⟩ => by subst e; simp [DesIs_len b]
theorem DesIs_get {ρ : List Addr} (name : Str) : ∀ {es : List (Str × AV)} {des : List DictEntry}, DesIs ρ es des → (match es.lookup name with | some x => ∃ v, getL name des = some (some v) ∧ conc ρ x v | none => getL name des = some none) ∧ des.any (·.refKey) = false
  | [], _, e => by cases e; exact ⟨rfl, rfl⟩
  | (k, x) :: r, _, ⟨hsh, t, v, d', e, a, b⟩ => by
    subst e
    obtain ⟨ih, nr⟩ := DesIs_get name b
    refine ⟨?_, by rw [List.any_cons, nr]; rfl⟩
    by_cases q : k = name
    · subst q
      have e1 : List.lookup k ((k, x) :: r) = some x := by simp
      rw [e1]
      refine ⟨v, ?_, a⟩
      unfold getL
      rw [List.find?_cons]
      have : (Value.str k t).isStr k = true := by simp [Value.isStr]
      dsimp only
      rw [this]
    · have e1 : List.lookup name ((k, x) :: r) = r.lookup name := by
        rw [List.lookup_cons, show (name == k) = false from beq_eq_false_iff_ne.mpr (Ne.symm q)]
      rw [e1]
      have e2 : getL name (⟨hsh, .str k t, v⟩ :: d') = getL name d' := by
        unfold getL
        rw [List.find?_cons]
        have : (Value.str k t).isStr name = false := by simp [Value.isStr, q]
        dsimp only
        rw [this]
        simp only [List.any_cons]
        rfl
      rw [e2]; exact ih
noncomputable def upsert (name : Str) (v : AV) : List (Str × AV) → List (Str × AV)
  | [] => [(name, v)]
  | (k, a) :: r => if k = name then (k, v) :: r else (k, a) :: upsert name v r
theorem DesIs_put {ρ : List Addr} {name : Str} {x : AV} {v : Value} {hsh : Int} {t : Nat} (c : conc ρ x v) : ∀ {es : List (Str × AV)} {des : List DictEntry}, DesIs ρ es des → DesIs ρ (upsert name x es) (putL name hsh (.str name t) v des)
  | [], _, e => by cases e; exact ⟨hsh, t, v, [], rfl, c, rfl⟩
  | (k, y) :: r, _, ⟨h', t', u, d', e, a, b⟩ => by
    subst e
    unfold upsert putL
    by_cases q : k = name
    · subst q
      have : (Value.str k t').isStr k = true := by simp [Value.isStr]
      rw [if_pos rfl]
      dsimp only
      rw [if_pos this]
      exact ⟨h', t', v, d', rfl, c, b⟩
    · have : (Value.str k t').isStr name = false := by simp [Value.isStr, q]
      rw [if_neg q]
      dsimp only
      rw [this]
      exact ⟨h', t', u, _, rfl, a, DesIs_put c b⟩
theorem upsert_len (name : Str) (v : AV) : ∀ es : List (Str × AV), (upsert name v es).length ≤ es.length + 1
  | [] => Nat.le_refl _
  | (k, a) :: r => by
    unfold upsert
    split
    · simp
    · simp only [List.length_cons]; have := upsert_len name v r; (first | lia | omega)
/-- a dict's entries: texts as keys, by the world's own hash -/
noncomputable def DEs (hf : Str → Int) (ρ : List Addr) : List (List Nat × AV) → List DictEntry → Prop
  | [], des => des = []
  | (k, x) :: r, des => ∃ t v d', des = ⟨hf ⟨k.toArray⟩, .str ⟨k.toArray⟩ t, v⟩ :: d' ∧ conc ρ x v ∧ DEs hf ρ r d'
theorem DEs_mono {hf : Str → Int} {ρ ρ' : List Addr} (h : ρ <+: ρ') : ∀ {es : List (List Nat × AV)} {des : List DictEntry}, DEs hf ρ es des → DEs hf ρ' es des
  | [], _, e => e
  | _ :: _, _, ⟨t, v, d', e, a, b⟩ => ⟨t, v, d', e, conc_mono h a, DEs_mono h b⟩
/-- the object that an abstract object stands for -/
noncomputable def OIs (hf : Str → Int) (ρ : List Addr) : AO → Obj → Prop
  | .list xs, o => o.cls = .type "list" ∧ ∃ vs n, o.data = .seq vs n ∧ concs ρ xs vs.toList
  | .plist xs, o => ∃ vs n, o = { cls := .type "list", dict := none, data := .seq vs n, slots := #[] } ∧ concs ρ xs vs.toList
  | .tup xs, o => o.cls = .type "tuple" ∧ ∃ vs n, o.data = .seq vs n ∧ concs ρ xs vs.toList
  | .range a b c, o => ∃ t u v, o = { cls := .type "range", dict := none, data := .fields #[.int a t, .int b u, .int c v], slots := #[] }
  | .slice l u st, o => o.cls = .type "slice" ∧ ∃ x y z, o.data = .fields #[x, y, z] ∧ conc ρ l x ∧ conc ρ u y ∧ conc ρ st z
  | .liter n i, o => o.cls = .type "list_iterator" ∧ ∃ l, ρ[n]? = some l ∧ o.data = .fields #[.ref l, .int i 0]
  | .riter x left step, o => o = { cls := .type "range_iterator", dict := none, data := .fields #[rawInt x, rawInt left, rawInt step], slots := #[] }
  | .siter s i, o => ∃ ty t, o.cls = .type ty ∧ (ty = "str_iterator" ∨ ty = "str_ascii_iterator") ∧ o.data = .fields #[.str ⟨s.toArray⟩ t, .int i 0]
  | .dict es, o => o.ExactDict ∧ (∃ des ep, o.data = .dict des ep ∧ DEs hf ρ es des.toList) ∧ (es.map (·.1)).Nodup
  | .inst C d, o => o.cls = .ref C ∧ (∃ a, ρ[d]? = some a ∧ o.dict = some a) ∧ o.data = .plain ∧ o.slots = #[]
  | .ns es, o => ∃ des n, o = dictOf des n ∧ DesIs ρ es des
  | .any, _ => True
/-- what stands at a place: of a place that is forgotten nothing is known -/
noncomputable def Has (hf : Str → Int) (ρ : List Addr) (h : Heap) (a : Addr) (x : AO) : Prop := match x with
  | .any => True
  | x => ∃ o, h.get? a = some o ∧ OIs hf ρ x o
noncomputable def AO.live : AO → Bool
  | .any => false
  | _ => true
theorem Has.of {hf : Str → Int} {ρ : List Addr} {h : Heap} {a : Addr} {x : AO} (n : x.live = true) (H : Has hf ρ h a x) : ∃ o, h.get? a = some o ∧ OIs hf ρ x o := by
  cases x <;> first | exact H | cases n
theorem Has.mk {hf : Str → Int} {ρ : List Addr} {h : Heap} {a : Addr} {x : AO} (H : ∃ o, h.get? a = some o ∧ OIs hf ρ x o) : Has hf ρ h a x := by
  cases x <;> first | exact H | trivial
theorem Has.map {hf : Str → Int} {ρ ρ' : List Addr} {h h' : Heap} {a : Addr} {x : AO} (H : Has hf ρ h a x) (k : x.live = true → ∀ o, h.get? a = some o → OIs hf ρ x o → ∃ o', h'.get? a = some o' ∧ OIs hf ρ' x o') : Has hf ρ' h' a x := by
  cases hx : x.live with
  | true => obtain ⟨o, a, b⟩ := H.of hx; exact .mk (k hx o a b)
  | false => cases x <;> first | trivial | cases hx

theorem OIs_mono {hf : Str → Int} {ρ ρ' : List Addr} (h : ρ <+: ρ') : ∀ {x : AO} {o : Obj}, OIs hf ρ x o → OIs hf ρ' x o := by
  have get : ∀ {n : Nat} {a : Addr}, ρ[n]? = some a → ρ'[n]? = some a := fun {n a} r => by
    obtain ⟨v, _, q⟩ : ∃ v, v = Value.ref a ∧ conc ρ' (.ref n) v := ⟨_, rfl, conc_mono h ⟨a, rfl, r⟩⟩
    obtain ⟨a', e, r'⟩ := q
    subst_vars; cases e; exact r'
  intro x o H
  cases x with
  | list xs => exact ⟨H.1, let ⟨vs, n, d, c⟩ := H.2; ⟨vs, n, d, concs_mono h c⟩⟩
  | plist xs => exact let ⟨vs, n, d, c⟩ := H; ⟨vs, n, d, concs_mono h c⟩
  | tup xs => exact ⟨H.1, let ⟨vs, n, d, c⟩ := H.2; ⟨vs, n, d, concs_mono h c⟩⟩
  | slice l u st => exact ⟨H.1, let ⟨x, y, z, d, a, b, c⟩ := H.2; ⟨x, y, z, d, conc_mono h a, conc_mono h b, conc_mono h c⟩⟩
  | liter n i => exact ⟨H.1, let ⟨l, a, b⟩ := H.2; ⟨l, get a, b⟩⟩
  | inst C d => exact ⟨H.1, let ⟨a, b, c⟩ := H.2.1; ⟨a, get b, c⟩, H.2.2⟩
  | ns es => exact let ⟨des, n, d, k⟩ := H; ⟨des, n, d, DesIs_mono h k⟩
  | dict es => exact ⟨H.1, let ⟨des, ep, d, k⟩ := H.2.1; ⟨des, ep, d, DEs_mono h k⟩, H.2.2⟩
  | range | riter | siter | any => exact H

theorem OIs_lst {hf : Str → Int} {ρ : List Addr} {x : AO} {xs : List AV} {o : Obj} (e : x.lst? = some xs) (h : OIs hf ρ x o) : o.cls = .type "list" ∧ ∃ vs n, o.data = .seq vs n ∧ concs ρ xs vs.toList := by
  cases x <;> simp only [AO.lst?] at e <;> first | cases e; done | skip
  · cases e; exact h
  · cases e; obtain ⟨vs, n, rfl, c⟩ := h; exact ⟨rfl, vs, n, rfl, c⟩
/-- a frame: what stood ahead of it, its environment, how many places are not its own -/
structure Fm where
  H : Heap
  h₀ : Heap
  env : Env
  fz : Nat
  lowOk : Nat → Prop
  own : Bool
  g₀ : Array GenState
  os : OsState
  hf : Str → Int
noncomputable def Live (ρ : List Addr) (σ : St) (a : Addr) : Prop := ∃ (i : Nat) (x : AO), ρ[i]? = some a ∧ σ.hp[i]? = some x ∧ x.live = true
structure Rel (F : Fm) (ρ : List Addr) (σ : St) (s : Shared) : Prop where
  stat : ∀ b o, F.H.get? b = some o → F.h₀.get? b = some o
  keep : ∀ b o, F.h₀.get? b = some o → s.heap.get? b = some o
  gens : s.gens = F.g₀
  os : s.os = F.os
  loc : ∃ m, s.heap.Ns F.env.locals m ∧ ∀ x av, σ.loc.lookup x = some av → F.env.kindOf x = some .local → ∃ v, m x = some v ∧ conc ρ av v
  cel : ∀ x av, σ.loc.lookup x = some av → F.env.kindOf x = some .cell → ∃ c o v, F.env.cells.lookup x = some c ∧ s.heap.get? c = some o ∧ o.data = .cell (some v) ∧ conc ρ av v
  cap : ∀ x c, F.env.cells.lookup x = some c → ¬ Live ρ σ c ∧ c ≠ F.env.locals ∧ ∃ o v, s.heap.get? c = some o ∧ o.data = .cell v
  cown : F.own = true → ∀ x c, F.env.cells.lookup x = some c → F.h₀.get? c = none
  len : ρ.length = σ.hp.length
  nodup : ∀ (i j : Nat) (a : Addr) (x y : AO), ρ[i]? = some a → ρ[j]? = some a → σ.hp[i]? = some x → x.live = true → σ.hp[j]? = some y → y.live = true → i = j
  objs : ∀ (i : Nat) (a : Addr) (x : AO), ρ[i]? = some a → σ.hp[i]? = some x → Has F.hf ρ s.heap a x
  fresh : ∀ (i : Nat) (a : Addr) (x : AO), ρ[i]? = some a → σ.hp[i]? = some x → x.live = true → F.fz ≤ i → F.h₀.get? a = none
  offL : ¬ Live ρ σ F.env.locals
  L0 : F.h₀.get? F.env.locals = none
  above : F.h₀.objs.size ≤ F.env.locals
  fzl : F.fz ≤ ρ.length
  low : ∀ (i : Nat) (x : AO), i < F.fz → σ.hp[i]? = some x → x.live = true → F.lowOk i
structure Fm.Ok (F : Fm) : Prop where
  glob : F.env.globals = mainGlobals
  blt : F.env.builtins = builtinsNs
  kind : F.env.scope.kind = .function
  all : ∀ x, F.env.kindOf x = some .cell → ∃ c, F.env.cells.lookup x = some c
  inj : F.own = true → ∀ x y c, F.env.cells.lookup x = some c → F.env.cells.lookup y = some c → x = y
section
variable {F : Fm} {ρ : List Addr} {σ : St} {s : Shared}
theorem Rel.addr (R : Rel F ρ σ s) {i : Nat} {x : AO} (h : σ.hp[i]? = some x) : ∃ a, ρ[i]? = some a := by
  have hi := (List.getElem?_eq_some_iff.mp h).1
  have hi' : i < ρ.length := by rw [R.len]; exact hi
  exact ⟨ρ[i], List.getElem?_eq_getElem hi'⟩
theorem Rel.lt (R : Rel F ρ σ s) {a : Addr} (h : Live ρ σ a) : a < s.heap.objs.size := by
  obtain ⟨i, x, h1, h2, h3⟩ := h
  obtain ⟨o, ho, _⟩ := (R.objs i a x h1 h2).of h3
  exact Heap.lt_size ho
/-- the heap grows elsewhere -/
theorem Rel.grow (R : Rel F ρ σ s) {h' : Heap} {t : Nat} (X : List Addr) (k : ∀ b o, b ∉ X → b ≠ F.env.locals → s.heap.get? b = some o → h'.get? b = some o)
    (kn : ∀ m, s.heap.Ns F.env.locals m → h'.Ns F.env.locals m)
    (x1 : ∀ a ∈ X, F.h₀.get? a = none ∧ ¬ Live ρ σ a ∧ ∀ y, F.env.cells.lookup y ≠ some a) : Rel F ρ σ { s with heap := h', toks := t } where
  stat := R.stat
  keep := fun b o e => k b o (fun hb => by have := (x1 b hb).1; rw [e] at this; cases this) (fun hb => by have := R.L0; rw [← hb, e] at this; cases this) (R.keep b o e)
  gens := R.gens
  os := R.os
  loc := let ⟨m, h1, hm⟩ := R.loc; ⟨m, kn m h1, hm⟩
  cel := fun x av e q => by
    obtain ⟨c, o, v, h1, h2, h3, h4⟩ := R.cel x av e q
    exact ⟨c, o, v, h1, k _ _ (fun hb => (x1 _ hb).2.2 x h1) (R.cap x c h1).2.1 h2, h3, h4⟩
  cap := fun x c e => by
    obtain ⟨h2, h3, o, v, h4, h5⟩ := R.cap x c e
    exact ⟨h2, h3, o, v, k _ _ (fun hb => (x1 _ hb).2.2 x e) h3 h4, h5⟩
  cown := R.cown
  len := R.len
  nodup := R.nodup
  objs := fun i a x h1 h2 => (R.objs i a x h1 h2).map fun hl o ho hx =>
    ⟨o, k _ _ (fun hb => (x1 _ hb).2.1 ⟨i, x, h1, h2, hl⟩) (fun q => R.offL (q ▸ ⟨i, x, h1, h2, hl⟩)) ho, hx⟩
  fresh := R.fresh
  offL := R.offL
  L0 := R.L0
  above := R.above
  fzl := R.fzl
  low := R.low
theorem Rel.growL (R : Rel F ρ σ s) {h' : Heap} {t : Nat} (k : ∀ b o, b ≠ F.env.locals → s.heap.get? b = some o → h'.get? b = some o) (kn : ∀ m, s.heap.Ns F.env.locals m → h'.Ns F.env.locals m) : Rel F ρ σ { s with heap := h', toks := t } :=
  R.grow [] (fun b o _ n e => k b o n e) kn (fun _ h => nomatch h)
theorem Rel.grow0 (R : Rel F ρ σ s) {h' : Heap} {t : Nat} (k : ∀ b o, s.heap.get? b = some o → h'.get? b = some o) : Rel F ρ σ { s with heap := h', toks := t } :=
  R.growL (fun b o _ e => k b o e) fun m ⟨o, es, ep, h1, h2⟩ => ⟨o, es, ep, k _ _ h1, h2⟩
theorem Rel.tok (R : Rel F ρ σ s) (t : Nat) : Rel F ρ σ { s with toks := t } := R.grow0 (fun _ _ e => e)
theorem Rel.locals_some (R : Rel F ρ σ s) : ∃ o, s.heap.get? F.env.locals = some o := let ⟨_, ⟨o, _, _, h, _⟩, _⟩ := R.loc; ⟨o, h⟩
theorem Live.back {x : AO} {a b : Addr} (len : ρ.length = σ.hp.length) (h : Live (ρ ++ [a]) { σ with hp := σ.hp ++ [x] } b) : Live ρ σ b ∨ b = a := by
  obtain ⟨i, y, h1, h2, h3⟩ := h
  by_cases hi : i < ρ.length
  · rw [List.getElem?_append_left hi] at h1
    rw [List.getElem?_append_left (by rw [← len]; exact hi)] at h2
    exact .inl ⟨i, y, h1, h2, h3⟩
  · have hl : i = ρ.length := by
      have := (List.getElem?_eq_some_iff.mp h1).1
      simp at this; (first | lia | omega)
    subst hl
    rw [List.getElem?_append_right (Nat.le_refl _)] at h1
    simp at h1
    exact .inr h1.symm
/-- a new place -/
theorem Rel.alloc (R : Rel F ρ σ s) {x : AO} {o : Obj} {h' : Heap} {t : Nat} {a : Addr} (ha : s.heap.objs.size ≤ a) (ho : h'.get? a = some o) (hx : OIs F.hf (ρ ++ [a]) x o)
    (k : ∀ b o, b ≠ F.env.locals → s.heap.get? b = some o → h'.get? b = some o) (kn : ∀ m, s.heap.Ns F.env.locals m → h'.Ns F.env.locals m) : Rel F (ρ ++ [a]) { σ with hp := σ.hp ++ [x] } { s with heap := h', toks := t } := by
  have R' := R.growL (t := t) k kn
  have na : ∀ b o, s.heap.get? b = some o → b ≠ a := fun b o e q => by have := Heap.lt_size e; subst q; exact absurd this (Nat.not_lt.mpr ha)
  have nr : ¬ Live ρ σ a := fun q => absurd (R.lt q) (Nat.not_lt.mpr ha)
  have pre : ρ <+: ρ ++ [a] := List.prefix_append ..
  have split : ∀ (i : Nat) (b : Addr) (y : AO), (ρ ++ [a])[i]? = some b → (σ.hp ++ [x])[i]? = some y → (ρ[i]? = some b ∧ σ.hp[i]? = some y ∧ i < ρ.length) ∨ (i = ρ.length ∧ b = a ∧ y = x) := by
    intro i b y h1 h2
    by_cases hi : i < ρ.length
    · rw [List.getElem?_append_left hi] at h1
      rw [List.getElem?_append_left (by rw [← R.len]; exact hi)] at h2
      exact .inl ⟨h1, h2, hi⟩
    · have hl : i = ρ.length := by
        have := (List.getElem?_eq_some_iff.mp h1).1
        simp at this; (first | lia | omega)
      subst hl
      rw [List.getElem?_append_right (Nat.le_refl _)] at h1
      rw [List.getElem?_append_right (by rw [R.len]; exact Nat.le_refl _), R.len] at h2
      simp at h1 h2
      exact .inr ⟨rfl, h1.symm, h2.symm⟩
  refine ⟨R'.stat, R'.keep, R'.gens, R'.os, ?_, ?_, ?_, R'.cown, ?_, ?_, ?_, ?_, ?_, R'.L0, R'.above, ?_, ?_⟩
  · obtain ⟨m, h1, h2⟩ := R'.loc
    exact ⟨m, h1, fun x av e q => let ⟨v, u, c⟩ := h2 x av e q; ⟨v, u, conc_mono pre c⟩⟩
  · intro x av e q
    obtain ⟨c, o, v, h1, h2, h3, h4⟩ := R'.cel x av e q
    exact ⟨c, o, v, h1, h2, h3, conc_mono pre h4⟩
  · intro x c e
    obtain ⟨h2, h3, o', v, h4, h5⟩ := R'.cap x c e
    obtain ⟨_, _, o'', v', h6, _⟩ := R.cap x c e
    exact ⟨fun hc => (Live.back R.len hc).elim h2 fun q => na _ _ h6 q, h3, o', v, h4, h5⟩
  · simp [R.len]
  · intro i j b y z h1 h2 h3 h4 h5 h6
    rcases split i b y h1 h3 with ⟨a1, a2, _⟩ | ⟨a1, a2, a3⟩ <;> rcases split j b z h2 h5 with ⟨b1, b2, _⟩ | ⟨b1, b2, b3⟩
    · exact R.nodup i j b y z a1 b1 a2 h4 b2 h6
    · exact absurd (b2 ▸ ⟨i, y, a1, a2, h4⟩) nr
    · exact absurd (a2 ▸ ⟨j, z, b1, b2, h6⟩) nr
    · (first | lia | omega)
  · intro i b y h1 h2
    rcases split i b y h1 h2 with ⟨a1, a2, _⟩ | ⟨a1, a2, a3⟩
    · exact (R'.objs i b y a1 a2).map fun _ o' u v => ⟨o', u, OIs_mono pre v⟩
    · subst a2 a3; exact .mk ⟨o, ho, hx⟩
  · intro i b y h1 h2 h3 h4
    rcases split i b y h1 h2 with ⟨a1, a2, _⟩ | ⟨a1, a2, a3⟩
    · exact R.fresh i b y a1 a2 h3 h4
    · subst a2
      cases q : F.h₀.get? b with
      | none => rfl
      | some o' => exact absurd rfl (na b o' (R.keep b o' q))
  · exact fun hc => (Live.back R.len hc).elim R.offL fun q => by
      obtain ⟨o', e⟩ := R.locals_some
      exact na _ _ e q
  · simp only [List.length_append]; have := R.fzl; (first | lia | omega)
  · intro i y hi h2 h3
    have hl : i < σ.hp.length := by have := R.fzl; rw [← R.len]; (first | lia | omega)
    dsimp only at h2
    rw [List.getElem?_append_left hl] at h2
    exact R.low i y hi h2 h3
theorem Rel.alloc0 (R : Rel F ρ σ s) {x : AO} {o : Obj} {t : Nat} (hf : o.isFreed = false) (hx : OIs F.hf (ρ ++ [s.heap.objs.size]) x o) :
    Rel F (ρ ++ [s.heap.objs.size]) { σ with hp := σ.hp ++ [x] } { s with heap := s.heap.push o, toks := t } :=
  R.alloc (Nat.le_refl _) (Heap.get?_push_size _ hf) hx (fun _ _ _ e => Heap.get?_push_of_some _ e) fun _ h => h.push _
/-- the whole ledger: what stands in a heap, beside a base and a frame's names -/
theorem univ (h₀ : Heap) (L : Addr) (h : Heap) : ∃ news, News h₀ L h news ∧ ∀ h' : Heap, (∀ b o, h₀.get? b = some o → h.get? b = some o) → (∀ b o, h₀.get? b = some o → h'.get? b = some o) → (∀ p ∈ news, h'.get? p.1 = some p.2) →
    ∀ b o, b ≠ L → h.get? b = some o → h'.get? b = some o := by
  refine ⟨(List.range h.objs.size).filterMap fun a => if a = L then none else match h₀.get? a, h.get? a with | none, some o => some (a, o) | _, _ => none, fun p hp => ?_, fun h' k0 k1 k2 b o hb e => ?_⟩
  · obtain ⟨a, _, e⟩ := List.mem_filterMap.mp hp
    split at e
    · cases e
    · rename_i hL
      split at e
      · rename_i o e1 e2; cases e; exact ⟨e2, hL, e1⟩
      · cases e
  · cases q : h₀.get? b with
    | some o' => have := k0 b o' q; rw [e] at this; cases this; exact k1 b o q
    | none =>
      refine k2 (b, o) (List.mem_filterMap.mpr ⟨b, List.mem_range.mpr (Heap.lt_size e), ?_⟩)
      rw [if_neg hb, q, e]
/-- the library's frame and ledger, out of ours -/
theorem Rel.bridge (R : Rel F ρ σ s) : ∃ m news, Fr F.h₀ F.env.locals s.heap m ∧ News F.h₀ F.env.locals s.heap news ∧
    ∀ h' m' news', Fr F.h₀ F.env.locals h' m' → News F.h₀ F.env.locals h' news' → (∀ p ∈ news, p ∈ news') → ∀ b o, b ≠ F.env.locals → s.heap.get? b = some o → h'.get? b = some o := by
  obtain ⟨m, h1, _⟩ := R.loc
  obtain ⟨news, N, u⟩ := univ F.h₀ F.env.locals s.heap
  exact ⟨m, news, ⟨h1, R.keep, R.above⟩, N, fun h' m' news' F' N' sub => u h' R.keep F'.keep fun p hp => (N' p (sub p hp)).1⟩
theorem Ns_same {h : Heap} {a : Addr} {m m' : Str → Option Value} (x : h.Ns a m) (y : h.Ns a m') : m = m' := by
  obtain ⟨o, es, ep, h1, h2, _, h3⟩ := x
  obtain ⟨o', es', ep', h1', h2', _, h3'⟩ := y
  rw [h1] at h1'; cases h1'
  rw [h2] at h2'; cases h2'
  funext n; rw [← h3, ← h3']
theorem fr_carry {h₀ h h' : Heap} {L : Addr} {m : Str → Option Value} (F : Fr h₀ L h m) (F' : Fr h₀ L h' m) : ∀ m₂, h.Ns L m₂ → h'.Ns L m₂ := fun m₂ n => Ns_same F.ns n ▸ F'.ns
theorem Live.set {i : Nat} {x y : AO} {a b : Addr} (hi : ρ[i]? = some a) (hy : σ.hp[i]? = some y) (hl : y.live = true) (h : Live ρ { σ with hp := σ.hp.set i x } b) : Live ρ σ b := by
  obtain ⟨j, z, h1, h2, h3⟩ := h
  by_cases hj : j = i
  · subst hj; exact ⟨j, y, h1, hy, hl⟩
  · exact ⟨j, z, h1, by rw [List.getElem?_set_ne (Ne.symm hj)] at h2; exact h2, h3⟩
/-- a place of our own is written anew, or forgotten -/
theorem Rel.putW (R : Rel F ρ σ s) {i : Nat} {x y : AO} {h' : Heap} {t : Nat} {a : Addr} (hi : ρ[i]? = some a) (hy : σ.hp[i]? = some y) (hl : y.live = true) (hf : F.fz ≤ i) (hx : Has F.hf ρ h' a x)
    (k : ∀ b o, b ≠ a → b ≠ F.env.locals → s.heap.get? b = some o → h'.get? b = some o) (kn : ∀ m, s.heap.Ns F.env.locals m → h'.Ns F.env.locals m) : Rel F ρ { σ with hp := σ.hp.set i x } { s with heap := h', toks := t } := by
  have ia : i < ρ.length := (List.getElem?_eq_some_iff.mp hi).1
  have ma : Live ρ σ a := ⟨i, y, hi, hy, hl⟩
  have ca : ∀ y c, F.env.cells.lookup y = some c → c ≠ a := fun y c e q => (R.cap y c e).1 (q ▸ ma)
  refine ⟨R.stat, fun b o' e => k b o' (fun q => ?_) (fun q => by have := R.L0; rw [← q, e] at this; cases this) (R.keep b o' e), R.gens, R.os, ?_, ?_, ?_, R.cown, by simp [R.len], ?_, ?_, ?_, fun q => R.offL (q.set hi hy hl), R.L0, R.above, R.fzl, ?_⟩
  · have := R.fresh i a y hi hy hl hf; rw [← q, e] at this; cases this
  · obtain ⟨m, h1, hm⟩ := R.loc
    exact ⟨m, kn m h1, hm⟩
  · intro x' av e q
    obtain ⟨c, o', v, h1, h2, h3, h4⟩ := R.cel x' av e q
    exact ⟨c, o', v, h1, k _ _ (ca _ _ h1) (R.cap x' c h1).2.1 h2, h3, h4⟩
  · intro y' c e
    obtain ⟨h2, h3, o', v, h4, h5⟩ := R.cap y' c e
    exact ⟨fun q => h2 (q.set hi hy hl), h3, o', v, k _ _ (ca _ _ e) h3 h4, h5⟩
  · intro j l b z u h1 h2 h3 h4 h5 h6
    have old : ∀ (j : Nat) (z : AO), (σ.hp.set i x)[j]? = some z → z.live = true → ∃ z', σ.hp[j]? = some z' ∧ z'.live = true := fun j z e hz => by
      by_cases hj : j = i
      · subst hj; exact ⟨y, hy, hl⟩
      · exact ⟨z, by rw [List.getElem?_set_ne (Ne.symm hj)] at e; exact e, hz⟩
    obtain ⟨z', a1, a2⟩ := old j z h3 h4
    obtain ⟨u', b1, b2⟩ := old l u h5 h6
    exact R.nodup j l b z' u' h1 h2 a1 a2 b1 b2
  · intro j b z h1 h2
    by_cases hj : j = i
    · subst hj
      rw [hi] at h1; cases h1
      rw [List.getElem?_set_self (R.len ▸ ia)] at h2; cases h2
      exact hx
    · rw [List.getElem?_set_ne (Ne.symm hj)] at h2
      refine (R.objs j b z h1 h2).map fun hz o' u v => ⟨o', k b o' (fun q => ?_) (fun q => R.offL (q ▸ ⟨j, z, h1, h2, hz⟩)) u, v⟩
      subst q
      exact hj (R.nodup j i b z y h1 hi h2 hz hy hl)
  · intro j b z h1 h2 h3 h4
    by_cases hj : j = i
    · subst hj
      exact R.fresh j b y h1 hy hl h4
    · rw [List.getElem?_set_ne (Ne.symm hj)] at h2
      exact R.fresh j b z h1 h2 h3 h4
  · intro j z hj h2 h3
    have hji : i ≠ j := by (first | lia | omega)
    dsimp only at h2
    rw [List.getElem?_set_ne hji] at h2
    exact R.low j z hj h2 h3
theorem Rel.put (R : Rel F ρ σ s) {i : Nat} {x y : AO} {o : Obj} {h' : Heap} {t : Nat} {a : Addr} (hi : ρ[i]? = some a) (hy : σ.hp[i]? = some y) (hl : y.live = true) (hf : F.fz ≤ i) (ho : h'.get? a = some o) (hx : OIs F.hf ρ x o)
    (k : ∀ b, b ≠ a → h'.get? b = s.heap.get? b) : Rel F ρ { σ with hp := σ.hp.set i x } { s with heap := h', toks := t } :=
  R.putW hi hy hl hf (.mk ⟨o, ho, hx⟩) (fun b o' n _ e => (k b n).trans e) fun m ⟨o', es, ep, h1, h2⟩ => ⟨o', es, ep, (k _ fun (q : F.env.locals = a) => R.offL (q ▸ ⟨i, y, hi, hy, hl⟩)).trans h1, h2⟩
noncomputable def upd (x : Str) (v : AV) (l : List (Str × AV)) : List (Str × AV) := (x, v) :: l
theorem lookup_upd (x y : Str) (v : AV) (l : List (Str × AV)) : (upd x v l).lookup y = if y = x then some v else l.lookup y := by
  unfold upd
  rw [List.lookup_cons]
  by_cases h : y = x
  · subst h; simp
  · have : (y == x) = false := beq_eq_false_iff_ne.mpr h
    rw [this, if_neg h]
/-- a local name is stored -/
theorem Rel.setL (R : Rel F ρ σ s) {x : Str} {av : AV} {v : Value} {h' : Heap} {t : Nat} {m' : Str → Option Value} (hk : F.env.kindOf x = some .local) (hc : conc ρ av v)
    (hm' : ∀ m, s.heap.Ns F.env.locals m → m' = fun y => if y = x then some v else m y) (hn : h'.Ns F.env.locals m') (hs : Heap.SameBut F.env.locals s.heap h') :
    Rel F ρ { σ with loc := upd x av σ.loc } { s with heap := h', toks := t } := by
  obtain ⟨m, h1, h2⟩ := R.loc
  have em := hm' m h1
  subst em
  refine ⟨R.stat, fun b o e => (hs.2 b fun q => ?_).trans (R.keep b o e), R.gens, R.os, ⟨_, hn, ?_⟩, ?_, ?_, R.cown, R.len, R.nodup, ?_, R.fresh, R.offL, R.L0, R.above, R.fzl, R.low⟩
  · have := R.L0; rw [← q, e] at this; cases this
  · intro y av' e q
    rw [lookup_upd] at e
    by_cases hy : y = x
    · rw [if_pos hy] at e; cases e
      exact ⟨v, if_pos hy, hc⟩
    · rw [if_neg hy] at e
      obtain ⟨u, a, b⟩ := h2 y av' e q
      exact ⟨u, by rw [if_neg hy]; exact a, b⟩
  · intro y av' e q
    rw [lookup_upd] at e
    by_cases hy : y = x
    · subst hy; rw [hk] at q; cases q
    · rw [if_neg hy] at e
      obtain ⟨c, o, u, a1, a2, a3, a4⟩ := R.cel y av' e q
      exact ⟨c, o, u, a1, (hs.2 c (R.cap y c a1).2.1).trans a2, a3, a4⟩
  · intro y c e
    obtain ⟨a1, a2, o, u, a3, a4⟩ := R.cap y c e
    exact ⟨a1, a2, o, u, (hs.2 c a2).trans a3, a4⟩
  · intro i a y h1 h2
    exact (R.objs i a y h1 h2).map fun hl o u w => ⟨o, (hs.2 a fun q => R.offL (q ▸ ⟨i, y, h1, h2, hl⟩)).trans u, w⟩
/-- a name in a cell is stored -/
theorem Rel.setC (R : Rel F ρ σ s) (ok : F.Ok) (hown : F.own = true) {x : Str} {c : Addr} {av : AV} {v : Value} {h' : Heap} {t : Nat} {o' : Obj} (hk : F.env.kindOf x = some .cell) (hcl : F.env.cells.lookup x = some c) (hc : conc ρ av v)
    (ho : h'.get? c = some o') (hd : o'.data = .cell (some v)) (hs : Heap.SameBut c s.heap h') : Rel F ρ { σ with loc := upd x av σ.loc } { s with heap := h', toks := t } := by
  obtain ⟨c1, c2, _⟩ := R.cap x c hcl
  refine ⟨R.stat, fun b o e => (hs.2 b fun q => ?_).trans (R.keep b o e), R.gens, R.os, ?_, ?_, ?_, R.cown, R.len, R.nodup, ?_, R.fresh, R.offL, R.L0, R.above, R.fzl, R.low⟩
  · have := R.cown hown x c hcl; rw [← q, e] at this; cases this
  · obtain ⟨m, h1, h2⟩ := R.loc
    refine ⟨m, h1.sameBut hs (Ne.symm c2), ?_⟩
    intro y av' e q
    rw [lookup_upd] at e
    by_cases hy : y = x
    · subst hy; rw [hk] at q; cases q
    · rw [if_neg hy] at e
      exact h2 y av' e q
  · intro y av' e q
    rw [lookup_upd] at e
    by_cases hy : y = x
    · subst hy; rw [if_pos rfl] at e; cases e
      exact ⟨c, o', v, hcl, ho, hd, hc⟩
    · rw [if_neg hy] at e
      obtain ⟨c', o, u, a1, a2, a3, a4⟩ := R.cel y av' e q
      exact ⟨c', o, u, a1, (hs.2 c' fun q' => hy (ok.inj hown y x c' a1 (q' ▸ hcl))).trans a2, a3, a4⟩
  · intro y c' e
    obtain ⟨a1, a2, o, u, a3, a4⟩ := R.cap y c' e
    by_cases q : c' = c
    · subst q; exact ⟨a1, a2, o', _, ho, hd⟩
    · exact ⟨a1, a2, o, u, (hs.2 c' q).trans a3, a4⟩
  · intro i a y h1 h2
    exact (R.objs i a y h1 h2).map fun hl o u w => ⟨o, (hs.2 a fun q => c1 (q ▸ ⟨i, y, h1, h2, hl⟩)).trans u, w⟩
end
end W58
end
section
open PySem PySem.W PyProof.Rows PySem.Calls
set_option maxRecDepth 100000
set_option maxHeartbeats 0
namespace W58
noncomputable section
abbrev pw : Program := PySem.Challenge.pw_wo0058_01
noncomputable def noPos : Pos := ⟨0, 0, 0, 0⟩
noncomputable def cell (i : Nat) : Stmt := pw.main.body.getD i (.Pass noPos)
noncomputable def inner (i j : Nat) : Stmt := match cell i with
  | .ClassDef _ _ _ body _ _ _ _ _ _ _ => body.getD j (.Pass noPos)
  | _ => .Pass noPos
noncomputable def fArgs : Stmt → Arguments
  | .FunctionDef _ a _ _ _ _ _ _ _ _ => a
  | _ => ⟨[], [], none, [], [], none, []⟩
noncomputable def fBody : Stmt → List Stmt
  | .FunctionDef _ _ b _ _ _ _ _ _ _ => b
  | _ => []
noncomputable def fScope : Stmt → Scope
  | .FunctionDef _ _ _ _ _ _ s _ _ _ => s
  | _ => ⟨.function, [], false, false, []⟩
abbrev vs (x : String) (t : Nat) : Value := .str (Str.ofString x) t
abbrev en (P : Params) (x : String) (t : Nat) (v : Value) : DictEntry := ⟨PyData.keyHash P (Str.ofString x), .str (Str.ofString x) t, v⟩
noncomputable def life : Life := {}
noncomputable def o11_A (_ : Params) : Obj := ⟨(.type "tuple"), none, .seq [].toArray 0, [].toArray⟩
noncomputable def o12_A (_ : Params) : Obj := ⟨.none, none, .fields [].toArray, [].toArray⟩
noncomputable def o13_A (_ : Params) : Obj := ⟨(.type "code"), none, .fields [(vs "<module>" 182), (vs "<module>" 183), (vs "/claim/cut.py" 184), (.int (1) 0), (.int (0) 0), (.int (0) 0), (.int (0) 0), (.int (0) 0), (.ref 11), (.bool false), (.int (181) 0), (.ref 12), .none, .none, .none, .none, (.int (185) 0), (.int (1) 0), (vs "/claim/cut.py" 186)].toArray, [].toArray⟩
noncomputable def o14_A (_ : Params) : Obj := ⟨(.type "frame"), none, .plain, [some (.ref 13), some (.ref 3), some (.ref 3), none, some (vs "__main__" 164), none, some (.ref 0)].toArray⟩
noncomputable def heapA (P : Params) : Heap := ⟨⟨[boot_o_0 P, boot_o_1 P, boot_o_2 P, boot_o_3 P, boot_o_4 P, boot_o_5 P, boot_o_6 P, boot_o_7 P, boot_o_8 P, boot_o_9 P, boot_o_10 P, o11_A P, o12_A P, o13_A P, o14_A P]⟩, life⟩
noncomputable def treeA (P : Params) : BT := (.node (boot_o_0 P) (.node (boot_o_1 P) (.node (boot_o_3 P) (.node (boot_o_7 P) .nil .nil) (.node (o11_A P) .nil .nil)) (.node (boot_o_5 P) (.node (boot_o_9 P) .nil .nil) (.node (o13_A P) .nil .nil))) (.node (boot_o_2 P) (.node (boot_o_4 P) (.node (boot_o_8 P) .nil .nil) (.node (o12_A P) .nil .nil)) (.node (boot_o_6 P) (.node (boot_o_10 P) .nil .nil) (.node (o14_A P) .nil .nil))))
noncomputable def o2_1 (P : Params) : Obj := ⟨.none, none, .dict ([en P "type.__subclasses__.Exception.0" 212 (.int (31) 0), en P "type.__subclasses__.Exception.n" 213 (.int (1) 0)] : List DictEntry).toArray 2, [].toArray⟩
noncomputable def o3_1 (P : Params) : Obj := ⟨(.type "dict"), none, .dict ([en P "__name__" 165 (vs "cpy313.stringprep" 243), en P "__doc__" 166 .none, en P "__package__" 167 .none, en P "__loader__" 168 (.builtin "__main__.__loader__#opaque"), en P "__spec__" 169 .none, en P "__annotations__" 170 (.ref 6), en P "__builtins__" 171 (.ref 4), en P "__file__" 173 (vs "/claim/cut.py" 172), en P "__cached__" 174 .none, en P "_wall" 193 (.ref 21), en P "Error" 215 (.ref 31), en P "error_reply" 231 (.ref 44), en P "parse257" 242 (.ref 53)] : List DictEntry).toArray 13, [].toArray⟩
noncomputable def o12_1 (_ : Params) : Obj := ⟨.none, none, .fields [(.int (1) 0), (.int (0) 0), (.ref 20), (.int (5) 0), (.int (0) 0), (.ref 27), (.int (7) 0), (.int (0) 0), (.ref 40), (.int (9) 0), (.int (0) 0), (.ref 52)].toArray, [].toArray⟩
noncomputable def o15_1 (_ : Params) : Obj := ⟨(.type "tuple"), none, .seq [].toArray 0, [].toArray⟩
noncomputable def o16_1 (_ : Params) : Obj := ⟨.none, none, .fields [].toArray, [].toArray⟩
noncomputable def o17_1 (_ : Params) : Obj := ⟨(.type "tuple"), none, .seq [(vs "k" 190)].toArray 0, [].toArray⟩
noncomputable def o18_1 (_ : Params) : Obj := ⟨(.type "tuple"), none, .seq [].toArray 0, [].toArray⟩
noncomputable def o19_1 (_ : Params) : Obj := ⟨.none, none, .func { name := Str.ofString "_wall", qualname := Str.ofString "_wall", params := fArgs (cell 0), body := .stmts (fBody (cell 0)), scope := fScope (cell 0), globals := 0, closure := [], defaults := .none, kwdefaults := .none, doc := .none, pyModule := .none, annotations := none, code := .none, closureTuple := .none, builtins := 0 }, [].toArray⟩
noncomputable def o20_1 (_ : Params) : Obj := ⟨(.type "code"), none, .fields [(vs "_wall" 187), (vs "_wall" 188), (vs "/claim/cut.py" 189), (.int (1) 0), (.int (1) 0), (.int (0) 0), (.int (0) 0), (.int (3) 0), (.ref 15), (.bool true), (.int (181) 0), (.ref 16), .none, (.ref 17), (.ref 18), (.ref 19), (.int (191) 0), (.int (1) 0), (vs "/claim/cut.py" 192)].toArray, [].toArray⟩
noncomputable def o21_1 (_ : Params) : Obj := ⟨(.type "function"), none, .func { name := Str.ofString "_wall", qualname := Str.ofString "_wall", params := fArgs (cell 0), body := .stmts (fBody (cell 0)), scope := fScope (cell 0), globals := 3, closure := [], defaults := .none, kwdefaults := .none, doc := .none, pyModule := (vs "__main__" 164), annotations := none, code := (.ref 20), closureTuple := .none, builtins := 0 }, [].toArray⟩
noncomputable def o22_1 (_ : Params) : Obj := ⟨(.type "tuple"), none, .seq [(.type "Exception")].toArray 0, [].toArray⟩
noncomputable def o23_1 (_ : Params) : Obj := ⟨(.type "builtin_function_or_method"), none, .fields [(.builtin "type.__prepare__"), (.type "type")].toArray, [].toArray⟩
noncomputable def o24_1 (P : Params) : Obj := ⟨(.type "dict"), none, .dict ([en P "__module__" 203 (vs "cpy313.ftplib" 194), en P "__qualname__" 205 (vs "Error" 204), en P "__firstlineno__" 207 (.int (5) 206), en P "__static_attributes__" 208 (.ref 29)] : List DictEntry).toArray 4, [].toArray⟩
noncomputable def o25_1 (_ : Params) : Obj := ⟨(.type "tuple"), none, .seq [].toArray 0, [].toArray⟩
noncomputable def o26_1 (_ : Params) : Obj := ⟨.none, none, .fields [].toArray, [].toArray⟩
noncomputable def o27_1 (_ : Params) : Obj := ⟨(.type "code"), none, .fields [(vs "Error" 198), (vs "Error" 199), (vs "/claim/cut.py" 200), (.int (5) 0), (.int (0) 0), (.int (0) 0), (.int (0) 0), (.int (0) 0), (.ref 25), (.bool false), (.int (181) 0), (.ref 26), .none, .none, .none, .none, (.int (201) 0), (.int (5) 0), (vs "/claim/cut.py" 202)].toArray, [].toArray⟩
noncomputable def o28_1 (_ : Params) : Obj := ⟨(.type "frame"), none, .plain, [some (.ref 27), some (.ref 3), some (.ref 24), none, some (vs "cpy313.ftplib" 194), none, some (.ref 0)].toArray⟩
noncomputable def o29_1 (_ : Params) : Obj := ⟨(.type "tuple"), none, .seq [].toArray 0, [].toArray⟩
noncomputable def o30_1 (P : Params) : Obj := ⟨(.type "dict"), none, .dict ([en P "__module__" 203 (vs "cpy313.ftplib" 194), en P "__firstlineno__" 207 (.int (5) 206), en P "__static_attributes__" 208 (.ref 29), en P "__weakref__" 210 (.ref 32), en P "__doc__" 211 .none] : List DictEntry).toArray 3, [].toArray⟩
noncomputable def o31_1 (_ : Params) : Obj := ⟨(.type "type"), none, .cls { name := Str.ofString "Error", bases := [(.type "Exception")], mro := [(.ref 31), (.type "Exception"), (.type "BaseException"), (.type "object")], ns := 30, qualname := Str.ofString "Error", hasDict := true, slotNames := [], subclasses := [(.ref 44)], abstract := false, collection := none, hasDel := false }, [some (.ref 22), none, some (vs "Error" 196), some (vs "Error" 204), some (.builtin "Exception.__new__"), some (.bool true)].toArray⟩
noncomputable def o32_1 (_ : Params) : Obj := ⟨(.type "getset_descriptor"), none, .fields [(vs "__weakref__" 209), (.ref 31), (.builtin "ExceptionGroup.__weakref__"), .none].toArray, [].toArray⟩
noncomputable def o33_1 (_ : Params) : Obj := ⟨(.type "super"), none, .fields [(.ref 31), (.ref 31), (.ref 31)].toArray, [].toArray⟩
noncomputable def o34_1 (_ : Params) : Obj := ⟨(.type "builtin_function_or_method"), none, .fields [(.builtin "object.__init_subclass__"), (.ref 31)].toArray, [].toArray⟩
noncomputable def o35_1 (_ : Params) : Obj := ⟨(.type "tuple"), none, .seq [(.ref 31)].toArray 0, [].toArray⟩
noncomputable def o36_1 (_ : Params) : Obj := ⟨(.type "builtin_function_or_method"), none, .fields [(.builtin "type.__prepare__"), (.type "type")].toArray, [].toArray⟩
noncomputable def o37_1 (P : Params) : Obj := ⟨(.type "dict"), none, .dict ([en P "__module__" 223 (vs "cpy313.ftplib" 194), en P "__qualname__" 225 (vs "error_reply" 224), en P "__firstlineno__" 227 (.int (7) 226), en P "__static_attributes__" 228 (.ref 42)] : List DictEntry).toArray 4, [].toArray⟩
noncomputable def o38_1 (_ : Params) : Obj := ⟨(.type "tuple"), none, .seq [].toArray 0, [].toArray⟩
noncomputable def o39_1 (_ : Params) : Obj := ⟨.none, none, .fields [].toArray, [].toArray⟩
noncomputable def o40_1 (_ : Params) : Obj := ⟨(.type "code"), none, .fields [(vs "error_reply" 218), (vs "error_reply" 219), (vs "/claim/cut.py" 220), (.int (7) 0), (.int (0) 0), (.int (0) 0), (.int (0) 0), (.int (0) 0), (.ref 38), (.bool false), (.int (181) 0), (.ref 39), .none, .none, .none, .none, (.int (221) 0), (.int (7) 0), (vs "/claim/cut.py" 222)].toArray, [].toArray⟩
noncomputable def o41_1 (_ : Params) : Obj := ⟨(.type "frame"), none, .plain, [some (.ref 40), some (.ref 3), some (.ref 37), none, some (vs "cpy313.ftplib" 194), none, some (.ref 0)].toArray⟩
noncomputable def o42_1 (_ : Params) : Obj := ⟨(.type "tuple"), none, .seq [].toArray 0, [].toArray⟩
noncomputable def o43_1 (P : Params) : Obj := ⟨(.type "dict"), none, .dict ([en P "__module__" 223 (vs "cpy313.ftplib" 194), en P "__firstlineno__" 227 (.int (7) 226), en P "__static_attributes__" 228 (.ref 42), en P "__doc__" 229 .none] : List DictEntry).toArray 2, [].toArray⟩
noncomputable def o44_1 (_ : Params) : Obj := ⟨(.type "type"), none, .cls { name := Str.ofString "error_reply", bases := [(.ref 31)], mro := [(.ref 44), (.ref 31), (.type "Exception"), (.type "BaseException"), (.type "object")], ns := 43, qualname := Str.ofString "error_reply", hasDict := true, slotNames := [], subclasses := [], abstract := false, collection := none, hasDel := false }, [some (.ref 35), none, some (vs "error_reply" 216), some (vs "error_reply" 224), some (.builtin "Exception.__new__"), some (.bool true)].toArray⟩
noncomputable def o45_1 (_ : Params) : Obj := ⟨(.type "super"), none, .fields [(.ref 44), (.ref 44), (.ref 44)].toArray, [].toArray⟩
noncomputable def o46_1 (_ : Params) : Obj := ⟨(.type "builtin_function_or_method"), none, .fields [(.builtin "object.__init_subclass__"), (.ref 44)].toArray, [].toArray⟩
noncomputable def o47_1 (_ : Params) : Obj := ⟨(.type "tuple"), none, .seq [].toArray 0, [].toArray⟩
noncomputable def o48_1 (_ : Params) : Obj := ⟨.none, none, .fields [].toArray, [].toArray⟩
noncomputable def o49_1 (_ : Params) : Obj := ⟨(.type "tuple"), none, .seq [(vs "resp" 235), (vs "dirname" 236), (vs "i" 237), (vs "n" 238), (vs "c" 239)].toArray 0, [].toArray⟩
noncomputable def o50_1 (_ : Params) : Obj := ⟨(.type "tuple"), none, .seq [].toArray 0, [].toArray⟩
noncomputable def o51_1 (_ : Params) : Obj := ⟨.none, none, .func { name := Str.ofString "parse257", qualname := Str.ofString "parse257", params := fArgs (cell 4), body := .stmts (fBody (cell 4)), scope := fScope (cell 4), globals := 0, closure := [], defaults := .none, kwdefaults := .none, doc := .none, pyModule := .none, annotations := none, code := .none, closureTuple := .none, builtins := 0 }, [].toArray⟩
noncomputable def o52_1 (_ : Params) : Obj := ⟨(.type "code"), none, .fields [(vs "parse257" 232), (vs "parse257" 233), (vs "/claim/cut.py" 234), (.int (9) 0), (.int (1) 0), (.int (0) 0), (.int (0) 0), (.int (3) 0), (.ref 47), (.bool true), (.int (181) 0), (.ref 48), .none, (.ref 49), (.ref 50), (.ref 51), (.int (240) 0), (.int (9) 0), (vs "/claim/cut.py" 241)].toArray, [].toArray⟩
noncomputable def o53_1 (_ : Params) : Obj := ⟨(.type "function"), none, .func { name := Str.ofString "parse257", qualname := Str.ofString "parse257", params := fArgs (cell 4), body := .stmts (fBody (cell 4)), scope := fScope (cell 4), globals := 3, closure := [], defaults := .none, kwdefaults := .none, doc := .none, pyModule := (vs "cpy313.ftplib" 194), annotations := none, code := (.ref 52), closureTuple := .none, builtins := 0 }, [].toArray⟩
noncomputable def tree1 (P : Params) : BT := (.node (boot_o_0 P) (.node (boot_o_1 P) (.node (o3_1 P) (.node (boot_o_7 P) (.node (o15_1 P) (.node (o31_1 P) .nil .nil) (.node (o47_1 P) .nil .nil)) (.node (o23_1 P) (.node (o39_1 P) .nil .nil) .nil)) (.node (o11_A P) (.node (o19_1 P) (.node (o35_1 P) .nil .nil) (.node (o51_1 P) .nil .nil)) (.node (o27_1 P) (.node (o43_1 P) .nil .nil) .nil))) (.node (boot_o_5 P) (.node (boot_o_9 P) (.node (o17_1 P) (.node (o33_1 P) .nil .nil) (.node (o49_1 P) .nil .nil)) (.node (o25_1 P) (.node (o41_1 P) .nil .nil) .nil)) (.node (o13_A P) (.node (o21_1 P) (.node (o37_1 P) .nil .nil) (.node (o53_1 P) .nil .nil)) (.node (o29_1 P) (.node (o45_1 P) .nil .nil) .nil)))) (.node (o2_1 P) (.node (boot_o_4 P) (.node (boot_o_8 P) (.node (o16_1 P) (.node (o32_1 P) .nil .nil) (.node (o48_1 P) .nil .nil)) (.node (o24_1 P) (.node (o40_1 P) .nil .nil) .nil)) (.node (o12_1 P) (.node (o20_1 P) (.node (o36_1 P) .nil .nil) (.node (o52_1 P) .nil .nil)) (.node (o28_1 P) (.node (o44_1 P) .nil .nil) .nil))) (.node (boot_o_6 P) (.node (boot_o_10 P) (.node (o18_1 P) (.node (o34_1 P) .nil .nil) (.node (o50_1 P) .nil .nil)) (.node (o26_1 P) (.node (o42_1 P) .nil .nil) .nil)) (.node (o14_A P) (.node (o22_1 P) (.node (o38_1 P) .nil .nil) .nil) (.node (o30_1 P) (.node (o46_1 P) .nil .nil) .nil)))))
noncomputable def o3_2 (P : Params) : Obj := ⟨(.type "dict"), none, .dict ([en P "__name__" 165 (vs "cpy313.stringprep" 243), en P "__doc__" 166 .none, en P "__package__" 167 .none, en P "__loader__" 168 (.builtin "__main__.__loader__#opaque"), en P "__spec__" 169 .none, en P "__annotations__" 170 (.ref 6), en P "__builtins__" 171 (.ref 4), en P "__file__" 173 (vs "/claim/cut.py" 172), en P "__cached__" 174 .none, en P "_wall" 193 (.ref 21), en P "Error" 215 (.ref 31), en P "error_reply" 231 (.ref 44), en P "parse257" 242 (.ref 53), en P "b1_set" 304 (.ref 61)] : List DictEntry).toArray 14, [].toArray⟩
noncomputable def o54_2 (_ : Params) : Obj := ⟨(.type "list"), none, .seq [(.int (173) 245), (.int (847) 246), (.int (6150) 247), (.int (6155) 248), (.int (6156) 249), (.int (6157) 250), (.int (8203) 251), (.int (8204) 252), (.int (8205) 253), (.int (8288) 254), (.int (65279) 255)].toArray 0, [].toArray⟩
noncomputable def o55_2 (_ : Params) : Obj := ⟨(.type "range"), none, .fields [(.int (65024) 256), (.int (65040) 257), (.int (1) 258)].toArray, [].toArray⟩
noncomputable def o56_2 (_ : Params) : Obj := ⟨(.type "list"), none, .seq [(.int (65024) 261), (.int (65025) 262), (.int (65026) 263), (.int (65027) 264), (.int (65028) 265), (.int (65029) 266), (.int (65030) 267), (.int (65031) 268), (.int (65032) 269), (.int (65033) 270), (.int (65034) 271), (.int (65035) 272), (.int (65036) 273), (.int (65037) 274), (.int (65038) 275), (.int (65039) 276)].toArray 18, [].toArray⟩
noncomputable def o57_2 (_ : Params) : Obj := ⟨(.type "range_iterator"), none, .fields [(.int (65040) 0), (.int (0) 0), (.int (1) 0)].toArray, [].toArray⟩
noncomputable def o58_2 (_ : Params) : Obj := ⟨(.type "tuple"), none, .seq [].toArray 0, [].toArray⟩
noncomputable def o59_2 (_ : Params) : Obj := ⟨(.type "StopIteration"), none, .fields [(.ref 58), .none, .none, .none, (.bool false), .none].toArray, [].toArray⟩
noncomputable def o60_2 (_ : Params) : Obj := ⟨(.type "list"), none, .seq [(.int (173) 245), (.int (847) 246), (.int (6150) 247), (.int (6155) 248), (.int (6156) 249), (.int (6157) 250), (.int (8203) 251), (.int (8204) 252), (.int (8205) 253), (.int (8288) 254), (.int (65279) 255), (.int (65024) 261), (.int (65025) 262), (.int (65026) 263), (.int (65027) 264), (.int (65028) 265), (.int (65029) 266), (.int (65030) 267), (.int (65031) 268), (.int (65032) 269), (.int (65033) 270), (.int (65034) 271), (.int (65035) 272), (.int (65036) 273), (.int (65037) 274), (.int (65038) 275), (.int (65039) 276)].toArray 0, [].toArray⟩
noncomputable def o61_2 (P : Params) : Obj := ⟨(.type "set"), none, .set [(65024, (.int (65024) 261)), (65025, (.int (65025) 262)), (65026, (.int (65026) 263)), (65027, (.int (65027) 264)), (65028, (.int (65028) 265)), (65029, (.int (65029) 266)), (6150, (.int (6150) 247)), (65030, (.int (65030) 267)), (65031, (.int (65031) 268)), (65032, (.int (65032) 269)), (65033, (.int (65033) 270)), (6155, (.int (6155) 248)), (6156, (.int (6156) 249)), (6157, (.int (6157) 250)), (8203, (.int (8203) 251)), (8204, (.int (8204) 252)), (8205, (.int (8205) 253)), (65034, (.int (65034) 271)), (65035, (.int (65035) 272)), (65036, (.int (65036) 273)), (65037, (.int (65037) 274)), (65038, (.int (65038) 275)), (65039, (.int (65039) 276)), (173, (.int (173) 245)), (847, (.int (847) 246)), (8288, (.int (8288) 254)), (65279, (.int (65279) 255))].toArray 29 { mask := 127, place := [0, 1, 2, 3, 4, 5, 6, 7, 8, 9, 10, 11, 12, 13, 14, 15, 16, 17, 18, 19, 20, 21, 22, 45, 79, 96, 127].toArray, dummies := [].toArray, finger := 0, led := !(P.followText "set-order"), moves := 2, plain := true }, [].toArray⟩
noncomputable def o62_2 (_ : Params) : Obj := ⟨(.type "list_iterator"), none, .fields [.none, (.int (27) 0)].toArray, [].toArray⟩
noncomputable def o63_2 (_ : Params) : Obj := ⟨(.type "tuple"), none, .seq [].toArray 0, [].toArray⟩
noncomputable def o64_2 (_ : Params) : Obj := ⟨(.type "StopIteration"), none, .fields [(.ref 63), .none, .none, .none, (.bool false), .none].toArray, [].toArray⟩
noncomputable def tree2 (P : Params) : BT := (.node (boot_o_0 P) (.node (boot_o_1 P) (.node (o3_2 P) (.node (boot_o_7 P) (.node (o15_1 P) (.node (o31_1 P) (.node (o63_2 P) .nil .nil) .nil) (.node (o47_1 P) .nil .nil)) (.node (o23_1 P) (.node (o39_1 P) .nil .nil) (.node (o55_2 P) .nil .nil))) (.node (o11_A P) (.node (o19_1 P) (.node (o35_1 P) .nil .nil) (.node (o51_1 P) .nil .nil)) (.node (o27_1 P) (.node (o43_1 P) .nil .nil) (.node (o59_2 P) .nil .nil)))) (.node (boot_o_5 P) (.node (boot_o_9 P) (.node (o17_1 P) (.node (o33_1 P) .nil .nil) (.node (o49_1 P) .nil .nil)) (.node (o25_1 P) (.node (o41_1 P) .nil .nil) (.node (o57_2 P) .nil .nil))) (.node (o13_A P) (.node (o21_1 P) (.node (o37_1 P) .nil .nil) (.node (o53_1 P) .nil .nil)) (.node (o29_1 P) (.node (o45_1 P) .nil .nil) (.node (o61_2 P) .nil .nil))))) (.node (o2_1 P) (.node (boot_o_4 P) (.node (boot_o_8 P) (.node (o16_1 P) (.node (o32_1 P) (.node (o64_2 P) .nil .nil) .nil) (.node (o48_1 P) .nil .nil)) (.node (o24_1 P) (.node (o40_1 P) .nil .nil) (.node (o56_2 P) .nil .nil))) (.node (o12_1 P) (.node (o20_1 P) (.node (o36_1 P) .nil .nil) (.node (o52_1 P) .nil .nil)) (.node (o28_1 P) (.node (o44_1 P) .nil .nil) (.node (o60_2 P) .nil .nil)))) (.node (boot_o_6 P) (.node (boot_o_10 P) (.node (o18_1 P) (.node (o34_1 P) .nil .nil) (.node (o50_1 P) .nil .nil)) (.node (o26_1 P) (.node (o42_1 P) .nil .nil) (.node (o58_2 P) .nil .nil))) (.node (o14_A P) (.node (o22_1 P) (.node (o38_1 P) .nil .nil) (.node (o54_2 P) .nil .nil)) (.node (o30_1 P) (.node (o46_1 P) .nil .nil) (.node (o62_2 P) .nil .nil))))))
noncomputable def o3_3 (P : Params) : Obj := ⟨(.type "dict"), none, .dict ([en P "__name__" 165 (vs "cpy313.tabnanny" 312), en P "__doc__" 166 .none, en P "__package__" 167 .none, en P "__loader__" 168 (.builtin "__main__.__loader__#opaque"), en P "__spec__" 169 .none, en P "__annotations__" 170 (.ref 6), en P "__builtins__" 171 (.ref 4), en P "__file__" 173 (vs "/claim/cut.py" 172), en P "__cached__" 174 .none, en P "_wall" 193 (.ref 21), en P "Error" 215 (.ref 31), en P "error_reply" 231 (.ref 44), en P "parse257" 242 (.ref 53), en P "b1_set" 304 (.ref 61), en P "in_table_b1" 311 (.ref 71), en P "Whitespace" 413 (.ref 133)] : List DictEntry).toArray 16, [].toArray⟩
noncomputable def o12_3 (_ : Params) : Obj := ⟨.none, none, .fields [(.int (1) 0), (.int (0) 0), (.ref 20), (.int (5) 0), (.int (0) 0), (.ref 27), (.int (7) 0), (.int (0) 0), (.ref 40), (.int (9) 0), (.int (0) 0), (.ref 52), (.int (28) 0), (.int (0) 0), (.ref 70), (.int (31) 0), (.int (0) 0), (.ref 77)].toArray, [].toArray⟩
noncomputable def o65_3 (_ : Params) : Obj := ⟨(.type "tuple"), none, .seq [].toArray 0, [].toArray⟩
noncomputable def o66_3 (_ : Params) : Obj := ⟨.none, none, .fields [].toArray, [].toArray⟩
noncomputable def o67_3 (_ : Params) : Obj := ⟨(.type "tuple"), none, .seq [(vs "code" 308)].toArray 0, [].toArray⟩
noncomputable def o68_3 (_ : Params) : Obj := ⟨(.type "tuple"), none, .seq [].toArray 0, [].toArray⟩
noncomputable def o69_3 (_ : Params) : Obj := ⟨.none, none, .func { name := Str.ofString "in_table_b1", qualname := Str.ofString "in_table_b1", params := fArgs (cell 7), body := .stmts (fBody (cell 7)), scope := fScope (cell 7), globals := 0, closure := [], defaults := .none, kwdefaults := .none, doc := .none, pyModule := .none, annotations := none, code := .none, closureTuple := .none, builtins := 0 }, [].toArray⟩
noncomputable def o70_3 (_ : Params) : Obj := ⟨(.type "code"), none, .fields [(vs "in_table_b1" 305), (vs "in_table_b1" 306), (vs "/claim/cut.py" 307), (.int (28) 0), (.int (1) 0), (.int (0) 0), (.int (0) 0), (.int (3) 0), (.ref 65), (.bool true), (.int (181) 0), (.ref 66), .none, (.ref 67), (.ref 68), (.ref 69), (.int (309) 0), (.int (28) 0), (vs "/claim/cut.py" 310)].toArray, [].toArray⟩
noncomputable def o71_3 (_ : Params) : Obj := ⟨(.type "function"), none, .func { name := Str.ofString "in_table_b1", qualname := Str.ofString "in_table_b1", params := fArgs (cell 7), body := .stmts (fBody (cell 7)), scope := fScope (cell 7), globals := 3, closure := [], defaults := .none, kwdefaults := .none, doc := .none, pyModule := (vs "cpy313.stringprep" 243), annotations := none, code := (.ref 70), closureTuple := .none, builtins := 0 }, [].toArray⟩
noncomputable def o72_3 (_ : Params) : Obj := ⟨(.type "tuple"), none, .seq [].toArray 0, [].toArray⟩
noncomputable def o73_3 (_ : Params) : Obj := ⟨(.type "builtin_function_or_method"), none, .fields [(.builtin "type.__prepare__"), (.type "type")].toArray, [].toArray⟩
noncomputable def o74_3 (P : Params) : Obj := ⟨(.type "dict"), none, .dict ([en P "__module__" 321 (vs "cpy313.tabnanny" 312), en P "__qualname__" 323 (vs "Whitespace" 322), en P "__firstlineno__" 325 (.int (31) 324), en P "S" 329 (vs " " 327), en P "T" 330 (vs "\t" 328), en P "__init__" 345 (.ref 88), en P "longest_run_of_spaces" 354 (.ref 95), en P "indent_level" 366 (.ref 102), en P "equal" 374 (.ref 109), en P "not_equal_witness" 382 (.ref 116), en P "less" 392 (.ref 123), en P "not_less_witness" 400 (.ref 130), en P "__static_attributes__" 406 (.ref 131)] : List DictEntry).toArray 13, [].toArray⟩
noncomputable def o75_3 (_ : Params) : Obj := ⟨(.type "tuple"), none, .seq [].toArray 0, [].toArray⟩
noncomputable def o76_3 (_ : Params) : Obj := ⟨.none, none, .fields [(.int (34) 0), (.int (4) 0), (.ref 87), (.int (57) 0), (.int (4) 0), (.ref 94), (.int (61) 0), (.int (4) 0), (.ref 101), (.int (68) 0), (.int (4) 0), (.ref 108), (.int (71) 0), (.int (4) 0), (.ref 115), (.int (74) 0), (.int (4) 0), (.ref 122), (.int (85) 0), (.int (4) 0), (.ref 129)].toArray, [].toArray⟩
noncomputable def o77_3 (_ : Params) : Obj := ⟨(.type "code"), none, .fields [(vs "Whitespace" 316), (vs "Whitespace" 317), (vs "/claim/cut.py" 318), (.int (31) 0), (.int (0) 0), (.int (0) 0), (.int (0) 0), (.int (0) 0), (.ref 75), (.bool false), (.int (181) 0), (.ref 76), .none, .none, .none, .none, (.int (319) 0), (.int (31) 0), (vs "/claim/cut.py" 320)].toArray, [].toArray⟩
noncomputable def o78_3 (_ : Params) : Obj := ⟨(.type "frame"), none, .plain, [some (.ref 77), some (.ref 3), some (.ref 74), none, some (vs "cpy313.tabnanny" 312), none, some (.ref 0)].toArray⟩
noncomputable def o79_3 (_ : Params) : Obj := ⟨(.type "str_ascii_iterator"), none, .fields [.none, (.int (2) 0)].toArray, [].toArray⟩
noncomputable def o80_3 (_ : Params) : Obj := ⟨(.type "tuple"), none, .seq [].toArray 0, [].toArray⟩
noncomputable def o81_3 (_ : Params) : Obj := ⟨(.type "StopIteration"), none, .fields [(.ref 80), .none, .none, .none, (.bool false), .none].toArray, [].toArray⟩
noncomputable def o82_3 (_ : Params) : Obj := ⟨(.type "tuple"), none, .seq [].toArray 0, [].toArray⟩
noncomputable def o83_3 (_ : Params) : Obj := ⟨.none, none, .fields [].toArray, [].toArray⟩
noncomputable def o84_3 (_ : Params) : Obj := ⟨(.type "tuple"), none, .seq [(vs "self" 334), (vs "ws" 335), (vs "S" 336), (vs "T" 337), (vs "count" 338), (vs "b" 339), (vs "n" 340), (vs "nt" 341), (vs "ch" 342)].toArray 0, [].toArray⟩
noncomputable def o85_3 (_ : Params) : Obj := ⟨(.type "tuple"), none, .seq [].toArray 0, [].toArray⟩
noncomputable def o86_3 (_ : Params) : Obj := ⟨.none, none, .func { name := Str.ofString "__init__", qualname := Str.ofString "Whitespace.__init__", params := fArgs (inner 9 1), body := .stmts (fBody (inner 9 1)), scope := fScope (inner 9 1), globals := 0, closure := [], defaults := .none, kwdefaults := .none, doc := .none, pyModule := .none, annotations := none, code := .none, closureTuple := .none, builtins := 0 }, [].toArray⟩
noncomputable def o87_3 (_ : Params) : Obj := ⟨(.type "code"), none, .fields [(vs "__init__" 331), (vs "Whitespace.__init__" 332), (vs "/claim/cut.py" 333), (.int (34) 0), (.int (2) 0), (.int (0) 0), (.int (0) 0), (.int (3) 0), (.ref 82), (.bool true), (.int (181) 0), (.ref 83), .none, (.ref 84), (.ref 85), (.ref 86), (.int (343) 0), (.int (34) 0), (vs "/claim/cut.py" 344)].toArray, [].toArray⟩
noncomputable def o88_3 (_ : Params) : Obj := ⟨(.type "function"), none, .func { name := Str.ofString "__init__", qualname := Str.ofString "Whitespace.__init__", params := fArgs (inner 9 1), body := .stmts (fBody (inner 9 1)), scope := fScope (inner 9 1), globals := 3, closure := [], defaults := .none, kwdefaults := .none, doc := .none, pyModule := (vs "cpy313.tabnanny" 312), annotations := none, code := (.ref 87), closureTuple := .none, builtins := 0 }, [].toArray⟩
noncomputable def o89_3 (_ : Params) : Obj := ⟨(.type "tuple"), none, .seq [].toArray 0, [].toArray⟩
noncomputable def o90_3 (_ : Params) : Obj := ⟨.none, none, .fields [].toArray, [].toArray⟩
noncomputable def o91_3 (_ : Params) : Obj := ⟨(.type "tuple"), none, .seq [(vs "self" 349), (vs "count" 350), (vs "trailing" 351)].toArray 0, [].toArray⟩
noncomputable def o92_3 (_ : Params) : Obj := ⟨(.type "tuple"), none, .seq [].toArray 0, [].toArray⟩
noncomputable def o93_3 (_ : Params) : Obj := ⟨.none, none, .func { name := Str.ofString "longest_run_of_spaces", qualname := Str.ofString "Whitespace.longest_run_of_spaces", params := fArgs (inner 9 2), body := .stmts (fBody (inner 9 2)), scope := fScope (inner 9 2), globals := 0, closure := [], defaults := .none, kwdefaults := .none, doc := .none, pyModule := .none, annotations := none, code := .none, closureTuple := .none, builtins := 0 }, [].toArray⟩
noncomputable def o94_3 (_ : Params) : Obj := ⟨(.type "code"), none, .fields [(vs "longest_run_of_spaces" 346), (vs "Whitespace.longest_run_of_spaces" 347), (vs "/claim/cut.py" 348), (.int (57) 0), (.int (1) 0), (.int (0) 0), (.int (0) 0), (.int (3) 0), (.ref 89), (.bool true), (.int (181) 0), (.ref 90), .none, (.ref 91), (.ref 92), (.ref 93), (.int (352) 0), (.int (57) 0), (vs "/claim/cut.py" 353)].toArray, [].toArray⟩
noncomputable def o95_3 (_ : Params) : Obj := ⟨(.type "function"), none, .func { name := Str.ofString "longest_run_of_spaces", qualname := Str.ofString "Whitespace.longest_run_of_spaces", params := fArgs (inner 9 2), body := .stmts (fBody (inner 9 2)), scope := fScope (inner 9 2), globals := 3, closure := [], defaults := .none, kwdefaults := .none, doc := .none, pyModule := (vs "cpy313.tabnanny" 312), annotations := none, code := (.ref 94), closureTuple := .none, builtins := 0 }, [].toArray⟩
noncomputable def o96_3 (_ : Params) : Obj := ⟨(.type "tuple"), none, .seq [].toArray 0, [].toArray⟩
noncomputable def o97_3 (_ : Params) : Obj := ⟨.none, none, .fields [].toArray, [].toArray⟩
noncomputable def o98_3 (_ : Params) : Obj := ⟨(.type "tuple"), none, .seq [(vs "self" 358), (vs "tabsize" 359), (vs "count" 360), (vs "trailing" 361), (vs "il" 362), (vs "i" 363)].toArray 0, [].toArray⟩
noncomputable def o99_3 (_ : Params) : Obj := ⟨(.type "tuple"), none, .seq [].toArray 0, [].toArray⟩
noncomputable def o100_3 (_ : Params) : Obj := ⟨.none, none, .func { name := Str.ofString "indent_level", qualname := Str.ofString "Whitespace.indent_level", params := fArgs (inner 9 3), body := .stmts (fBody (inner 9 3)), scope := fScope (inner 9 3), globals := 0, closure := [], defaults := .none, kwdefaults := .none, doc := .none, pyModule := .none, annotations := none, code := .none, closureTuple := .none, builtins := 0 }, [].toArray⟩
noncomputable def o101_3 (_ : Params) : Obj := ⟨(.type "code"), none, .fields [(vs "indent_level" 355), (vs "Whitespace.indent_level" 356), (vs "/claim/cut.py" 357), (.int (61) 0), (.int (2) 0), (.int (0) 0), (.int (0) 0), (.int (3) 0), (.ref 96), (.bool true), (.int (181) 0), (.ref 97), .none, (.ref 98), (.ref 99), (.ref 100), (.int (364) 0), (.int (61) 0), (vs "/claim/cut.py" 365)].toArray, [].toArray⟩
noncomputable def o102_3 (_ : Params) : Obj := ⟨(.type "function"), none, .func { name := Str.ofString "indent_level", qualname := Str.ofString "Whitespace.indent_level", params := fArgs (inner 9 3), body := .stmts (fBody (inner 9 3)), scope := fScope (inner 9 3), globals := 3, closure := [], defaults := .none, kwdefaults := .none, doc := .none, pyModule := (vs "cpy313.tabnanny" 312), annotations := none, code := (.ref 101), closureTuple := .none, builtins := 0 }, [].toArray⟩
noncomputable def o103_3 (_ : Params) : Obj := ⟨(.type "tuple"), none, .seq [].toArray 0, [].toArray⟩
noncomputable def o104_3 (_ : Params) : Obj := ⟨.none, none, .fields [].toArray, [].toArray⟩
noncomputable def o105_3 (_ : Params) : Obj := ⟨(.type "tuple"), none, .seq [(vs "self" 370), (vs "other" 371)].toArray 0, [].toArray⟩
noncomputable def o106_3 (_ : Params) : Obj := ⟨(.type "tuple"), none, .seq [].toArray 0, [].toArray⟩
noncomputable def o107_3 (_ : Params) : Obj := ⟨.none, none, .func { name := Str.ofString "equal", qualname := Str.ofString "Whitespace.equal", params := fArgs (inner 9 4), body := .stmts (fBody (inner 9 4)), scope := fScope (inner 9 4), globals := 0, closure := [], defaults := .none, kwdefaults := .none, doc := .none, pyModule := .none, annotations := none, code := .none, closureTuple := .none, builtins := 0 }, [].toArray⟩
noncomputable def o108_3 (_ : Params) : Obj := ⟨(.type "code"), none, .fields [(vs "equal" 367), (vs "Whitespace.equal" 368), (vs "/claim/cut.py" 369), (.int (68) 0), (.int (2) 0), (.int (0) 0), (.int (0) 0), (.int (3) 0), (.ref 103), (.bool true), (.int (181) 0), (.ref 104), .none, (.ref 105), (.ref 106), (.ref 107), (.int (372) 0), (.int (68) 0), (vs "/claim/cut.py" 373)].toArray, [].toArray⟩
noncomputable def o109_3 (_ : Params) : Obj := ⟨(.type "function"), none, .func { name := Str.ofString "equal", qualname := Str.ofString "Whitespace.equal", params := fArgs (inner 9 4), body := .stmts (fBody (inner 9 4)), scope := fScope (inner 9 4), globals := 3, closure := [], defaults := .none, kwdefaults := .none, doc := .none, pyModule := (vs "cpy313.tabnanny" 312), annotations := none, code := (.ref 108), closureTuple := .none, builtins := 0 }, [].toArray⟩
noncomputable def o110_3 (_ : Params) : Obj := ⟨(.type "tuple"), none, .seq [].toArray 0, [].toArray⟩
noncomputable def o111_3 (_ : Params) : Obj := ⟨.none, none, .fields [].toArray, [].toArray⟩
noncomputable def o112_3 (_ : Params) : Obj := ⟨(.type "tuple"), none, .seq [(vs "self" 378), (vs "other" 379)].toArray 0, [].toArray⟩
noncomputable def o113_3 (_ : Params) : Obj := ⟨(.type "tuple"), none, .seq [].toArray 0, [].toArray⟩
noncomputable def o114_3 (_ : Params) : Obj := ⟨.none, none, .func { name := Str.ofString "not_equal_witness", qualname := Str.ofString "Whitespace.not_equal_witness", params := fArgs (inner 9 5), body := .stmts (fBody (inner 9 5)), scope := fScope (inner 9 5), globals := 0, closure := [], defaults := .none, kwdefaults := .none, doc := .none, pyModule := .none, annotations := none, code := .none, closureTuple := .none, builtins := 0 }, [].toArray⟩
noncomputable def o115_3 (_ : Params) : Obj := ⟨(.type "code"), none, .fields [(vs "not_equal_witness" 375), (vs "Whitespace.not_equal_witness" 376), (vs "/claim/cut.py" 377), (.int (71) 0), (.int (2) 0), (.int (0) 0), (.int (0) 0), (.int (3) 0), (.ref 110), (.bool true), (.int (181) 0), (.ref 111), .none, (.ref 112), (.ref 113), (.ref 114), (.int (380) 0), (.int (71) 0), (vs "/claim/cut.py" 381)].toArray, [].toArray⟩
noncomputable def o116_3 (_ : Params) : Obj := ⟨(.type "function"), none, .func { name := Str.ofString "not_equal_witness", qualname := Str.ofString "Whitespace.not_equal_witness", params := fArgs (inner 9 5), body := .stmts (fBody (inner 9 5)), scope := fScope (inner 9 5), globals := 3, closure := [], defaults := .none, kwdefaults := .none, doc := .none, pyModule := (vs "cpy313.tabnanny" 312), annotations := none, code := (.ref 115), closureTuple := .none, builtins := 0 }, [].toArray⟩
noncomputable def o117_3 (_ : Params) : Obj := ⟨(.type "tuple"), none, .seq [].toArray 0, [].toArray⟩
noncomputable def o118_3 (_ : Params) : Obj := ⟨.none, none, .fields [].toArray, [].toArray⟩
noncomputable def o119_3 (_ : Params) : Obj := ⟨(.type "tuple"), none, .seq [(vs "self" 386), (vs "other" 387), (vs "n" 388), (vs "ts" 389)].toArray 0, [].toArray⟩
noncomputable def o120_3 (_ : Params) : Obj := ⟨(.type "tuple"), none, .seq [].toArray 0, [].toArray⟩
noncomputable def o121_3 (_ : Params) : Obj := ⟨.none, none, .func { name := Str.ofString "less", qualname := Str.ofString "Whitespace.less", params := fArgs (inner 9 6), body := .stmts (fBody (inner 9 6)), scope := fScope (inner 9 6), globals := 0, closure := [], defaults := .none, kwdefaults := .none, doc := .none, pyModule := .none, annotations := none, code := .none, closureTuple := .none, builtins := 0 }, [].toArray⟩
noncomputable def o122_3 (_ : Params) : Obj := ⟨(.type "code"), none, .fields [(vs "less" 383), (vs "Whitespace.less" 384), (vs "/claim/cut.py" 385), (.int (74) 0), (.int (2) 0), (.int (0) 0), (.int (0) 0), (.int (3) 0), (.ref 117), (.bool true), (.int (181) 0), (.ref 118), .none, (.ref 119), (.ref 120), (.ref 121), (.int (390) 0), (.int (74) 0), (vs "/claim/cut.py" 391)].toArray, [].toArray⟩
noncomputable def o123_3 (_ : Params) : Obj := ⟨(.type "function"), none, .func { name := Str.ofString "less", qualname := Str.ofString "Whitespace.less", params := fArgs (inner 9 6), body := .stmts (fBody (inner 9 6)), scope := fScope (inner 9 6), globals := 3, closure := [], defaults := .none, kwdefaults := .none, doc := .none, pyModule := (vs "cpy313.tabnanny" 312), annotations := none, code := (.ref 122), closureTuple := .none, builtins := 0 }, [].toArray⟩
noncomputable def o124_3 (_ : Params) : Obj := ⟨(.type "tuple"), none, .seq [].toArray 0, [].toArray⟩
noncomputable def o125_3 (_ : Params) : Obj := ⟨.none, none, .fields [].toArray, [].toArray⟩
noncomputable def o126_3 (_ : Params) : Obj := ⟨(.type "tuple"), none, .seq [(vs "self" 396), (vs "other" 397)].toArray 0, [].toArray⟩
noncomputable def o127_3 (_ : Params) : Obj := ⟨(.type "tuple"), none, .seq [].toArray 0, [].toArray⟩
noncomputable def o128_3 (_ : Params) : Obj := ⟨.none, none, .func { name := Str.ofString "not_less_witness", qualname := Str.ofString "Whitespace.not_less_witness", params := fArgs (inner 9 7), body := .stmts (fBody (inner 9 7)), scope := fScope (inner 9 7), globals := 0, closure := [], defaults := .none, kwdefaults := .none, doc := .none, pyModule := .none, annotations := none, code := .none, closureTuple := .none, builtins := 0 }, [].toArray⟩
noncomputable def o129_3 (_ : Params) : Obj := ⟨(.type "code"), none, .fields [(vs "not_less_witness" 393), (vs "Whitespace.not_less_witness" 394), (vs "/claim/cut.py" 395), (.int (85) 0), (.int (2) 0), (.int (0) 0), (.int (0) 0), (.int (3) 0), (.ref 124), (.bool true), (.int (181) 0), (.ref 125), .none, (.ref 126), (.ref 127), (.ref 128), (.int (398) 0), (.int (85) 0), (vs "/claim/cut.py" 399)].toArray, [].toArray⟩
noncomputable def o130_3 (_ : Params) : Obj := ⟨(.type "function"), none, .func { name := Str.ofString "not_less_witness", qualname := Str.ofString "Whitespace.not_less_witness", params := fArgs (inner 9 7), body := .stmts (fBody (inner 9 7)), scope := fScope (inner 9 7), globals := 3, closure := [], defaults := .none, kwdefaults := .none, doc := .none, pyModule := (vs "cpy313.tabnanny" 312), annotations := none, code := (.ref 129), closureTuple := .none, builtins := 0 }, [].toArray⟩
noncomputable def o131_3 (_ : Params) : Obj := ⟨(.type "tuple"), none, .seq [(vs "is_simple" 401), (vs "n" 402), (vs "norm" 403), (vs "nt" 404), (vs "raw" 405)].toArray 0, [].toArray⟩
noncomputable def o132_3 (P : Params) : Obj := ⟨(.type "dict"), none, .dict ([en P "__module__" 321 (vs "cpy313.tabnanny" 312), en P "__firstlineno__" 325 (.int (31) 324), en P "S" 329 (vs " " 327), en P "T" 330 (vs "\t" 328), en P "__init__" 345 (.ref 88), en P "longest_run_of_spaces" 354 (.ref 95), en P "indent_level" 366 (.ref 102), en P "equal" 374 (.ref 109), en P "not_equal_witness" 382 (.ref 116), en P "less" 392 (.ref 123), en P "not_less_witness" 400 (.ref 130), en P "__static_attributes__" 406 (.ref 131), en P "__dict__" 408 (.ref 134), en P "__weakref__" 410 (.ref 135), en P "__doc__" 411 .none] : List DictEntry).toArray 4, [].toArray⟩
noncomputable def o133_3 (_ : Params) : Obj := ⟨(.type "type"), none, .cls { name := Str.ofString "Whitespace", bases := [(.type "object")], mro := [(.ref 133), (.type "object")], ns := 132, qualname := Str.ofString "Whitespace", hasDict := true, slotNames := [], subclasses := [], abstract := false, collection := none, hasDel := false }, [none, none, some (vs "Whitespace" 314), some (vs "Whitespace" 322), some (.builtin "object.__new__"), some (.bool true)].toArray⟩
noncomputable def o134_3 (_ : Params) : Obj := ⟨(.type "getset_descriptor"), none, .fields [(vs "__dict__" 407), (.ref 133), (.builtin "function.__dict__"), (.builtin "function.__dict__#set")].toArray, [].toArray⟩
noncomputable def o135_3 (_ : Params) : Obj := ⟨(.type "getset_descriptor"), none, .fields [(vs "__weakref__" 409), (.ref 133), (.builtin "ExceptionGroup.__weakref__"), .none].toArray, [].toArray⟩
noncomputable def o136_3 (_ : Params) : Obj := ⟨(.type "super"), none, .fields [(.ref 133), (.ref 133), (.ref 133)].toArray, [].toArray⟩
noncomputable def o137_3 (_ : Params) : Obj := ⟨(.type "builtin_function_or_method"), none, .fields [(.builtin "object.__init_subclass__"), (.ref 133)].toArray, [].toArray⟩
noncomputable def tree3 (P : Params) : BT := (.node (boot_o_0 P) (.node (boot_o_1 P) (.node (o3_3 P) (.node (boot_o_7 P) (.node (o15_1 P) (.node (o31_1 P) (.node (o63_2 P) (.node (o127_3 P) .nil .nil) .nil) (.node (o95_3 P) .nil .nil)) (.node (o47_1 P) (.node (o79_3 P) .nil .nil) (.node (o111_3 P) .nil .nil))) (.node (o23_1 P) (.node (o39_1 P) (.node (o71_3 P) (.node (o135_3 P) .nil .nil) .nil) (.node (o103_3 P) .nil .nil)) (.node (o55_2 P) (.node (o87_3 P) .nil .nil) (.node (o119_3 P) .nil .nil)))) (.node (o11_A P) (.node (o19_1 P) (.node (o35_1 P) (.node (o67_3 P) (.node (o131_3 P) .nil .nil) .nil) (.node (o99_3 P) .nil .nil)) (.node (o51_1 P) (.node (o83_3 P) .nil .nil) (.node (o115_3 P) .nil .nil))) (.node (o27_1 P) (.node (o43_1 P) (.node (o75_3 P) .nil .nil) (.node (o107_3 P) .nil .nil)) (.node (o59_2 P) (.node (o91_3 P) .nil .nil) (.node (o123_3 P) .nil .nil))))) (.node (boot_o_5 P) (.node (boot_o_9 P) (.node (o17_1 P) (.node (o33_1 P) (.node (o65_3 P) (.node (o129_3 P) .nil .nil) .nil) (.node (o97_3 P) .nil .nil)) (.node (o49_1 P) (.node (o81_3 P) .nil .nil) (.node (o113_3 P) .nil .nil))) (.node (o25_1 P) (.node (o41_1 P) (.node (o73_3 P) (.node (o137_3 P) .nil .nil) .nil) (.node (o105_3 P) .nil .nil)) (.node (o57_2 P) (.node (o89_3 P) .nil .nil) (.node (o121_3 P) .nil .nil)))) (.node (o13_A P) (.node (o21_1 P) (.node (o37_1 P) (.node (o69_3 P) (.node (o133_3 P) .nil .nil) .nil) (.node (o101_3 P) .nil .nil)) (.node (o53_1 P) (.node (o85_3 P) .nil .nil) (.node (o117_3 P) .nil .nil))) (.node (o29_1 P) (.node (o45_1 P) (.node (o77_3 P) .nil .nil) (.node (o109_3 P) .nil .nil)) (.node (o61_2 P) (.node (o93_3 P) .nil .nil) (.node (o125_3 P) .nil .nil)))))) (.node (o2_1 P) (.node (boot_o_4 P) (.node (boot_o_8 P) (.node (o16_1 P) (.node (o32_1 P) (.node (o64_2 P) (.node (o128_3 P) .nil .nil) .nil) (.node (o96_3 P) .nil .nil)) (.node (o48_1 P) (.node (o80_3 P) .nil .nil) (.node (o112_3 P) .nil .nil))) (.node (o24_1 P) (.node (o40_1 P) (.node (o72_3 P) (.node (o136_3 P) .nil .nil) .nil) (.node (o104_3 P) .nil .nil)) (.node (o56_2 P) (.node (o88_3 P) .nil .nil) (.node (o120_3 P) .nil .nil)))) (.node (o12_3 P) (.node (o20_1 P) (.node (o36_1 P) (.node (o68_3 P) (.node (o132_3 P) .nil .nil) .nil) (.node (o100_3 P) .nil .nil)) (.node (o52_1 P) (.node (o84_3 P) .nil .nil) (.node (o116_3 P) .nil .nil))) (.node (o28_1 P) (.node (o44_1 P) (.node (o76_3 P) .nil .nil) (.node (o108_3 P) .nil .nil)) (.node (o60_2 P) (.node (o92_3 P) .nil .nil) (.node (o124_3 P) .nil .nil))))) (.node (boot_o_6 P) (.node (boot_o_10 P) (.node (o18_1 P) (.node (o34_1 P) (.node (o66_3 P) (.node (o130_3 P) .nil .nil) .nil) (.node (o98_3 P) .nil .nil)) (.node (o50_1 P) (.node (o82_3 P) .nil .nil) (.node (o114_3 P) .nil .nil))) (.node (o26_1 P) (.node (o42_1 P) (.node (o74_3 P) .nil .nil) (.node (o106_3 P) .nil .nil)) (.node (o58_2 P) (.node (o90_3 P) .nil .nil) (.node (o122_3 P) .nil .nil)))) (.node (o14_A P) (.node (o22_1 P) (.node (o38_1 P) (.node (o70_3 P) (.node (o134_3 P) .nil .nil) .nil) (.node (o102_3 P) .nil .nil)) (.node (o54_2 P) (.node (o86_3 P) .nil .nil) (.node (o118_3 P) .nil .nil))) (.node (o30_1 P) (.node (o46_1 P) (.node (o78_3 P) .nil .nil) (.node (o110_3 P) .nil .nil)) (.node (o62_2 P) (.node (o94_3 P) .nil .nil) (.node (o126_3 P) .nil .nil)))))))
noncomputable def o3_4 (P : Params) : Obj := ⟨(.type "dict"), none, .dict ([en P "__name__" 165 (vs "law_wo0058_01" 458), en P "__doc__" 166 .none, en P "__package__" 167 .none, en P "__loader__" 168 (.builtin "__main__.__loader__#opaque"), en P "__spec__" 169 .none, en P "__annotations__" 170 (.ref 6), en P "__builtins__" 171 (.ref 4), en P "__file__" 173 (vs "/claim/cut.py" 172), en P "__cached__" 174 .none, en P "_wall" 193 (.ref 21), en P "Error" 215 (.ref 31), en P "error_reply" 231 (.ref 44), en P "parse257" 242 (.ref 53), en P "b1_set" 304 (.ref 61), en P "in_table_b1" 311 (.ref 71), en P "Whitespace" 413 (.ref 133), en P "_raise_serialization_error" 422 (.ref 144), en P "_escape_cdata" 429 (.ref 151), en P "_escape_attrib" 436 (.ref 158), en P "_escape_attrib_html" 443 (.ref 165), en P "_escape_cdata_c14n" 450 (.ref 172), en P "_escape_attrib_c14n" 457 (.ref 179), en P "_law_hands" 469 (.ref 186), en P "_law_unseen" 475 (.ref 193), en P "_law_beside" 481 (.ref 200), en P "_law_written" 491 (.ref 207), en P "_law_spelled" 500 (.ref 214), en P "_law_free" 506 (.ref 219), en P "_law_lead" 512 (.ref 224), en P "law" 518 (.ref 229)] : List DictEntry).toArray 30, [].toArray⟩
noncomputable def o12_4 (_ : Params) : Obj := ⟨.none, none, .fields [(.int (1) 0), (.int (0) 0), (.ref 20), (.int (5) 0), (.int (0) 0), (.ref 27), (.int (7) 0), (.int (0) 0), (.ref 40), (.int (9) 0), (.int (0) 0), (.ref 52), (.int (28) 0), (.int (0) 0), (.ref 70), (.int (31) 0), (.int (0) 0), (.ref 77), (.int (88) 0), (.int (0) 0), (.ref 143), (.int (90) 0), (.int (0) 0), (.ref 150), (.int (101) 0), (.int (0) 0), (.ref 157), (.int (120) 0), (.int (0) 0), (.ref 164), (.int (131) 0), (.int (0) 0), (.ref 171), (.int (144) 0), (.int (0) 0), (.ref 178), (.int (162) 0), (.int (0) 0), (.ref 185), (.int (165) 0), (.int (0) 0), (.ref 192), (.int (167) 0), (.int (0) 0), (.ref 199), (.int (169) 0), (.int (0) 0), (.ref 206), (.int (173) 0), (.int (0) 0), (.ref 213), (.int (175) 0), (.int (0) 0), (.ref 218), (.int (183) 0), (.int (0) 0), (.ref 223), (.int (185) 0), (.int (0) 0), (.ref 228)].toArray, [].toArray⟩
noncomputable def o138_4 (_ : Params) : Obj := ⟨(.type "tuple"), none, .seq [].toArray 0, [].toArray⟩
noncomputable def o139_4 (_ : Params) : Obj := ⟨.none, none, .fields [].toArray, [].toArray⟩
noncomputable def o140_4 (_ : Params) : Obj := ⟨(.type "tuple"), none, .seq [(vs "text" 419)].toArray 0, [].toArray⟩
noncomputable def o141_4 (_ : Params) : Obj := ⟨(.type "tuple"), none, .seq [].toArray 0, [].toArray⟩
noncomputable def o142_4 (_ : Params) : Obj := ⟨.none, none, .func { name := Str.ofString "_raise_serialization_error", qualname := Str.ofString "_raise_serialization_error", params := fArgs (cell 11), body := .stmts (fBody (cell 11)), scope := fScope (cell 11), globals := 0, closure := [], defaults := .none, kwdefaults := .none, doc := .none, pyModule := .none, annotations := none, code := .none, closureTuple := .none, builtins := 0 }, [].toArray⟩
noncomputable def o143_4 (_ : Params) : Obj := ⟨(.type "code"), none, .fields [(vs "_raise_serialization_error" 416), (vs "_raise_serialization_error" 417), (vs "/claim/cut.py" 418), (.int (88) 0), (.int (1) 0), (.int (0) 0), (.int (0) 0), (.int (3) 0), (.ref 138), (.bool true), (.int (181) 0), (.ref 139), .none, (.ref 140), (.ref 141), (.ref 142), (.int (420) 0), (.int (88) 0), (vs "/claim/cut.py" 421)].toArray, [].toArray⟩
noncomputable def o144_4 (_ : Params) : Obj := ⟨(.type "function"), none, .func { name := Str.ofString "_raise_serialization_error", qualname := Str.ofString "_raise_serialization_error", params := fArgs (cell 11), body := .stmts (fBody (cell 11)), scope := fScope (cell 11), globals := 3, closure := [], defaults := .none, kwdefaults := .none, doc := .none, pyModule := (vs "cpy313.xml.etree.ElementTree" 414), annotations := none, code := (.ref 143), closureTuple := .none, builtins := 0 }, [].toArray⟩
noncomputable def o145_4 (_ : Params) : Obj := ⟨(.type "tuple"), none, .seq [].toArray 0, [].toArray⟩
noncomputable def o146_4 (_ : Params) : Obj := ⟨.none, none, .fields [].toArray, [].toArray⟩
noncomputable def o147_4 (_ : Params) : Obj := ⟨(.type "tuple"), none, .seq [(vs "text" 426)].toArray 0, [].toArray⟩
noncomputable def o148_4 (_ : Params) : Obj := ⟨(.type "tuple"), none, .seq [].toArray 0, [].toArray⟩
noncomputable def o149_4 (_ : Params) : Obj := ⟨.none, none, .func { name := Str.ofString "_escape_cdata", qualname := Str.ofString "_escape_cdata", params := fArgs (cell 12), body := .stmts (fBody (cell 12)), scope := fScope (cell 12), globals := 0, closure := [], defaults := .none, kwdefaults := .none, doc := .none, pyModule := .none, annotations := none, code := .none, closureTuple := .none, builtins := 0 }, [].toArray⟩
noncomputable def o150_4 (_ : Params) : Obj := ⟨(.type "code"), none, .fields [(vs "_escape_cdata" 423), (vs "_escape_cdata" 424), (vs "/claim/cut.py" 425), (.int (90) 0), (.int (1) 0), (.int (0) 0), (.int (0) 0), (.int (3) 0), (.ref 145), (.bool true), (.int (181) 0), (.ref 146), .none, (.ref 147), (.ref 148), (.ref 149), (.int (427) 0), (.int (90) 0), (vs "/claim/cut.py" 428)].toArray, [].toArray⟩
noncomputable def o151_4 (_ : Params) : Obj := ⟨(.type "function"), none, .func { name := Str.ofString "_escape_cdata", qualname := Str.ofString "_escape_cdata", params := fArgs (cell 12), body := .stmts (fBody (cell 12)), scope := fScope (cell 12), globals := 3, closure := [], defaults := .none, kwdefaults := .none, doc := .none, pyModule := (vs "cpy313.xml.etree.ElementTree" 414), annotations := none, code := (.ref 150), closureTuple := .none, builtins := 0 }, [].toArray⟩
noncomputable def o152_4 (_ : Params) : Obj := ⟨(.type "tuple"), none, .seq [].toArray 0, [].toArray⟩
noncomputable def o153_4 (_ : Params) : Obj := ⟨.none, none, .fields [].toArray, [].toArray⟩
noncomputable def o154_4 (_ : Params) : Obj := ⟨(.type "tuple"), none, .seq [(vs "text" 433)].toArray 0, [].toArray⟩
noncomputable def o155_4 (_ : Params) : Obj := ⟨(.type "tuple"), none, .seq [].toArray 0, [].toArray⟩
noncomputable def o156_4 (_ : Params) : Obj := ⟨.none, none, .func { name := Str.ofString "_escape_attrib", qualname := Str.ofString "_escape_attrib", params := fArgs (cell 13), body := .stmts (fBody (cell 13)), scope := fScope (cell 13), globals := 0, closure := [], defaults := .none, kwdefaults := .none, doc := .none, pyModule := .none, annotations := none, code := .none, closureTuple := .none, builtins := 0 }, [].toArray⟩
noncomputable def o157_4 (_ : Params) : Obj := ⟨(.type "code"), none, .fields [(vs "_escape_attrib" 430), (vs "_escape_attrib" 431), (vs "/claim/cut.py" 432), (.int (101) 0), (.int (1) 0), (.int (0) 0), (.int (0) 0), (.int (3) 0), (.ref 152), (.bool true), (.int (181) 0), (.ref 153), .none, (.ref 154), (.ref 155), (.ref 156), (.int (434) 0), (.int (101) 0), (vs "/claim/cut.py" 435)].toArray, [].toArray⟩
noncomputable def o158_4 (_ : Params) : Obj := ⟨(.type "function"), none, .func { name := Str.ofString "_escape_attrib", qualname := Str.ofString "_escape_attrib", params := fArgs (cell 13), body := .stmts (fBody (cell 13)), scope := fScope (cell 13), globals := 3, closure := [], defaults := .none, kwdefaults := .none, doc := .none, pyModule := (vs "cpy313.xml.etree.ElementTree" 414), annotations := none, code := (.ref 157), closureTuple := .none, builtins := 0 }, [].toArray⟩
noncomputable def o159_4 (_ : Params) : Obj := ⟨(.type "tuple"), none, .seq [].toArray 0, [].toArray⟩
noncomputable def o160_4 (_ : Params) : Obj := ⟨.none, none, .fields [].toArray, [].toArray⟩
noncomputable def o161_4 (_ : Params) : Obj := ⟨(.type "tuple"), none, .seq [(vs "text" 440)].toArray 0, [].toArray⟩
noncomputable def o162_4 (_ : Params) : Obj := ⟨(.type "tuple"), none, .seq [].toArray 0, [].toArray⟩
noncomputable def o163_4 (_ : Params) : Obj := ⟨.none, none, .func { name := Str.ofString "_escape_attrib_html", qualname := Str.ofString "_escape_attrib_html", params := fArgs (cell 14), body := .stmts (fBody (cell 14)), scope := fScope (cell 14), globals := 0, closure := [], defaults := .none, kwdefaults := .none, doc := .none, pyModule := .none, annotations := none, code := .none, closureTuple := .none, builtins := 0 }, [].toArray⟩
noncomputable def o164_4 (_ : Params) : Obj := ⟨(.type "code"), none, .fields [(vs "_escape_attrib_html" 437), (vs "_escape_attrib_html" 438), (vs "/claim/cut.py" 439), (.int (120) 0), (.int (1) 0), (.int (0) 0), (.int (0) 0), (.int (3) 0), (.ref 159), (.bool true), (.int (181) 0), (.ref 160), .none, (.ref 161), (.ref 162), (.ref 163), (.int (441) 0), (.int (120) 0), (vs "/claim/cut.py" 442)].toArray, [].toArray⟩
noncomputable def o165_4 (_ : Params) : Obj := ⟨(.type "function"), none, .func { name := Str.ofString "_escape_attrib_html", qualname := Str.ofString "_escape_attrib_html", params := fArgs (cell 14), body := .stmts (fBody (cell 14)), scope := fScope (cell 14), globals := 3, closure := [], defaults := .none, kwdefaults := .none, doc := .none, pyModule := (vs "cpy313.xml.etree.ElementTree" 414), annotations := none, code := (.ref 164), closureTuple := .none, builtins := 0 }, [].toArray⟩
noncomputable def o166_4 (_ : Params) : Obj := ⟨(.type "tuple"), none, .seq [].toArray 0, [].toArray⟩
noncomputable def o167_4 (_ : Params) : Obj := ⟨.none, none, .fields [].toArray, [].toArray⟩
noncomputable def o168_4 (_ : Params) : Obj := ⟨(.type "tuple"), none, .seq [(vs "text" 447)].toArray 0, [].toArray⟩
noncomputable def o169_4 (_ : Params) : Obj := ⟨(.type "tuple"), none, .seq [].toArray 0, [].toArray⟩
noncomputable def o170_4 (_ : Params) : Obj := ⟨.none, none, .func { name := Str.ofString "_escape_cdata_c14n", qualname := Str.ofString "_escape_cdata_c14n", params := fArgs (cell 15), body := .stmts (fBody (cell 15)), scope := fScope (cell 15), globals := 0, closure := [], defaults := .none, kwdefaults := .none, doc := .none, pyModule := .none, annotations := none, code := .none, closureTuple := .none, builtins := 0 }, [].toArray⟩
noncomputable def o171_4 (_ : Params) : Obj := ⟨(.type "code"), none, .fields [(vs "_escape_cdata_c14n" 444), (vs "_escape_cdata_c14n" 445), (vs "/claim/cut.py" 446), (.int (131) 0), (.int (1) 0), (.int (0) 0), (.int (0) 0), (.int (3) 0), (.ref 166), (.bool true), (.int (181) 0), (.ref 167), .none, (.ref 168), (.ref 169), (.ref 170), (.int (448) 0), (.int (131) 0), (vs "/claim/cut.py" 449)].toArray, [].toArray⟩
noncomputable def o172_4 (_ : Params) : Obj := ⟨(.type "function"), none, .func { name := Str.ofString "_escape_cdata_c14n", qualname := Str.ofString "_escape_cdata_c14n", params := fArgs (cell 15), body := .stmts (fBody (cell 15)), scope := fScope (cell 15), globals := 3, closure := [], defaults := .none, kwdefaults := .none, doc := .none, pyModule := (vs "cpy313.xml.etree.ElementTree" 414), annotations := none, code := (.ref 171), closureTuple := .none, builtins := 0 }, [].toArray⟩
noncomputable def o173_4 (_ : Params) : Obj := ⟨(.type "tuple"), none, .seq [].toArray 0, [].toArray⟩
noncomputable def o174_4 (_ : Params) : Obj := ⟨.none, none, .fields [].toArray, [].toArray⟩
noncomputable def o175_4 (_ : Params) : Obj := ⟨(.type "tuple"), none, .seq [(vs "text" 454)].toArray 0, [].toArray⟩
noncomputable def o176_4 (_ : Params) : Obj := ⟨(.type "tuple"), none, .seq [].toArray 0, [].toArray⟩
noncomputable def o177_4 (_ : Params) : Obj := ⟨.none, none, .func { name := Str.ofString "_escape_attrib_c14n", qualname := Str.ofString "_escape_attrib_c14n", params := fArgs (cell 16), body := .stmts (fBody (cell 16)), scope := fScope (cell 16), globals := 0, closure := [], defaults := .none, kwdefaults := .none, doc := .none, pyModule := .none, annotations := none, code := .none, closureTuple := .none, builtins := 0 }, [].toArray⟩
noncomputable def o178_4 (_ : Params) : Obj := ⟨(.type "code"), none, .fields [(vs "_escape_attrib_c14n" 451), (vs "_escape_attrib_c14n" 452), (vs "/claim/cut.py" 453), (.int (144) 0), (.int (1) 0), (.int (0) 0), (.int (0) 0), (.int (3) 0), (.ref 173), (.bool true), (.int (181) 0), (.ref 174), .none, (.ref 175), (.ref 176), (.ref 177), (.int (455) 0), (.int (144) 0), (vs "/claim/cut.py" 456)].toArray, [].toArray⟩
noncomputable def o179_4 (_ : Params) : Obj := ⟨(.type "function"), none, .func { name := Str.ofString "_escape_attrib_c14n", qualname := Str.ofString "_escape_attrib_c14n", params := fArgs (cell 16), body := .stmts (fBody (cell 16)), scope := fScope (cell 16), globals := 3, closure := [], defaults := .none, kwdefaults := .none, doc := .none, pyModule := (vs "cpy313.xml.etree.ElementTree" 414), annotations := none, code := (.ref 178), closureTuple := .none, builtins := 0 }, [].toArray⟩
noncomputable def o180_4 (_ : Params) : Obj := ⟨(.type "tuple"), none, .seq [].toArray 0, [].toArray⟩
noncomputable def o181_4 (_ : Params) : Obj := ⟨.none, none, .fields [].toArray, [].toArray⟩
noncomputable def o182_4 (_ : Params) : Obj := ⟨(.type "tuple"), none, .seq [(vs "amp" 463), (vs "lt" 464), (vs "gt" 465), (vs "quot" 466)].toArray 0, [].toArray⟩
noncomputable def o183_4 (_ : Params) : Obj := ⟨(.type "tuple"), none, .seq [].toArray 0, [].toArray⟩
noncomputable def o184_4 (_ : Params) : Obj := ⟨.none, none, .func { name := Str.ofString "_law_hands", qualname := Str.ofString "_law_hands", params := fArgs (cell 18), body := .stmts (fBody (cell 18)), scope := fScope (cell 18), globals := 0, closure := [], defaults := .none, kwdefaults := .none, doc := .none, pyModule := .none, annotations := none, code := .none, closureTuple := .none, builtins := 0 }, [].toArray⟩
noncomputable def o185_4 (_ : Params) : Obj := ⟨(.type "code"), none, .fields [(vs "_law_hands" 460), (vs "_law_hands" 461), (vs "/claim/cut.py" 462), (.int (162) 0), (.int (0) 0), (.int (0) 0), (.int (0) 0), (.int (3) 0), (.ref 180), (.bool true), (.int (181) 0), (.ref 181), .none, (.ref 182), (.ref 183), (.ref 184), (.int (467) 0), (.int (162) 0), (vs "/claim/cut.py" 468)].toArray, [].toArray⟩
noncomputable def o186_4 (_ : Params) : Obj := ⟨(.type "function"), none, .func { name := Str.ofString "_law_hands", qualname := Str.ofString "_law_hands", params := fArgs (cell 18), body := .stmts (fBody (cell 18)), scope := fScope (cell 18), globals := 3, closure := [], defaults := .none, kwdefaults := .none, doc := .none, pyModule := (vs "law_wo0058_01" 458), annotations := none, code := (.ref 185), closureTuple := .none, builtins := 0 }, [].toArray⟩
noncomputable def o187_4 (_ : Params) : Obj := ⟨(.type "tuple"), none, .seq [].toArray 0, [].toArray⟩
noncomputable def o188_4 (_ : Params) : Obj := ⟨.none, none, .fields [].toArray, [].toArray⟩
noncomputable def o189_4 (_ : Params) : Obj := ⟨(.type "tuple"), none, .seq [].toArray 0, [].toArray⟩
noncomputable def o190_4 (_ : Params) : Obj := ⟨(.type "tuple"), none, .seq [].toArray 0, [].toArray⟩
noncomputable def o191_4 (_ : Params) : Obj := ⟨.none, none, .func { name := Str.ofString "_law_unseen", qualname := Str.ofString "_law_unseen", params := fArgs (cell 19), body := .stmts (fBody (cell 19)), scope := fScope (cell 19), globals := 0, closure := [], defaults := .none, kwdefaults := .none, doc := .none, pyModule := .none, annotations := none, code := .none, closureTuple := .none, builtins := 0 }, [].toArray⟩
noncomputable def o192_4 (_ : Params) : Obj := ⟨(.type "code"), none, .fields [(vs "_law_unseen" 470), (vs "_law_unseen" 471), (vs "/claim/cut.py" 472), (.int (165) 0), (.int (0) 0), (.int (0) 0), (.int (0) 0), (.int (3) 0), (.ref 187), (.bool true), (.int (181) 0), (.ref 188), .none, (.ref 189), (.ref 190), (.ref 191), (.int (473) 0), (.int (165) 0), (vs "/claim/cut.py" 474)].toArray, [].toArray⟩
noncomputable def o193_4 (_ : Params) : Obj := ⟨(.type "function"), none, .func { name := Str.ofString "_law_unseen", qualname := Str.ofString "_law_unseen", params := fArgs (cell 19), body := .stmts (fBody (cell 19)), scope := fScope (cell 19), globals := 3, closure := [], defaults := .none, kwdefaults := .none, doc := .none, pyModule := (vs "law_wo0058_01" 458), annotations := none, code := (.ref 192), closureTuple := .none, builtins := 0 }, [].toArray⟩
noncomputable def o194_4 (_ : Params) : Obj := ⟨(.type "tuple"), none, .seq [].toArray 0, [].toArray⟩
noncomputable def o195_4 (_ : Params) : Obj := ⟨.none, none, .fields [].toArray, [].toArray⟩
noncomputable def o196_4 (_ : Params) : Obj := ⟨(.type "tuple"), none, .seq [].toArray 0, [].toArray⟩
noncomputable def o197_4 (_ : Params) : Obj := ⟨(.type "tuple"), none, .seq [].toArray 0, [].toArray⟩
noncomputable def o198_4 (_ : Params) : Obj := ⟨.none, none, .func { name := Str.ofString "_law_beside", qualname := Str.ofString "_law_beside", params := fArgs (cell 20), body := .stmts (fBody (cell 20)), scope := fScope (cell 20), globals := 0, closure := [], defaults := .none, kwdefaults := .none, doc := .none, pyModule := .none, annotations := none, code := .none, closureTuple := .none, builtins := 0 }, [].toArray⟩
noncomputable def o199_4 (_ : Params) : Obj := ⟨(.type "code"), none, .fields [(vs "_law_beside" 476), (vs "_law_beside" 477), (vs "/claim/cut.py" 478), (.int (167) 0), (.int (0) 0), (.int (0) 0), (.int (0) 0), (.int (3) 0), (.ref 194), (.bool true), (.int (181) 0), (.ref 195), .none, (.ref 196), (.ref 197), (.ref 198), (.int (479) 0), (.int (167) 0), (vs "/claim/cut.py" 480)].toArray, [].toArray⟩
noncomputable def o200_4 (_ : Params) : Obj := ⟨(.type "function"), none, .func { name := Str.ofString "_law_beside", qualname := Str.ofString "_law_beside", params := fArgs (cell 20), body := .stmts (fBody (cell 20)), scope := fScope (cell 20), globals := 3, closure := [], defaults := .none, kwdefaults := .none, doc := .none, pyModule := (vs "law_wo0058_01" 458), annotations := none, code := (.ref 199), closureTuple := .none, builtins := 0 }, [].toArray⟩
noncomputable def o201_4 (_ : Params) : Obj := ⟨(.type "tuple"), none, .seq [].toArray 0, [].toArray⟩
noncomputable def o202_4 (_ : Params) : Obj := ⟨.none, none, .fields [].toArray, [].toArray⟩
noncomputable def o203_4 (_ : Params) : Obj := ⟨(.type "tuple"), none, .seq [(vs "hand" 485), (vs "page" 486), (vs "times" 487), (vs "turn" 488)].toArray 0, [].toArray⟩
noncomputable def o204_4 (_ : Params) : Obj := ⟨(.type "tuple"), none, .seq [].toArray 0, [].toArray⟩
noncomputable def o205_4 (_ : Params) : Obj := ⟨.none, none, .func { name := Str.ofString "_law_written", qualname := Str.ofString "_law_written", params := fArgs (cell 21), body := .stmts (fBody (cell 21)), scope := fScope (cell 21), globals := 0, closure := [], defaults := .none, kwdefaults := .none, doc := .none, pyModule := .none, annotations := none, code := .none, closureTuple := .none, builtins := 0 }, [].toArray⟩
noncomputable def o206_4 (_ : Params) : Obj := ⟨(.type "code"), none, .fields [(vs "_law_written" 482), (vs "_law_written" 483), (vs "/claim/cut.py" 484), (.int (169) 0), (.int (3) 0), (.int (0) 0), (.int (0) 0), (.int (3) 0), (.ref 201), (.bool true), (.int (181) 0), (.ref 202), .none, (.ref 203), (.ref 204), (.ref 205), (.int (489) 0), (.int (169) 0), (vs "/claim/cut.py" 490)].toArray, [].toArray⟩
noncomputable def o207_4 (_ : Params) : Obj := ⟨(.type "function"), none, .func { name := Str.ofString "_law_written", qualname := Str.ofString "_law_written", params := fArgs (cell 21), body := .stmts (fBody (cell 21)), scope := fScope (cell 21), globals := 3, closure := [], defaults := .none, kwdefaults := .none, doc := .none, pyModule := (vs "law_wo0058_01" 458), annotations := none, code := (.ref 206), closureTuple := .none, builtins := 0 }, [].toArray⟩
noncomputable def o208_4 (_ : Params) : Obj := ⟨(.type "tuple"), none, .seq [].toArray 0, [].toArray⟩
noncomputable def o209_4 (_ : Params) : Obj := ⟨.none, none, .fields [].toArray, [].toArray⟩
noncomputable def o210_4 (_ : Params) : Obj := ⟨(.type "tuple"), none, .seq [(vs "sign" 495), (vs "name" 496), (vs "layers" 497)].toArray 0, [].toArray⟩
noncomputable def o211_4 (_ : Params) : Obj := ⟨(.type "tuple"), none, .seq [].toArray 0, [].toArray⟩
noncomputable def o212_4 (_ : Params) : Obj := ⟨.none, none, .func { name := Str.ofString "_law_spelled", qualname := Str.ofString "_law_spelled", params := fArgs (cell 22), body := .stmts (fBody (cell 22)), scope := fScope (cell 22), globals := 0, closure := [], defaults := .none, kwdefaults := .none, doc := .none, pyModule := .none, annotations := none, code := .none, closureTuple := .none, builtins := 0 }, [].toArray⟩
noncomputable def o213_4 (_ : Params) : Obj := ⟨(.type "code"), none, .fields [(vs "_law_spelled" 492), (vs "_law_spelled" 493), (vs "/claim/cut.py" 494), (.int (173) 0), (.int (3) 0), (.int (0) 0), (.int (0) 0), (.int (3) 0), (.ref 208), (.bool true), (.int (181) 0), (.ref 209), .none, (.ref 210), (.ref 211), (.ref 212), (.int (498) 0), (.int (173) 0), (vs "/claim/cut.py" 499)].toArray, [].toArray⟩
noncomputable def o214_4 (_ : Params) : Obj := ⟨(.type "function"), none, .func { name := Str.ofString "_law_spelled", qualname := Str.ofString "_law_spelled", params := fArgs (cell 22), body := .stmts (fBody (cell 22)), scope := fScope (cell 22), globals := 3, closure := [], defaults := .none, kwdefaults := .none, doc := .none, pyModule := (vs "law_wo0058_01" 458), annotations := none, code := (.ref 213), closureTuple := .none, builtins := 0 }, [].toArray⟩
noncomputable def o215_4 (_ : Params) : Obj := ⟨(.type "tuple"), none, .seq [].toArray 0, [].toArray⟩
noncomputable def o216_4 (_ : Params) : Obj := ⟨.none, none, .fields [].toArray, [].toArray⟩
noncomputable def o217_4 (_ : Params) : Obj := ⟨.none, none, .func { name := Str.ofString "_law_free", qualname := Str.ofString "_law_free", params := fArgs (cell 23), body := .stmts (fBody (cell 23)), scope := fScope (cell 23), globals := 0, closure := [], defaults := .none, kwdefaults := .none, doc := .none, pyModule := .none, annotations := none, code := .none, closureTuple := .none, builtins := 0 }, [].toArray⟩
noncomputable def o218_4 (_ : Params) : Obj := ⟨(.type "code"), none, .fields [(vs "_law_free" 501), (vs "_law_free" 502), (vs "/claim/cut.py" 503), (.int (175) 0), (.int (1) 0), (.int (0) 0), (.int (0) 0), (.int (3) 0), (.ref 215), (.bool true), (.int (181) 0), (.ref 216), .none, .none, .none, (.ref 217), (.int (504) 0), (.int (175) 0), (vs "/claim/cut.py" 505)].toArray, [].toArray⟩
noncomputable def o219_4 (_ : Params) : Obj := ⟨(.type "function"), none, .func { name := Str.ofString "_law_free", qualname := Str.ofString "_law_free", params := fArgs (cell 23), body := .stmts (fBody (cell 23)), scope := fScope (cell 23), globals := 3, closure := [], defaults := .none, kwdefaults := .none, doc := .none, pyModule := (vs "law_wo0058_01" 458), annotations := none, code := (.ref 218), closureTuple := .none, builtins := 0 }, [].toArray⟩
noncomputable def o220_4 (_ : Params) : Obj := ⟨(.type "tuple"), none, .seq [].toArray 0, [].toArray⟩
noncomputable def o221_4 (_ : Params) : Obj := ⟨.none, none, .fields [].toArray, [].toArray⟩
noncomputable def o222_4 (_ : Params) : Obj := ⟨.none, none, .func { name := Str.ofString "_law_lead", qualname := Str.ofString "_law_lead", params := fArgs (cell 24), body := .stmts (fBody (cell 24)), scope := fScope (cell 24), globals := 0, closure := [], defaults := .none, kwdefaults := .none, doc := .none, pyModule := .none, annotations := none, code := .none, closureTuple := .none, builtins := 0 }, [].toArray⟩
noncomputable def o223_4 (_ : Params) : Obj := ⟨(.type "code"), none, .fields [(vs "_law_lead" 507), (vs "_law_lead" 508), (vs "/claim/cut.py" 509), (.int (183) 0), (.int (2) 0), (.int (0) 0), (.int (0) 0), (.int (3) 0), (.ref 220), (.bool true), (.int (181) 0), (.ref 221), .none, .none, .none, (.ref 222), (.int (510) 0), (.int (183) 0), (vs "/claim/cut.py" 511)].toArray, [].toArray⟩
noncomputable def o224_4 (_ : Params) : Obj := ⟨(.type "function"), none, .func { name := Str.ofString "_law_lead", qualname := Str.ofString "_law_lead", params := fArgs (cell 24), body := .stmts (fBody (cell 24)), scope := fScope (cell 24), globals := 3, closure := [], defaults := .none, kwdefaults := .none, doc := .none, pyModule := (vs "law_wo0058_01" 458), annotations := none, code := (.ref 223), closureTuple := .none, builtins := 0 }, [].toArray⟩
noncomputable def o225_4 (_ : Params) : Obj := ⟨(.type "tuple"), none, .seq [].toArray 0, [].toArray⟩
noncomputable def o226_4 (_ : Params) : Obj := ⟨.none, none, .fields [].toArray, [].toArray⟩
noncomputable def o227_4 (_ : Params) : Obj := ⟨.none, none, .func { name := Str.ofString "law", qualname := Str.ofString "law", params := fArgs (cell 25), body := .stmts (fBody (cell 25)), scope := fScope (cell 25), globals := 0, closure := [], defaults := .none, kwdefaults := .none, doc := .none, pyModule := .none, annotations := none, code := .none, closureTuple := .none, builtins := 0 }, [].toArray⟩
noncomputable def o228_4 (_ : Params) : Obj := ⟨(.type "code"), none, .fields [(vs "law" 513), (vs "law" 514), (vs "/claim/cut.py" 515), (.int (185) 0), (.int (1) 0), (.int (0) 0), (.int (0) 0), (.int (3) 0), (.ref 225), (.bool true), (.int (181) 0), (.ref 226), .none, .none, .none, (.ref 227), (.int (516) 0), (.int (185) 0), (vs "/claim/cut.py" 517)].toArray, [].toArray⟩
noncomputable def o229_4 (_ : Params) : Obj := ⟨(.type "function"), none, .func { name := Str.ofString "law", qualname := Str.ofString "law", params := fArgs (cell 25), body := .stmts (fBody (cell 25)), scope := fScope (cell 25), globals := 3, closure := [], defaults := .none, kwdefaults := .none, doc := .none, pyModule := (vs "law_wo0058_01" 458), annotations := none, code := (.ref 228), closureTuple := .none, builtins := 0 }, [].toArray⟩
noncomputable def tree4 (P : Params) : BT := (.node (boot_o_0 P) (.node (boot_o_1 P) (.node (o3_4 P) (.node (boot_o_7 P) (.node (o15_1 P) (.node (o31_1 P) (.node (o63_2 P) (.node (o127_3 P) .nil .nil) (.node (o191_4 P) .nil .nil)) (.node (o95_3 P) (.node (o159_4 P) .nil .nil) (.node (o223_4 P) .nil .nil))) (.node (o47_1 P) (.node (o79_3 P) (.node (o143_4 P) .nil .nil) (.node (o207_4 P) .nil .nil)) (.node (o111_3 P) (.node (o175_4 P) .nil .nil) .nil))) (.node (o23_1 P) (.node (o39_1 P) (.node (o71_3 P) (.node (o135_3 P) .nil .nil) (.node (o199_4 P) .nil .nil)) (.node (o103_3 P) (.node (o167_4 P) .nil .nil) .nil)) (.node (o55_2 P) (.node (o87_3 P) (.node (o151_4 P) .nil .nil) (.node (o215_4 P) .nil .nil)) (.node (o119_3 P) (.node (o183_4 P) .nil .nil) .nil)))) (.node (o11_A P) (.node (o19_1 P) (.node (o35_1 P) (.node (o67_3 P) (.node (o131_3 P) .nil .nil) (.node (o195_4 P) .nil .nil)) (.node (o99_3 P) (.node (o163_4 P) .nil .nil) (.node (o227_4 P) .nil .nil))) (.node (o51_1 P) (.node (o83_3 P) (.node (o147_4 P) .nil .nil) (.node (o211_4 P) .nil .nil)) (.node (o115_3 P) (.node (o179_4 P) .nil .nil) .nil))) (.node (o27_1 P) (.node (o43_1 P) (.node (o75_3 P) (.node (o139_4 P) .nil .nil) (.node (o203_4 P) .nil .nil)) (.node (o107_3 P) (.node (o171_4 P) .nil .nil) .nil)) (.node (o59_2 P) (.node (o91_3 P) (.node (o155_4 P) .nil .nil) (.node (o219_4 P) .nil .nil)) (.node (o123_3 P) (.node (o187_4 P) .nil .nil) .nil))))) (.node (boot_o_5 P) (.node (boot_o_9 P) (.node (o17_1 P) (.node (o33_1 P) (.node (o65_3 P) (.node (o129_3 P) .nil .nil) (.node (o193_4 P) .nil .nil)) (.node (o97_3 P) (.node (o161_4 P) .nil .nil) (.node (o225_4 P) .nil .nil))) (.node (o49_1 P) (.node (o81_3 P) (.node (o145_4 P) .nil .nil) (.node (o209_4 P) .nil .nil)) (.node (o113_3 P) (.node (o177_4 P) .nil .nil) .nil))) (.node (o25_1 P) (.node (o41_1 P) (.node (o73_3 P) (.node (o137_3 P) .nil .nil) (.node (o201_4 P) .nil .nil)) (.node (o105_3 P) (.node (o169_4 P) .nil .nil) .nil)) (.node (o57_2 P) (.node (o89_3 P) (.node (o153_4 P) .nil .nil) (.node (o217_4 P) .nil .nil)) (.node (o121_3 P) (.node (o185_4 P) .nil .nil) .nil)))) (.node (o13_A P) (.node (o21_1 P) (.node (o37_1 P) (.node (o69_3 P) (.node (o133_3 P) .nil .nil) (.node (o197_4 P) .nil .nil)) (.node (o101_3 P) (.node (o165_4 P) .nil .nil) (.node (o229_4 P) .nil .nil))) (.node (o53_1 P) (.node (o85_3 P) (.node (o149_4 P) .nil .nil) (.node (o213_4 P) .nil .nil)) (.node (o117_3 P) (.node (o181_4 P) .nil .nil) .nil))) (.node (o29_1 P) (.node (o45_1 P) (.node (o77_3 P) (.node (o141_4 P) .nil .nil) (.node (o205_4 P) .nil .nil)) (.node (o109_3 P) (.node (o173_4 P) .nil .nil) .nil)) (.node (o61_2 P) (.node (o93_3 P) (.node (o157_4 P) .nil .nil) (.node (o221_4 P) .nil .nil)) (.node (o125_3 P) (.node (o189_4 P) .nil .nil) .nil)))))) (.node (o2_1 P) (.node (boot_o_4 P) (.node (boot_o_8 P) (.node (o16_1 P) (.node (o32_1 P) (.node (o64_2 P) (.node (o128_3 P) .nil .nil) (.node (o192_4 P) .nil .nil)) (.node (o96_3 P) (.node (o160_4 P) .nil .nil) (.node (o224_4 P) .nil .nil))) (.node (o48_1 P) (.node (o80_3 P) (.node (o144_4 P) .nil .nil) (.node (o208_4 P) .nil .nil)) (.node (o112_3 P) (.node (o176_4 P) .nil .nil) .nil))) (.node (o24_1 P) (.node (o40_1 P) (.node (o72_3 P) (.node (o136_3 P) .nil .nil) (.node (o200_4 P) .nil .nil)) (.node (o104_3 P) (.node (o168_4 P) .nil .nil) .nil)) (.node (o56_2 P) (.node (o88_3 P) (.node (o152_4 P) .nil .nil) (.node (o216_4 P) .nil .nil)) (.node (o120_3 P) (.node (o184_4 P) .nil .nil) .nil)))) (.node (o12_4 P) (.node (o20_1 P) (.node (o36_1 P) (.node (o68_3 P) (.node (o132_3 P) .nil .nil) (.node (o196_4 P) .nil .nil)) (.node (o100_3 P) (.node (o164_4 P) .nil .nil) (.node (o228_4 P) .nil .nil))) (.node (o52_1 P) (.node (o84_3 P) (.node (o148_4 P) .nil .nil) (.node (o212_4 P) .nil .nil)) (.node (o116_3 P) (.node (o180_4 P) .nil .nil) .nil))) (.node (o28_1 P) (.node (o44_1 P) (.node (o76_3 P) (.node (o140_4 P) .nil .nil) (.node (o204_4 P) .nil .nil)) (.node (o108_3 P) (.node (o172_4 P) .nil .nil) .nil)) (.node (o60_2 P) (.node (o92_3 P) (.node (o156_4 P) .nil .nil) (.node (o220_4 P) .nil .nil)) (.node (o124_3 P) (.node (o188_4 P) .nil .nil) .nil))))) (.node (boot_o_6 P) (.node (boot_o_10 P) (.node (o18_1 P) (.node (o34_1 P) (.node (o66_3 P) (.node (o130_3 P) .nil .nil) (.node (o194_4 P) .nil .nil)) (.node (o98_3 P) (.node (o162_4 P) .nil .nil) (.node (o226_4 P) .nil .nil))) (.node (o50_1 P) (.node (o82_3 P) (.node (o146_4 P) .nil .nil) (.node (o210_4 P) .nil .nil)) (.node (o114_3 P) (.node (o178_4 P) .nil .nil) .nil))) (.node (o26_1 P) (.node (o42_1 P) (.node (o74_3 P) (.node (o138_4 P) .nil .nil) (.node (o202_4 P) .nil .nil)) (.node (o106_3 P) (.node (o170_4 P) .nil .nil) .nil)) (.node (o58_2 P) (.node (o90_3 P) (.node (o154_4 P) .nil .nil) (.node (o218_4 P) .nil .nil)) (.node (o122_3 P) (.node (o186_4 P) .nil .nil) .nil)))) (.node (o14_A P) (.node (o22_1 P) (.node (o38_1 P) (.node (o70_3 P) (.node (o134_3 P) .nil .nil) (.node (o198_4 P) .nil .nil)) (.node (o102_3 P) (.node (o166_4 P) .nil .nil) .nil)) (.node (o54_2 P) (.node (o86_3 P) (.node (o150_4 P) .nil .nil) (.node (o214_4 P) .nil .nil)) (.node (o118_3 P) (.node (o182_4 P) .nil .nil) .nil))) (.node (o30_1 P) (.node (o46_1 P) (.node (o78_3 P) (.node (o142_4 P) .nil .nil) (.node (o206_4 P) .nil .nil)) (.node (o110_3 P) (.node (o174_4 P) .nil .nil) .nil)) (.node (o62_2 P) (.node (o94_3 P) (.node (o158_4 P) .nil .nil) (.node (o222_4 P) .nil .nil)) (.node (o126_3 P) (.node (o190_4 P) .nil .nil) .nil)))))))
noncomputable def heapF (P : Params) : Heap := ⟨⟨[boot_o_0 P, boot_o_1 P, o2_1 P, o3_4 P, boot_o_4 P, boot_o_5 P, boot_o_6 P, boot_o_7 P, boot_o_8 P, boot_o_9 P, boot_o_10 P, o11_A P, o12_4 P, o13_A P, o14_A P, o15_1 P, o16_1 P, o17_1 P, o18_1 P, o19_1 P, o20_1 P, o21_1 P, o22_1 P, o23_1 P, o24_1 P, o25_1 P, o26_1 P, o27_1 P, o28_1 P, o29_1 P, o30_1 P, o31_1 P, o32_1 P, o33_1 P, o34_1 P, o35_1 P, o36_1 P, o37_1 P, o38_1 P, o39_1 P, o40_1 P, o41_1 P, o42_1 P, o43_1 P, o44_1 P, o45_1 P, o46_1 P, o47_1 P, o48_1 P, o49_1 P, o50_1 P, o51_1 P, o52_1 P, o53_1 P, o54_2 P, o55_2 P, o56_2 P, o57_2 P, o58_2 P, o59_2 P, o60_2 P, o61_2 P, o62_2 P, o63_2 P, o64_2 P, o65_3 P, o66_3 P, o67_3 P, o68_3 P, o69_3 P, o70_3 P, o71_3 P, o72_3 P, o73_3 P, o74_3 P, o75_3 P, o76_3 P, o77_3 P, o78_3 P, o79_3 P, o80_3 P, o81_3 P, o82_3 P, o83_3 P, o84_3 P, o85_3 P, o86_3 P, o87_3 P, o88_3 P, o89_3 P, o90_3 P, o91_3 P, o92_3 P, o93_3 P, o94_3 P, o95_3 P, o96_3 P, o97_3 P, o98_3 P, o99_3 P, o100_3 P, o101_3 P, o102_3 P, o103_3 P, o104_3 P, o105_3 P, o106_3 P, o107_3 P, o108_3 P, o109_3 P, o110_3 P, o111_3 P, o112_3 P, o113_3 P, o114_3 P, o115_3 P, o116_3 P, o117_3 P, o118_3 P, o119_3 P, o120_3 P, o121_3 P, o122_3 P, o123_3 P, o124_3 P, o125_3 P, o126_3 P, o127_3 P, o128_3 P, o129_3 P, o130_3 P, o131_3 P, o132_3 P, o133_3 P, o134_3 P, o135_3 P, o136_3 P, o137_3 P, o138_4 P, o139_4 P, o140_4 P, o141_4 P, o142_4 P, o143_4 P, o144_4 P, o145_4 P, o146_4 P, o147_4 P, o148_4 P, o149_4 P, o150_4 P, o151_4 P, o152_4 P, o153_4 P, o154_4 P, o155_4 P, o156_4 P, o157_4 P, o158_4 P, o159_4 P, o160_4 P, o161_4 P, o162_4 P, o163_4 P, o164_4 P, o165_4 P, o166_4 P, o167_4 P, o168_4 P, o169_4 P, o170_4 P, o171_4 P, o172_4 P, o173_4 P, o174_4 P, o175_4 P, o176_4 P, o177_4 P, o178_4 P, o179_4 P, o180_4 P, o181_4 P, o182_4 P, o183_4 P, o184_4 P, o185_4 P, o186_4 P, o187_4 P, o188_4 P, o189_4 P, o190_4 P, o191_4 P, o192_4 P, o193_4 P, o194_4 P, o195_4 P, o196_4 P, o197_4 P, o198_4 P, o199_4 P, o200_4 P, o201_4 P, o202_4 P, o203_4 P, o204_4 P, o205_4 P, o206_4 P, o207_4 P, o208_4 P, o209_4 P, o210_4 P, o211_4 P, o212_4 P, o213_4 P, o214_4 P, o215_4 P, o216_4 P, o217_4 P, o218_4 P, o219_4 P, o220_4 P, o221_4 P, o222_4 P, o223_4 P, o224_4 P, o225_4 P, o226_4 P, o227_4 P, o228_4 P, o229_4 P]⟩, life⟩

noncomputable def env : Env := { scope := pw.main.scope, locals := mainNs, globals := mainNs, cells := [], code := .ref 13, frame := some 14 }
noncomputable def ann : Option Value := some (.ref 6)
noncomputable def cE : Code := .body (behindTheImports pw) env
noncomputable def sts (a n : Nat) : List Stmt := ((behindTheImports pw).drop a).take n
abbrev B0 : List Frame := [topFrame noPos]
abbrev gs0 : Array GenState := Array.mk []
noncomputable def S0 (w : World) (os : OsState) : Shared := ⟨boot_heap w.params, gs0, boot_drawn, boot_toks, os⟩
noncomputable def SA (w : World) (os : OsState) : Shared := ⟨heapA w.params, gs0, {}, 187, os⟩
noncomputable def SB (w : World) (os : OsState) : SharedT := ⟨treeA w.params, 15, life, gs0, {}, 187, os⟩
noncomputable def S1 (w : World) (os : OsState) : SharedT := ⟨tree1 w.params, 54, life, gs0, {}, 245, os⟩
noncomputable def S2 (w : World) (os : OsState) : SharedT := ⟨tree2 w.params, 65, life, gs0, {}, 305, os⟩
noncomputable def S3 (w : World) (os : OsState) : SharedT := ⟨tree3 w.params, 138, life, gs0, {}, 414, os⟩
noncomputable def S4 (w : World) (os : OsState) : SharedT := ⟨tree4 w.params, 230, life, gs0, {}, 519, os⟩
noncomputable def SF (w : World) (os : OsState) : Shared := ⟨heapF w.params, gs0, {}, 519, os⟩
abbrev p1 : Pos := ⟨26, 0, 26, 8⟩
abbrev p2 : Pos := ⟨27, 0, 27, 6⟩
abbrev p3 : Pos := ⟨31, 0, 86, 16⟩
abbrev p4 : Pos := ⟨185, 0, 251, 415⟩
-- the pieces, by the library's twins
noncomputable def preL (w : World) : OsState → Option (Shared × Thread) := fun os => PySem.W.Fast.tw15667345088766844465 PySem.W.Fast.tw14364793385576792824 pw w 11 ann 12 (S0 w os) (topStub pw)
noncomputable def preR (w : World) : OsState → Option (Shared × Thread) := fun os => some (SA w os, ⟨PySem.W.Fast.tw11892475500146522536 PySem.W.Fast.tw14364793385576792824 cE, cE, noPos, B0⟩)
theorem pre_t (w : World) : preL w = preR w := by kernel_rfl
noncomputable def blkL (w : World) : OsState → Option (Flow × Shared × Code × Pos) := fun os => PySem.W.Fast.tw14374325043358763698 PySem.W.Fast.tw14364793385576792824 pw w 11 ann 1 1 (SA w os) (blockOf (behindTheImports pw) env cE noPos B0)
noncomputable def blkR (w : World) : OsState → Option (Flow × Shared × Code × Pos) := fun os => some (.next, (SB w os).abs, cE, noPos)
theorem blk_t (w : World) : blkL w = blkR w := by kernel_rfl
noncomputable def g1L (w : World) : OsState → Option (Flow × SharedT × Code × Pos) := fun os => PySem.W.Fast.tw10110043849684766642 PySem.W.Fast.tw14364793385576792824 pw w 11 ann 1 490 (SB w os) (piecesOf (sts 0 6) env cE noPos B0)
noncomputable def g1R (w : World) : OsState → Option (Flow × SharedT × Code × Pos) := fun os => some (.next, S1 w os, cE, p1)
theorem g1_t (w : World) : g1L w = g1R w := by kernel_rfl
noncomputable def g2L (w : World) : OsState → Option (Flow × SharedT × Code × Pos) := fun os => PySem.W.Fast.tw10110043849684766642 PySem.W.Fast.tw14364793385576792824 pw w 11 ann 1 999 (S1 w os) (piecesOf (sts 6 1) env cE p1 B0)
noncomputable def g2R (w : World) : OsState → Option (Flow × SharedT × Code × Pos) := fun os => some (.next, S2 w os, cE, p2)
theorem g2_ff (w : World) : g2L ((w.withFollow "special-get-raises" false).withFollow "set-order" false) = g2R ((w.withFollow "special-get-raises" false).withFollow "set-order" false) := by kernel_rfl
theorem g2_tf (w : World) : g2L ((w.withFollow "special-get-raises" true).withFollow "set-order" false) = g2R ((w.withFollow "special-get-raises" true).withFollow "set-order" false) := by kernel_rfl
theorem g2_ft (w : World) : g2L ((w.withFollow "special-get-raises" false).withFollow "set-order" true) = g2R ((w.withFollow "special-get-raises" false).withFollow "set-order" true) := by kernel_rfl
theorem g2_tt (w : World) : g2L ((w.withFollow "special-get-raises" true).withFollow "set-order" true) = g2R ((w.withFollow "special-get-raises" true).withFollow "set-order" true) := by kernel_rfl
theorem g2_t : ∀ w : World, g2L w = g2R w := byRow2 "set-order" (P := fun w => g2L w = g2R w)
  (byRow2 "special-get-raises" (P := fun w => g2L (w.withFollow "set-order" false) = g2R (w.withFollow "set-order" false)) g2_ff g2_tf)
  (byRow2 "special-get-raises" (P := fun w => g2L (w.withFollow "set-order" true) = g2R (w.withFollow "set-order" true)) g2_ft g2_tt)
noncomputable def g3L (w : World) : OsState → Option (Flow × SharedT × Code × Pos) := fun os => PySem.W.Fast.tw10110043849684766642 PySem.W.Fast.tw14364793385576792824 pw w 11 ann 1 531 (S2 w os) (piecesOf (sts 7 3) env cE p2 B0)
noncomputable def g3R (w : World) : OsState → Option (Flow × SharedT × Code × Pos) := fun os => some (.next, S3 w os, cE, p3)
theorem g3_f (w : World) : g3L (w.withFollow "special-get-raises" false) = g3R (w.withFollow "special-get-raises" false) := by kernel_rfl
theorem g3_r (w : World) : g3L (w.withFollow "special-get-raises" true) = g3R (w.withFollow "special-get-raises" true) := by kernel_rfl
theorem g3_t : ∀ w : World, g3L w = g3R w := byRow2 "special-get-raises" (P := fun w => g3L w = g3R w) g3_f g3_r
noncomputable def g4L (w : World) : OsState → Option (Flow × SharedT × Code × Pos) := fun os => PySem.W.Fast.tw10110043849684766642 PySem.W.Fast.tw14364793385576792824 pw w 11 ann 1 422 (S3 w os) (piecesOf (sts 10 16) env cE p3 B0)
noncomputable def g4R (w : World) : OsState → Option (Flow × SharedT × Code × Pos) := fun os => some (.next, S4 w os, cE, p4)
theorem g4_t (w : World) : g4L w = g4R w := by kernel_rfl
noncomputable def finL (w : World) : OsState → Option Shared := fun os => PySem.W.Fast.tw14082659384304107361 PySem.W.Fast.tw14364793385576792824 pw w 11 ann 2 (S4 w os).abs ⟨doneF .next, cE, p4, B0⟩
noncomputable def finR (w : World) : OsState → Option Shared := fun os => some (SF w os)
theorem fin_t (w : World) : finL w = finR w := by kernel_rfl
-- the chain
theorem eT : treeTable = PySem.W.Fast.tw14364793385576792824 := PySem.W.Fast.te14364793385576792824
theorem e1 : @segRunT = @PySem.W.Fast.tw10110043849684766642 := PySem.W.Fast.te10110043849684766642
theorem e2 : @segRun = @PySem.W.Fast.tw14374325043358763698 := PySem.W.Fast.te14374325043358763698
theorem e3 : @topGo = @PySem.W.Fast.tw15667345088766844465 := PySem.W.Fast.te15667345088766844465
theorem e4 : @topRun = @PySem.W.Fast.tw14082659384304107361 := PySem.W.Fast.te14082659384304107361
theorem eD : @denote = @PySem.W.Fast.tw11892475500146522536 := PySem.W.Fast.te11892475500146522536
theorem segT_eq : @segRunT treeTable = @PySem.W.Fast.tw10110043849684766642 PySem.W.Fast.tw14364793385576792824 := by rw [e1, eT]
theorem seg_eq : @segRun treeTable = @PySem.W.Fast.tw14374325043358763698 PySem.W.Fast.tw14364793385576792824 := by rw [e2, eT]
theorem go_eq : @topGo treeTable = @PySem.W.Fast.tw15667345088766844465 PySem.W.Fast.tw14364793385576792824 := by rw [e3, eT]
theorem run_eq : @topRun treeTable = @PySem.W.Fast.tw14082659384304107361 PySem.W.Fast.tw14364793385576792824 := by rw [e4, eT]
theorem den_eq : denote treeTable = PySem.W.Fast.tw11892475500146522536 PySem.W.Fast.tw14364793385576792824 := by rw [eD, eT]
theorem pre (w : World) (os : OsState) : topGo treeTable pw w 11 ann 12 (S0 w os) (topStub pw) = some (SA w os, ⟨denote treeTable cE, cE, noPos, B0⟩) := by
  rw [go_eq, den_eq]; exact congrFun (pre_t w) os
theorem blk (w : World) (os : OsState) : segRun treeTable pw w 11 ann 1 1 (SA w os) (blockOf (behindTheImports pw) env cE noPos B0) = some (.next, (SB w os).abs, cE, noPos) := by
  rw [seg_eq]; exact congrFun (blk_t w) os
theorem g1 (w : World) (os : OsState) : segRun treeTable pw w 11 ann 1 490 (SB w os).abs (piecesOf (sts 0 6) env cE noPos B0) = some (.next, (S1 w os).abs, cE, p1) :=
  segRun_of (by rw [segT_eq]; exact congrFun (g1_t w) os)
theorem g2 (w : World) (os : OsState) : segRun treeTable pw w 11 ann 1 999 (S1 w os).abs (piecesOf (sts 6 1) env cE p1 B0) = some (.next, (S2 w os).abs, cE, p2) :=
  segRun_of (by rw [segT_eq]; exact congrFun (g2_t w) os)
theorem g3 (w : World) (os : OsState) : segRun treeTable pw w 11 ann 1 531 (S2 w os).abs (piecesOf (sts 7 3) env cE p2 B0) = some (.next, (S3 w os).abs, cE, p3) :=
  segRun_of (by rw [segT_eq]; exact congrFun (g3_t w) os)
theorem g4 (w : World) (os : OsState) : segRun treeTable pw w 11 ann 1 422 (S3 w os).abs (piecesOf (sts 10 16) env cE p3 B0) = some (.next, (S4 w os).abs, cE, p4) :=
  segRun_of (by rw [segT_eq]; exact congrFun (g4_t w) os)
theorem fin (w : World) (os : OsState) : topRun treeTable pw w 11 ann 2 (S4 w os).abs ⟨doneF .next, cE, p4, B0⟩ = some (SF w os) := by
  rw [run_eq]; exact congrFun (fin_t w) os
theorem cells_split : behindTheImports pw = sts 0 6 ++ (sts 6 1 ++ (sts 7 3 ++ (sts 10 16 ++ []))) := by kernel_rfl
theorem run (w : World) (os : OsState) : topRun treeTable pw w 11 ann (12 + (1 + (490 + (999 + (531 + (422 + 2)))))) (S0 w os) (topStub pw) = some (SF w os) := by
  refine go_top (pre w os) (piece_block (blk w os) ?_)
  have h := piece_app (g1 w os) (piece_app (g2 w os) (piece_app (g3 w os) (piece_app (g4 w os) (piece_nil (fin w os)))))
  rw [← cells_split] at h
  exact h
end
end W58
end
section
open PySem PySem.W PyProof.Rows PySem.Calls
set_option maxRecDepth 100000
set_option maxHeartbeats 0
namespace W58
noncomputable section
noncomputable def view : Program := { pw with main := { pw.main with body := [cell 25] } }
noncomputable def loose : List Str := [Str.ofString "_wall", Str.ofString "Error", Str.ofString "error_reply", Str.ofString "parse257", Str.ofString "b1_set", Str.ofString "in_table_b1", Str.ofString "Whitespace", Str.ofString "_raise_serialization_error", Str.ofString "_escape_cdata", Str.ofString "_escape_attrib", Str.ofString "_escape_attrib_html", Str.ofString "_escape_cdata_c14n", Str.ofString "_escape_attrib_c14n", Str.ofString "_law_hands", Str.ofString "_law_unseen", Str.ofString "_law_beside", Str.ofString "_law_written", Str.ofString "_law_spelled", Str.ofString "_law_free", Str.ofString "_law_lead"]
noncomputable def Xt : Shared → Bool := fun _ => true
noncomputable def Yf : Shared → Array Obj := fun s => s.heap.objs
noncomputable def Ya : World → Array Obj := fun w => (heapF w.params).objs
theorem op0 : opening pw = plainProg pw.main.scope.names := by kernel_rfl
theorem fence0 (s : Shared) : fenceModules? pw s = some s := by kernel_rfl
theorem open0 : ∀ w : World, (fencedOpening treeTable pw w 4000).map (fun s => (s.heap, s.gens, s.drawn, s.toks)) = some (boot_heap w.params, Array.mk [], boot_drawn, boot_toks) :=
  boot_open op0 (by kernel_rfl) fence0
theorem size0 (w : World) : ((boot_heap w.params).isNs mainGlobals && gs0.size == 0, (boot_heap w.params).objs.size, (boot_heap w.params).nsMap mainGlobals "__annotations__") = (true, 11, ann) := by
  rw [PySem.W.Fast.te8920871248978507458]; kernel_rfl
theorem k1 (w : World) (os : OsState) : (staticsOk (importedModules pw.main.body) (boot_heap w.params) (heapF w.params) && namesBound pw (heapF w.params) && gensDone (SF w os) && laidKept (boot_heap w.params) (heapF w.params)) = true := by
  rw [PySem.W.Fast.te5923862056798008813]; kernel_rfl
theorem l1 (w : World) (os : OsState) : seen ((recsOf view).map (·.name)) (ownsOf view) [] { SF w os with gens := #[] } = expectedOf view := by
  rw [PySem.W.Fast.te5160383126252970620, PySem.W.Fast.te3399658132070893891, PySem.W.Fast.te5991557255702980513]; kernel_rfl
theorem l2 (w : World) : (heapF w.params).bltView = bltViewBooted := by kernel_rfl
theorem l3 (w : World) (os : OsState) : ((SF w os).heap.keysOk (looseW view loose) ((recsOf view).map (·.name)) ((litsOf view).map (·.1)) ((clssOf view (looseW view loose)).map (·.name)) && (SF w os).heap.accountedOkI (importedModules pw.main.body) && (SF w os).heap.isNs mainGlobals && (SF w os).heap.isNs builtinsNs && tablesOk view (SF w os).heap && Xt (SF w os) && (if true then (SF w os).gens.size == 0 else !leftWithCleanup (SF w os).gens)) = true := by
  rw [PySem.W.Fast.te10880121769531294198, PySem.W.Fast.te821141287760084731, PySem.W.Fast.te3399658132070893891, PySem.W.Fast.te7409074990110511671, PySem.W.Fast.te13664370479719496447, PySem.W.Fast.te14722251495701143533, PySem.W.Fast.te5923862056798008813, PySem.W.Fast.te10994771534591457954]; kernel_rfl
theorem l4 (w : World) (os : OsState) : tabsOk view (SF w os) = true := by rw [PySem.W.Fast.te479339242167458305]; kernel_rfl
theorem l5 (w : World) (os : OsState) : pinSeenD view (drecsOf view) (SF w os) = pinGoodD (drecsOf view) := by rw [PySem.W.Fast.te16090120013241838585, PySem.W.Fast.te3247288618530077131]; kernel_rfl
theorem l6 (w : World) (os : OsState) : plainSeenE view (looseW view loose) (SF w os) = plainGoodE view (looseW view loose) := by rw [PySem.W.Fast.te2386780881361962483, PySem.W.Fast.te821141287760084731]; kernel_rfl
theorem l7 (w : World) (os : OsState) : plainSeenD view loose (SF w os) = plainGoodD view loose := by rw [PySem.W.Fast.te11698064438423848299]; kernel_rfl
theorem l8 (w : World) (os : OsState) : wideSeen view (SF w os) = wideGood view := by rw [PySem.W.Fast.te7317090234206586261]; kernel_rfl
theorem l9 (w : World) (os : OsState) : clsSeenW view loose (SF w os) = clsGoodW view loose := by rw [PySem.W.Fast.te7369524293546568484]; kernel_rfl
theorem seen_ok (w : World) (os : OsState) : openSeen view loose (importedModules pw.main.body) Xt true (SF w os) = openGood view loose :=
  looks_pair (l1 w os) (looks_pair (l2 w) (looks_pair (l3 w os) (looks_pair (l4 w os) (looks_pair (l5 w os) (looks_pair (l6 w os) (looks_pair (l7 w os) (looks_pair (l8 w os) (l9 w os))))))))
theorem looks (w : World) : (fun os => ((staticsOk (importedModules pw.main.body) (boot_heap w.params) (heapF w.params) && namesBound pw (heapF w.params) && gensDone ⟨heapF w.params, gs0, {}, 519, os⟩ && laidKept (boot_heap w.params) (heapF w.params)),
    openSeen view loose (importedModules pw.main.body) Xt true ⟨heapF w.params, gs0, {}, 519, os⟩, Yf ⟨heapF w.params, gs0, {}, 519, os⟩)) = fun _ => (true, openGood view loose, Ya w) :=
  funext fun os => looks_pair (k1 w os) (looks_pair (seen_ok w os) rfl)
theorem left : LeftO pw view loose Xt Yf Ya 4000 :=
  LeftO.of_pieces (g0 := true) (H₀ := boot_heap) (H₁ := heapF) (gs₀ := Array.mk []) (gs₁ := gs0) (d₀ := boot_drawn) (d₁ := {}) (k₀ := boot_toks) (k₁ := 519) (m₀ := 11) (ann := ann) (M := 12 + (1 + (490 + (999 + (531 + (422 + 2))))))
    open0 size0 run (by kernel_rfl) looks
noncomputable def lawD : DefRec := ⟨Str.ofString "law", fArgs (cell 25), fBody (cell 25), fScope (cell 25), (match cell 25 with | .FunctionDef _ _ _ _ _ _ _ _ _ p => p | _ => noPos)⟩
def lawRow : OpenRow := PySem.Challenge.rw_wo0058_01.row
noncomputable def Kept (P : Params) (h : Heap) : Prop := ∀ b o, (heapF P).get? b = some o → h.get? b = some o
theorem kept_of (w : World) (s : Shared) (e : Yf s = Ya w) : Kept w.params s.heap := by
  intro b o h
  have e' : s.heap.objs = (heapF w.params).objs := e
  unfold Heap.get? at h ⊢
  rw [e']; exact h
theorem recs0 (s : Shared) : RecFacts lawRow.records s.heap :=
  recFacts_of rfl
theorem said_row : PySem.Challenge.rw_wo0058_01.row.wellSaid = true := by rw [PySem.W.Fast.te17960256430627541270]; kernel_rfl
theorem said0 : PySem.Challenge.rw_wo0058_01.wellSaid = true := by
  unfold OpenLaw.wellSaid
  rw [said_row]
  kernel_rfl
/-- the head: what is left is the call -/
theorem head (call : WalkO view loose (fun _ _ => True) (fun w h => Kept w.params h) lawRow.toRowW lawD [] fun f vs => PySem.call f vs) : PySem.Challenge.rw_wo0058_01.Holds := by
  w_on
  refine holds_law said0 fun said => ?_
  refine PySem.W.holds_open (r := lawRow) (q := view) (loose := loose) (Xt := Xt) (XP := fun _ _ => True) (Yf := Yf) (Ya := Ya) (YP := fun w h => Kept w.params h) (d := lawD) (kwd := []) (N := 4000)
    left kept_of (fun w h h' k e b o x => e b o (k b o x)) (fun _ _ => trivial) (fun _ _ _ _ _ => trivial) (by kernel_rfl) (by kernel_rfl) (by kernel_rfl) (fun s _ => recs0 s) rfl (by assumption) (by decide +kernel) ⟨rfl, rfl, rfl, rfl, rfl, by decide +kernel⟩ ?hw call
  case hw => w_witness2
end
end W58
end
section
open PySem PySem.W PyProof.Rows PySem.Calls
set_option maxRecDepth 100000
namespace W58
noncomputable def NoE : Value → Shared → Prop := fun _ _ => False
noncomputable def PE (F : Fm) (ρ : List Addr) (Q : AV → St → Prop) (v : Value) (s' : Shared) : Prop := ∃ ρ' σ' av, ρ <+: ρ' ∧ Rel F ρ' σ' s' ∧ conc ρ' av v ∧ Q av σ'
structure Room (n : Nat) (A : Around) : Prop where
  hh : A.handled = none
  depth : A.depth + n < recursionLimit
  units : A.units + 10 * n + 100 < cLine
section
variable {F : Fm} {ρ : List Addr} {σ : St} {s : Shared} {Q : AV → St → Prop} {w : World} {A : Around} {n : Nat}
theorem PE.here (R : Rel F ρ σ s) {av : AV} {v : Value} (c : conc ρ av v) (h : Q av σ) : PE F ρ Q v s := ⟨ρ, σ, av, List.prefix_rfl, R, c, h⟩
theorem PE.int (R : Rel F ρ σ s) {i : Int} {t : Nat} (h : Q (.int i) σ) : PE F ρ Q (.int i t) s := PE.here R (av := .int i) ⟨t, rfl⟩ h
theorem PE.bool (R : Rel F ρ σ s) {b : Bool} (h : Q (.bool b) σ) : PE F ρ Q (.bool b) s := PE.here R (av := .bool b) rfl h
theorem PE.none (R : Rel F ρ σ s) (h : Q .none σ) : PE F ρ Q .none s := PE.here R (av := .none) rfl h
theorem PE.str (R : Rel F ρ σ s) {l : List Nat} {x : Str} {t : Nat} (e : x = ⟨l.toArray⟩) (h : Q (.str l) σ) : PE F ρ Q (.str x t) s := PE.here R (av := .str l) ⟨t, by rw [e]⟩ h
theorem PE.pre {ρ₁ : List Addr} (p : ρ <+: ρ₁) {v : Value} (h : PE F ρ₁ Q v s) : PE F ρ Q v s :=
  let ⟨ρ', σ', av, a, b⟩ := h; ⟨ρ', σ', av, p.trans a, b⟩
/-- a new object, as the library's rules hand it on -/
theorem PE.newN (R : Rel F ρ σ s) {m : Str → Option Value} {news : List (Addr × Obj)} (Fm : Fr F.h₀ F.env.locals s.heap m)
    (u : ∀ h' m' news', Fr F.h₀ F.env.locals h' m' → News F.h₀ F.env.locals h' news' → (∀ p ∈ news, p ∈ news') → ∀ b o, b ≠ F.env.locals → s.heap.get? b = some o → h'.get? b = some o)
    {x : AO} {o : Obj} {h' : Heap} {t : Nat} (F' : Fr F.h₀ F.env.locals h' m) (N' : News F.h₀ F.env.locals h' ((s.heap.objs.size, o) :: news)) (hx : OIs F.hf (ρ ++ [s.heap.objs.size]) x o)
    (h : Q (.ref σ.hp.length) { σ with hp := σ.hp ++ [x] }) : PE F ρ Q (.ref s.heap.objs.size) { s with heap := h', toks := t } := by
  have R' := R.alloc (t := t) (Nat.le_refl _) (N'.get (.head _)) hx (u h' m _ F' N' fun p hp => .tail _ hp) (fr_carry Fm F')
  exact ⟨_, _, .ref σ.hp.length, List.prefix_append .., R', ⟨_, rfl, by rw [List.getElem?_append_right (by rw [R.len]; exact Nat.le_refl _), R.len]; simp⟩, h⟩
theorem PE.new0 (R : Rel F ρ σ s) {x : AO} {o : Obj} {t : Nat} (hf : o.isFreed = false) (hx : OIs F.hf (ρ ++ [s.heap.objs.size]) x o)
    (h : Q (.ref σ.hp.length) { σ with hp := σ.hp ++ [x] }) : PE F ρ Q (.ref s.heap.objs.size) { s with heap := s.heap.push o, toks := t } :=
  ⟨_, _, .ref σ.hp.length, List.prefix_append .., R.alloc0 hf hx, ⟨_, rfl, by rw [List.getElem?_append_right (by rw [R.len]; exact Nat.le_refl _), R.len]; simp⟩, h⟩
/-- a list of ours, as the library reads it -/
theorem Rel.list (R : Rel F ρ σ s) {i : Nat} {a : Addr} {x : AO} {xs : List AV} (hi : ρ[i]? = some a) (hx : σ.hp[i]? = some x) (e : x.lst? = some xs) : ∃ vs, s.heap.IsList a vs ∧ concs ρ xs vs.toList := by
  obtain ⟨o, ho, h⟩ := (R.objs i a x hi hx).of (by cases x <;> first | rfl | cases e)
  obtain ⟨h1, vs, k, h2, h3⟩ := OIs_lst e h
  exact ⟨vs, ⟨o, ho, h1, k, h2⟩, h3⟩
theorem Rel.tup (R : Rel F ρ σ s) {i : Nat} {a : Addr} {xs : List AV} (hi : ρ[i]? = some a) (hx : σ.hp[i]? = some (.tup xs)) : ∃ vs, IsTup s.heap a vs ∧ concs ρ xs vs.toList := by
  obtain ⟨o, ho, h1, vs, k, h2, h3⟩ := R.objs i a _ hi hx
  exact ⟨vs, ⟨o, ho, h1, k, h2⟩, h3⟩

/-- a dict of ours, as the library reads it -/
noncomputable def KVs (ρ : List Addr) : List (List Nat × AV) → List (Str × Value) → Prop
  | [], kvs => kvs = []
  | (k, x) :: r, kvs => ∃ v r', kvs = (⟨k.toArray⟩, v) :: r' ∧ conc ρ x v ∧ KVs ρ r r'
theorem KVs_keys : ∀ {es : List (List Nat × AV)} {kvs : List (Str × Value)}, KVs ρ es kvs → kvs.map (·.1) = es.map fun p => (⟨p.1.toArray⟩ : Str)
  | [], _, e => by cases e; rfl
  | (k, x) :: r, _, ⟨v, r', e, _, q⟩ => by subst e; rw [List.map_cons, List.map_cons, KVs_keys q]
theorem KVs_mono {ρ' : List Addr} (h : ρ <+: ρ') : ∀ {es : List (List Nat × AV)} {kvs : List (Str × Value)}, KVs ρ es kvs → KVs ρ' es kvs
  | [], _, e => e
  | _ :: _, _, ⟨v, r', e, c, q⟩ => ⟨v, r', e, conc_mono h c, KVs_mono h q⟩
theorem str_inj {k l : List Nat} (h : (⟨k.toArray⟩ : Str) = ⟨l.toArray⟩) : k = l := by
  have := congrArg (fun s : Str => s.cps.toList) h
  simpa using this
theorem nodup_strs : ∀ {es : List (List Nat × AV)}, (es.map (·.1)).Nodup → (es.map fun p => (⟨p.1.toArray⟩ : Str)).Nodup
  | [], _ => List.nodup_nil
  | (k, x) :: r, h => by
    rw [List.map_cons, List.nodup_cons] at h ⊢
    refine ⟨fun m => h.1 ?_, nodup_strs h.2⟩
    obtain ⟨p, hp, e⟩ := List.mem_map.mp m
    exact List.mem_map.mpr ⟨p, hp, str_inj e⟩
theorem KVs_at (k : List Nat) : ∀ {es : List (List Nat × AV)} {kvs : List (Str × Value)}, KVs ρ es kvs → match es.lookup k with | some x => ∃ v, valueAt kvs ⟨k.toArray⟩ = some v ∧ conc ρ x v | none => valueAt kvs ⟨k.toArray⟩ = none
  | [], _, e => by cases e; rfl
  | (l, x) :: r, _, ⟨v, r', e, c, q⟩ => by
    subst e
    by_cases h : k = l
    · subst h
      have e1 : List.lookup k ((k, x) :: r) = some x := by simp
      rw [e1]
      exact ⟨v, by unfold valueAt; simp, c⟩
    · have e1 : List.lookup k ((l, x) :: r) = r.lookup k := by rw [List.lookup_cons, show (k == l) = false from beq_eq_false_iff_ne.mpr h]
      have e2 : valueAt ((⟨l.toArray⟩, v) :: r') (⟨k.toArray⟩ : Str) = valueAt r' ⟨k.toArray⟩ := by
        unfold valueAt
        rw [List.find?_cons]
        have : decide ((⟨l.toArray⟩ : Str) = ⟨k.toArray⟩) = false := decide_eq_false fun q => h (str_inj q).symm
        dsimp only
        rw [this]
      rw [e1, e2]; exact KVs_at k q
theorem DEs_kvs : ∀ {es : List (List Nat × AV)} {des : List DictEntry}, DEs (hashStr w) ρ es des → ∃ kvs, Pairs (strKind pw w) des kvs ∧ (∀ e ∈ des, ∃ k, (strKind pw w).is k e.key = true ∧ e.hash = (strKind pw w).hash k) ∧ KVs ρ es kvs
  | [], _, e => by cases e; exact ⟨[], .nil, (fun _ h => nomatch h), rfl⟩
  | (k, x) :: r, _, ⟨t, v, d', e, c, q⟩ => by
    subst e
    obtain ⟨kvs, h1, h2, h3⟩ := DEs_kvs q
    refine ⟨(⟨k.toArray⟩, v) :: kvs, .cons (strKind_is pw w _ t) rfl h1, fun e he => ?_, v, kvs, rfl, c, h3⟩
    rcases List.mem_cons.mp he with rfl | he
    · exact ⟨_, strKind_is pw w _ t, rfl⟩
    · exact h2 e he
theorem Rel.dic (R : Rel F ρ σ s) (hh : F.hf = hashStr w) {i : Nat} {a : Addr} {es : List (List Nat × AV)} (hi : ρ[i]? = some a) (hx : σ.hp[i]? = some (.dict es)) : ∃ kvs, s.heap.DictOf (strKind pw w) a kvs ∧ KVs ρ es kvs := by
  obtain ⟨o, ho, h1, ⟨des, ep, h2, h3⟩, h4⟩ := R.objs i a _ hi hx
  rw [hh] at h3
  obtain ⟨kvs, p1, p2, p3⟩ := DEs_kvs h3
  refine ⟨kvs, ⟨o, des, ep, ho, h1, h2, fun e he => p2 e (by simpa using he), p1, ?_⟩, p3⟩
  rw [KVs_keys p3]; exact nodup_strs h4
theorem DEs_of : ∀ {es : List (List Nat × AV)} {des : List DictEntry} {kvs : List (Str × Value)}, Pairs (strKind pw w) des kvs → (∀ e ∈ des, ∃ k, (strKind pw w).is k e.key = true ∧ e.hash = (strKind pw w).hash k) → KVs ρ es kvs → DEs (hashStr w) ρ es des
  | [], _, _, p, _, e => by cases e; cases p; rfl
  | (k, x) :: r, _, _, p, h, ⟨v, r', e, c, q⟩ => by
    subst e
    cases p with
    | cons h1 h2 h3 =>
      rename_i e0 es0
      obtain ⟨k', a1, a2⟩ := h e0 (.head _)
      obtain ⟨hsh, key, val⟩ := e0
      obtain ⟨t, rfl⟩ := Value.isStrOf_shape h1
      have : k' = ⟨k.toArray⟩ := (strKind pw w).inj _ _ _ a1 h1
      subst this
      dsimp only at a2 h2
      subst a2 h2
      exact ⟨t, _, es0, rfl, c, DEs_of h3 (fun e he => h e (.tail _ he)) q⟩

noncomputable def rep (l : List Nat) (k : Int) : List Nat := (List.replicate k.toNat l).flatten
inductive BinI (σ : St) (Q : AV → St → Prop) : Operator → AV → AV → Prop
  | add {x y : Int} (h : Q (.int (x + y)) σ) : BinI σ Q .Add (.int x) (.int y)
  | sub {x y : Int} (h : Q (.int (x - y)) σ) : BinI σ Q .Sub (.int x) (.int y)
  | mul {x y : Int} (h : (-(2 ^ 62) < x ∧ x < 2 ^ 62) ∧ Q (.int (x * y)) σ) : BinI σ Q .Mult (.int x) (.int y)
  | div {x y : Int} (h : (0 < y ∧ y < 2 ^ 62) ∧ Q (.int (x / y)) σ) : BinI σ Q .FloorDiv (.int x) (.int y)
  | mod {x y : Int} (h : 0 < y ∧ Q (.int (x % y)) σ) : BinI σ Q .Mod (.int x) (.int y)
  | cat {x y : List Nat} (h : x.length + y.length ≤ 2 ^ 24 ∧ Q (.str (x ++ y)) σ) : BinI σ Q .Add (.str x) (.str y)
  | rep {x : List Nat} {k : Int} (h : (k < 2 ^ 40 ∧ -(2 ^ 40) < k ∧ x.length * k.toNat ≤ 2 ^ 24) ∧ Q (.str (rep x k)) σ) : BinI σ Q .Mult (.str x) (.int k)
  | lst {m n : Nat} {xs ys : List AV} (e1 : (σ.hp[m]?).bind AO.lst? = some xs) (e2 : (σ.hp[n]?).bind AO.lst? = some ys) (h : xs.length + ys.length ≤ 2 ^ 24 ∧ Q (.ref σ.hp.length) { σ with hp := σ.hp ++ [.plist (xs ++ ys)] }) : BinI σ Q .Add (.ref m) (.ref n)
  | lrep {m : Nat} {k : Int} {xs : List AV} (e1 : σ.hp[m]? = some (.plist xs)) (h : (k < 2 ^ 40 ∧ -(2 ^ 40) < k ∧ xs.length * k.toNat ≤ 2 ^ 24) ∧ Q (.ref σ.hp.length) { σ with hp := σ.hp ++ [.plist (List.replicate k.toNat xs).flatten] }) : BinI σ Q .Mult (.ref m) (.int k)
noncomputable def Bin (op : Operator) (a b : AV) (σ : St) (Q : AV → St → Prop) : Prop := BinI σ Q op a b
theorem lst_of_bind {hp : List AO} {m : Nat} {xs : List AV} (h : (hp[m]?).bind AO.lst? = some xs) : ∃ x, hp[m]? = some x ∧ x.lst? = some xs := Option.bind_eq_some_iff.mp h
theorem concs_flat {ρ : List Addr} {xs : List AV} {vs : List Value} (h : concs ρ xs vs) : ∀ k, concs ρ (List.replicate k xs).flatten (List.replicate k vs).flatten
  | 0 => rfl
  | k + 1 => by
    rw [List.replicate_succ, List.replicate_succ, List.flatten_cons, List.flatten_cons]
    exact concs_append h (concs_flat h k)
theorem foldl_flat {α : Type} (vs : Array α) : ∀ (k : Nat) (acc : Array α), (List.foldl (fun x1 x2 => x1 ++ x2) acc (List.replicate k vs)).toList = acc.toList ++ (List.replicate k vs.toList).flatten
  | 0, acc => by simp
  | k + 1, acc => by
    rw [List.replicate_succ, List.foldl_cons, foldl_flat vs k, List.replicate_succ, List.flatten_cons, Array.toList_append, List.append_assoc]
theorem noPylong (a : Int) {b : Int} (h : 0 < b) (h2 : b < 2 ^ 62) : Builtin.divisionGoesByPylong a b = false := by
  have l : b.natAbs.log2 < 62 := by
    rw [Nat.log2_lt (by (first | lia | omega))]; (first | lia | omega)
  have g : ¬ ((if (b == 0) = true then 0 else b.natAbs.log2 / 30 + 1) > 300) := by split <;> (first | lia | omega)
  unfold Builtin.divisionGoesByPylong
  rw [Bool.and_eq_false_iff]
  exact .inl (decide_eq_false g)
theorem txt_mul (l : List Nat) (k : Int) : Txt.mul ⟨l.toArray⟩ k = ⟨(rep l k).toArray⟩ := by
  unfold Txt.mul rep
  by_cases h1 : k < 1
  · rw [if_pos h1, show k.toNat = 0 by (first | lia | omega)]; rfl
  · rw [if_neg h1]
    by_cases h2 : (k == 1 || Str.length ⟨l.toArray⟩ == 0) = true
    · rw [if_pos h2]
      rcases (Bool.or_eq_true _ _).mp h2 with h | h
      · have : k = 1 := by simpa using h
        subst this; simp
      · have : l = [] := by
          have : l.length = 0 := by simpa [Str.length] using h
          exact List.eq_nil_of_length_eq_zero this
        subst this; simp
    · rw [if_neg h2]
      congr 1
      apply Array.ext'
      rw [foldl_flat]; simp
theorem mul_ok {l : List Nat} {k : Int} (h1 : k < 2 ^ 40) (h2 : -(2 ^ 40) < k) (h3 : l.length * k.toNat ≤ 2 ^ 24) : MulOk ⟨l.toArray⟩ k := by
  refine ⟨?_, fun a b => ?_, fun _ _ => ?_⟩
  · rw [Bool.or_eq_false_iff]; exact ⟨decide_eq_false (by (first | lia | omega)), decide_eq_false (by (first | lia | omega))⟩
  · simp only [Str.length, List.size_toArray]
    intro q
    have hk : 0 < k := by (first | lia | omega)
    have : (l.length : Int) * k ≤ 2 ^ 63 - 1 := by
      have e : (k.toNat : Int) = k := Int.toNat_of_nonneg (by (first | lia | omega))
      have : ((l.length * k.toNat : Nat) : Int) ≤ 2 ^ 24 := by exact_mod_cast h3
      rw [Int.natCast_mul, e] at this
      (first | lia | omega)
    have := (Int.le_ediv_iff_mul_le hk).mpr this
    (first | lia | omega)
  · simp only [Str.length, List.size_toArray]
    exact decide_eq_false (by rw [sizeLine_eq]; (first | lia | omega))
theorem bin_sound (hA : Room n A) (R : Rel F ρ σ s) {op : Operator} {a b : AV} {u v : Value} (ca : conc ρ a u) (cb : conc ρ b v) (h : Bin op a b σ Q) :
    wpAny (model pw w) A (binaryOp op u v) (PE F ρ Q) NoE s := by
  cases h with
  | @add x y h =>
    obtain ⟨t, rfl⟩ := ca; obtain ⟨t', rfl⟩ := cb
    exact PyProof.Rows.add_int (PE.int (R.tok _) h)
  | @sub x y h =>
    obtain ⟨t, rfl⟩ := ca; obtain ⟨t', rfl⟩ := cb
    exact PyProof.Rows.sub_int (PE.int (R.tok _) h)
  | @mul x y h =>
    obtain ⟨t, rfl⟩ := ca; obtain ⟨t', rfl⟩ := cb
    exact PyProof.Rows.mul_int (PE.int (R.tok _) h.2) (PySem.IntMulOk.of_left (intBits_le_64 (by have := h.1.1; (first | lia | omega)) (by have := h.1.2; (first | lia | omega))))
  | @div x y h =>
    obtain ⟨t, rfl⟩ := ca; obtain ⟨t', rfl⟩ := cb
    refine floordiv_int (by have := h.1.1; (first | lia | omega)) ?_ (.inl ?_)
    · rw [fdiv_eq _ h.1.1]; exact PE.int (R.tok _) h.2
    · exact noPylong _ h.1.1 h.1.2
  | @mod x y h =>
    obtain ⟨t, rfl⟩ := ca; obtain ⟨t', rfl⟩ := cb
    refine PyProof.Rows.mod_int (by have := h.1; (first | lia | omega)) ?_
    rw [Int.fmod_eq_emod_of_nonneg _ (by have := h.1; (first | lia | omega))]
    exact PE.int (R.tok _) h.2
  | @cat x y h =>
    obtain ⟨t, rfl⟩ := ca; obtain ⟨t', rfl⟩ := cb
    refine PyProof.Rows.add_str (fun t' tk => ?_) (by rw [sizeLine_eq]; simp only [Str.length, List.size_toArray]; exact h.1)
    exact PE.str (R.tok _) (by show Str.append _ _ = _; simp [Str.append]) h.2
  | @rep x k h =>
    obtain ⟨t, rfl⟩ := ca; obtain ⟨t', rfl⟩ := cb
    refine SB.mul (mul_ok h.1.1 h.1.2.1 h.1.2.2) fun t' k' => ?_
    rw [txt_mul]; exact PE.str (R.grow0 (fun _ _ e => e)) rfl h.2
  | @lst m n xs ys e1 e2 h =>
    obtain ⟨a, rfl, ha⟩ := ca; obtain ⟨b, rfl, hb⟩ := cb
    obtain ⟨x, hx, ex⟩ := lst_of_bind e1
    obtain ⟨y, hy, ey⟩ := lst_of_bind e2
    obtain ⟨vs, L1, c1⟩ := R.list ha hx ex
    obtain ⟨ws, L2, c2⟩ := R.list hb hy ey
    obtain ⟨m, news, Fm, N, u⟩ := R.bridge
    refine add_arrays Fm N L1 L2 (fun h' F' N' => PE.newN R Fm u F' N' (x := .plist (xs ++ ys)) ⟨_, _, rfl, ?_⟩ h.2) ?_
    · exact concs_mono (List.prefix_append ..) (concs_append c1 c2)
    · rw [sizeLine_eq]
      have l1 := concs_len c1
      have l2 := concs_len c2
      simp only [Array.length_toList] at l1 l2
      have := h.1; (first | lia | omega)
  | @lrep m k xs e1 h =>
    obtain ⟨a, rfl, ha⟩ := ca; obtain ⟨t', rfl⟩ := cb
    obtain ⟨o, ho, vs, k, rfl, c⟩ := R.objs _ _ _ ha e1
    obtain ⟨m, news, Fm, N, u⟩ := R.bridge
    have l1 := concs_len c
    simp only [Array.length_toList] at l1
    refine mul_list Fm N ho (by have := h.1.2.1; (first | lia | omega)) (by have := h.1.1; (first | lia | omega)) (by rw [l1]; exact h.1.2.2) fun h' F' N' => PE.newN R Fm u F' N' (x := .plist _) ⟨_, _, rfl, ?_⟩ h.2
    rw [foldl_flat]
    refine concs_mono (List.prefix_append ..) ?_
    by_cases he : vs.isEmpty
    · rw [if_pos he]
      have : xs = [] := by
        have : vs.size = 0 := by simpa using he
        exact List.eq_nil_of_length_eq_zero (by (first | lia | omega))
      subst this
      simp [concs]
    · rw [if_neg he]
      exact concs_flat c _
end
end W58
end
section
open PySem PySem.W PyProof.Rows PySem.Calls PySem.Spec PySem.SeqAt PyProof.V
set_option maxRecDepth 100000
namespace W58
noncomputable def toInts : List AV → Option (List Int)
  | [] => some []
  | .int i :: r => (toInts r).map (i :: ·)
  | _ :: _ => none
theorem ints_of {ρ : List Addr} : ∀ {xs : List AV} {ns : List Int} {vs : List Value}, toInts xs = some ns → concs ρ xs vs → IntsAre vs ns
  | [], _, _, e, h => by cases e; subst h; exact .nil
  | .int i :: r, _, _, e, h => by
    obtain ⟨v, q, rfl, ⟨t, rfl⟩, c⟩ := h
    simp only [toInts, Option.map_eq_some_iff] at e
    obtain ⟨ms, e1, rfl⟩ := e
    exact .cons i t (ints_of e1 c)
/-- data that the library's == reads: flat, or lists and tuples of such -/
noncomputable def flat : AV → Option PyData
  | .int i => some (.int i)
  | .str l => some (.str ⟨l.toArray⟩)
  | _ => none
noncomputable def flats : List AV → Option (List PyData)
  | [] => some []
  | x :: r => match flat x, flats r with
    | some d, some ds => some (d :: ds)
    | _, _ => none
noncomputable def deep (hp : List AO) : AV → Option PyData
  | .ref n => match hp[n]? with
    | some (.list xs) => (flats xs).map .list
    | some (.plist xs) => (flats xs).map .list
    | some (.tup xs) => (flats xs).map .tuple
    | _ => none
  | x => flat x
noncomputable def deeps (hp : List AO) : List AV → Option (List PyData)
  | [] => some []
  | x :: r => match deep hp x, deeps hp r with
    | some d, some ds => some (d :: ds)
    | _, _ => none
/-- one level more, for a tuple of tuples -/
noncomputable def deep2 (hp : List AO) : AV → Option PyData
  | .ref n => match hp[n]? with
    | some (.list xs) => (flats xs).map .list
    | some (.plist xs) => (flats xs).map .list
    | some (.tup xs) => (deeps hp xs).map .tuple
    | _ => none
  | x => flat x
section
variable {F : Fm} {ρ : List Addr} {σ : St} {s : Shared} {Q : AV → St → Prop} {w : World} {A : Around} {n : Nat}
theorem flat_reads {x : AV} {d : PyData} {v : Value} (e : flat x = some d) (c : conc ρ x v) : Reads s.heap v d [] := by
  cases x <;> simp only [flat] at e <;> first | cases e; done | skip
  · cases e; obtain ⟨t, rfl⟩ := c; exact .int _ _
  · cases e; obtain ⟨t, rfl⟩ := c; exact .str _ _
theorem flats_reads : ∀ {xs : List AV} {ds : List PyData} {vs : List Value}, flats xs = some ds → concs ρ xs vs → ReadsAll s.heap vs ds []
  | [], _, _, e, h => by cases e; subst h; exact .nil
  | x :: r, _, _, e, h => by
    obtain ⟨v, q, rfl, c1, c2⟩ := h
    simp only [flats] at e
    split at e
    · rename_i d ds e1 e2
      cases e
      exact ReadsAll.cons (as := []) (bs := []) (flat_reads e1 c1) (flats_reads e2 c2)
    · cases e
theorem deep_reads (R : Rel F ρ σ s) {x : AV} {d : PyData} {v : Value} (e : deep σ.hp x = some d) (c : conc ρ x v) : ∃ as, Reads s.heap v d as := by
  unfold deep at e
  split at e
  · rename_i n
    obtain ⟨a, rfl, ha⟩ := c
    split at e
    · rename_i xs q
      obtain ⟨ds, e1, rfl⟩ := Option.map_eq_some_iff.mp e
      obtain ⟨o, ho, h1, vs, k, h2, h3⟩ := R.objs _ _ _ ha q
      exact ⟨_, .list ho h1 h2 (flats_reads e1 h3)⟩
    · rename_i xs q
      obtain ⟨ds, e1, rfl⟩ := Option.map_eq_some_iff.mp e
      obtain ⟨o, ho, vs, k, rfl, h3⟩ := R.objs _ _ _ ha q
      exact ⟨_, .list ho rfl rfl (flats_reads e1 h3)⟩
    · rename_i xs q
      obtain ⟨ds, e1, rfl⟩ := Option.map_eq_some_iff.mp e
      obtain ⟨o, ho, h1, vs, k, h2, h3⟩ := R.objs _ _ _ ha q
      exact ⟨_, .tuple ho h1 h2 (flats_reads e1 h3)⟩
    · cases e
  · exact ⟨_, flat_reads e c⟩
theorem deeps_reads (R : Rel F ρ σ s) : ∀ {xs : List AV} {ds : List PyData} {vs : List Value}, deeps σ.hp xs = some ds → concs ρ xs vs → ∃ as, ReadsAll s.heap vs ds as
  | [], _, _, e, h => by cases e; subst h; exact ⟨_, .nil⟩
  | x :: r, _, _, e, h => by
    obtain ⟨v, q, rfl, c1, c2⟩ := h
    simp only [deeps] at e
    split at e
    · rename_i d ds e1 e2
      cases e
      obtain ⟨as, h1⟩ := deep_reads R e1 c1
      obtain ⟨bs, h2⟩ := deeps_reads R e2 c2
      exact ⟨_, .cons h1 h2⟩
    · cases e
theorem deep2_reads (R : Rel F ρ σ s) {x : AV} {d : PyData} {v : Value} (e : deep2 σ.hp x = some d) (c : conc ρ x v) : ∃ as, Reads s.heap v d as := by
  unfold deep2 at e
  split at e
  · rename_i n
    obtain ⟨a, rfl, ha⟩ := c
    split at e
    · rename_i xs q
      obtain ⟨ds, e1, rfl⟩ := Option.map_eq_some_iff.mp e
      obtain ⟨o, ho, h1, vs, k, h2, h3⟩ := R.objs _ _ _ ha q
      exact ⟨_, .list ho h1 h2 (flats_reads e1 h3)⟩
    · rename_i xs q
      obtain ⟨ds, e1, rfl⟩ := Option.map_eq_some_iff.mp e
      obtain ⟨o, ho, vs, k, rfl, h3⟩ := R.objs _ _ _ ha q
      exact ⟨_, .list ho rfl rfl (flats_reads e1 h3)⟩
    · rename_i xs q
      obtain ⟨ds, e1, rfl⟩ := Option.map_eq_some_iff.mp e
      obtain ⟨o, ho, h1, vs, k, h2, h3⟩ := R.objs _ _ _ ha q
      obtain ⟨as, h4⟩ := deeps_reads R e1 h3
      exact ⟨_, .tuple ho h1 h2 h4⟩
    · cases e
  · exact ⟨_, flat_reads e c⟩
/-- the set that stands at the top: its place and its numbers -/
noncomputable def b1At : Addr := 61
noncomputable def b1Set : List Int := [173, 847, 6150, 6155, 6156, 6157, 8203, 8204, 8205, 8288, 65279, 65024, 65025, 65026, 65027, 65028, 65029, 65030, 65031, 65032, 65033, 65034, 65035, 65036, 65037, 65038, 65039]
/-- what the frame knows of the set -/
noncomputable def Fm.B1 (F : Fm) (w : World) : Prop := F.H.SetOf (intKind pw w) b1At (fun k => decide (k ∈ b1Set)) 27 ∧ F.hf = hashStr w ∧ F.H.get? sysModules = some (boot_o_1 w.params)
/-- short texts as keys: no dict of modules -/
noncomputable def shortKeys (es : List (List Nat × AV)) : Bool := !es.isEmpty && es.all fun p => p.1.length ≤ 1
theorem notMods {hf : Str → Int} {ρ : List Addr} {P : Params} {es : List (List Nat × AV)} (h : shortKeys es = true) : ¬ OIs hf ρ (.dict es) (boot_o_1 P) := by
  rintro ⟨_, ⟨des, ep, hd, hD⟩, _⟩
  cases es with
  | nil => cases h
  | cons p r =>
    obtain ⟨k, x⟩ := p
    obtain ⟨t, v, d', e, _⟩ := hD
    have hl : k.length ≤ 1 := by unfold shortKeys at h; rw [List.all_cons, Bool.and_eq_true, Bool.and_eq_true] at h; simpa using h.2.1
    have e0 : des = #[⟨PyData.keyHash P (Str.ofString "builtins"), Value.str (Str.ofString "builtins") 162, Value.ref 4⟩, ⟨PyData.keyHash P (Str.ofString "__main__"), Value.str (Str.ofString "__main__") 163, Value.ref 5⟩] := by
      unfold boot_o_1 at hd; cases hd; rfl
    subst e0
    injection e with e1 _
    have e2 : Str.ofString "builtins" = (⟨k.toArray⟩ : Str) := by injection e1 with _ e2 _; exact (Value.str.inj e2).1
    have e3 := congrArg (fun s : Str => s.cps.toList.length) e2
    have e4 : (Str.ofString "builtins").cps.toList.length = 8 := by decide +kernel
    simp only [e4] at e3
    have : k.length = 8 := by simpa using e3.symm
    (first | lia | omega)
inductive CmpI (σ : St) (k : Bool → Prop) : CmpOp → AV → AV → Prop
  | eq {x y : Int} (h : k (decide (x = y))) : CmpI σ k .Eq (.int x) (.int y)
  | ne {x y : Int} (h : k (!decide (x = y))) : CmpI σ k .NotEq (.int x) (.int y)
  | lt {x y : Int} (h : k (decide (x < y))) : CmpI σ k .Lt (.int x) (.int y)
  | le {x y : Int} (h : k (decide (x ≤ y))) : CmpI σ k .LtE (.int x) (.int y)
  | gt {x y : Int} (h : k (decide (y < x))) : CmpI σ k .Gt (.int x) (.int y)
  | ge {x y : Int} (h : k (decide (y ≤ x))) : CmpI σ k .GtE (.int x) (.int y)
  | seq {x y : List Nat} (h : k (decide (x = y))) : CmpI σ k .Eq (.str x) (.str y)
  | sne {x y : List Nat} (h : k (!decide (x = y))) : CmpI σ k .NotEq (.str x) (.str y)
  | ins {x y : List Nat} (h : k (Txt.contains ⟨x.toArray⟩ ⟨y.toArray⟩)) : CmpI σ k .In (.str y) (.str x)
  | inl {x : Int} {n : Nat} {ns : List Int} (e : ((σ.hp[n]?).bind AO.lst?).bind toInts = some ns) (h : k (ns.any (· == x))) : CmpI σ k .In (.int x) (.ref n)
  | nin {x : Int} {n : Nat} {ns : List Int} (e : ((σ.hp[n]?).bind AO.lst?).bind toInts = some ns) (h : k (!ns.any (· == x))) : CmpI σ k .NotIn (.int x) (.ref n)
  | b1 {x : Int} {v : Value} (h : v = .ref b1At ∧ k (decide (x ∈ b1Set))) : CmpI σ k .In (.int x) (.con v)
  | dic {x : List Nat} {n : Nat} {es : List (List Nat × AV)} (e : σ.hp[n]? = some (.dict es)) (h : shortKeys es = true ∧ k (es.lookup x).isSome) : CmpI σ k .In (.str x) (.ref n)
  | is {x y : Bool} (h : k (x == y)) : CmpI σ k .Is (.bool x) (.bool y)
  | leq {m n : Nat} {d e : PyData} (e1 : deep2 σ.hp (.ref m) = some d) (e2 : deep2 σ.hp (.ref n) = some e) (h : (shaped d = true ∧ shaped e = true ∧ noMix d e = true) ∧ k (same d e)) : CmpI σ k .Eq (.ref m) (.ref n)
  | lne {m n : Nat} {d e : PyData} (e1 : deep2 σ.hp (.ref m) = some d) (e2 : deep2 σ.hp (.ref n) = some e) (h : (shaped d = true ∧ shaped e = true ∧ noMix d e = true) ∧ k (!same d e)) : CmpI σ k .NotEq (.ref m) (.ref n)
noncomputable def Cmp (op : CmpOp) (a b : AV) (σ : St) (k : Bool → Prop) : Prop := CmpI σ k op a b
theorem beq_dec (a b : Int) : (a == b) = decide (a = b) := by by_cases h : a = b <;> simp [h]
theorem beq_decL (a b : List Nat) : (a == b) = decide (a = b) := by by_cases h : a = b <;> simp [h]
theorem cmp_sound (hA : Room n A) (B : F.B1 w) (R : Rel F ρ σ s) {op : CmpOp} {a b : AV} {u v : Value} (ca : conc ρ a u) (cb : conc ρ b v) {k : Bool → Prop} (h : Cmp op a b σ k)
    {Q : Value → Shared → Prop} (q : ∀ c t, k c → Q (.bool c) { s with toks := t }) : wpAny (model pw w) A (compareOp op u v) Q NoE s := by
  have q0 : ∀ c, k c → Q (.bool c) s := fun c x => q c s.toks x
  have hu := hA.units
  cases h with
  | @eq x y h =>
    obtain ⟨t, rfl⟩ := ca; obtain ⟨t', rfl⟩ := cb
    exact PyProof.Rows.eq_int (q0 _ (beq_dec _ _ ▸ h))
  | @ne x y h =>
    obtain ⟨t, rfl⟩ := ca; obtain ⟨t', rfl⟩ := cb
    exact PyProof.Rows.ne_int (q0 _ (by unfold bne; rw [beq_dec]; exact h))
  | @lt x y h =>
    obtain ⟨t, rfl⟩ := ca; obtain ⟨t', rfl⟩ := cb
    exact PyProof.Rows.lt_int (q0 _ h)
  | @le x y h =>
    obtain ⟨t, rfl⟩ := ca; obtain ⟨t', rfl⟩ := cb
    exact le_int (q0 _ h)
  | @gt x y h =>
    obtain ⟨t, rfl⟩ := ca; obtain ⟨t', rfl⟩ := cb
    exact PyProof.Rows.gt_int (q0 _ h)
  | @ge x y h =>
    obtain ⟨t, rfl⟩ := ca; obtain ⟨t', rfl⟩ := cb
    exact ge_int (q0 _ h)
  | @seq x y h =>
    obtain ⟨t, rfl⟩ := ca; obtain ⟨t', rfl⟩ := cb
    refine P.eq_str (q0 _ ?_)
    rw [beq_decL]; exact h
  | @sne x y h =>
    obtain ⟨t, rfl⟩ := ca; obtain ⟨t', rfl⟩ := cb
    refine P.ne_str (q0 _ ?_)
    unfold bne; rw [beq_decL]; exact h
  | @ins x y h =>
    obtain ⟨t, rfl⟩ := ca; obtain ⟨t', rfl⟩ := cb
    exact P.in_str (q0 _ h)
  | @inl x n ns e h =>
    obtain ⟨t, rfl⟩ := ca; obtain ⟨a, rfl, ha⟩ := cb
    obtain ⟨xs, e1, e2⟩ := Option.bind_eq_some_iff.mp e
    obtain ⟨x, hx, ex⟩ := lst_of_bind e1
    obtain ⟨vs, L1, c1⟩ := R.list ha hx ex
    exact in_list_ints (vs := vs.toList) (by simpa using L1) (ints_of e2 c1) (q0 _ h)
  | @nin x n ns e h =>
    obtain ⟨t, rfl⟩ := ca; obtain ⟨a, rfl, ha⟩ := cb
    obtain ⟨xs, e1, e2⟩ := Option.bind_eq_some_iff.mp e
    obtain ⟨x, hx, ex⟩ := lst_of_bind e1
    obtain ⟨vs, L1, c1⟩ := R.list ha hx ex
    exact notin_list_ints (vs := vs.toList) (by simpa using L1) (ints_of e2 c1) (q0 _ h)
  | @b1 x v h =>
    obtain ⟨t, rfl⟩ := ca
    obtain ⟨rfl, h⟩ := h
    cases cb
    obtain ⟨⟨o, es, ep, tb, ho, r⟩, _⟩ := B
    refine wpAny_inSet_of (knd := intKind pw w) (k := _) (by exact isInt_self _ t) rfl ⟨o, es, ep, tb, R.keep _ _ (R.stat _ _ ho), r⟩ (q _ _ h)
  | @dic x n es e h =>
    obtain ⟨t, rfl⟩ := ca; obtain ⟨a, rfl, ha⟩ := cb
    obtain ⟨sk, h⟩ := h
    obtain ⟨kvs, D, kv⟩ := R.dic B.2.1 ha e
    refine wpAny_in_of (knd := strKind pw w) (k := ⟨x.toArray⟩) (strKind_is pw w _ t) ?_ D.mapOf (q _ _ ?_)
    · obtain ⟨o, ho, hO⟩ := R.objs _ _ _ ha e
      refine beq_eq_false_iff_ne.mpr fun z => ?_
      have := R.keep _ _ (R.stat _ _ B.2.2)
      rw [← z, ho] at this
      cases this
      exact notMods sk hO
    · have := KVs_at x kv
      cases hl : es.lookup x with
      | none => rw [hl] at this h; rw [this]; exact h
      | some y => rw [hl] at this h; obtain ⟨v, e1, _⟩ := this; rw [e1]; exact h
  | @is x y h =>
    cases ca; cases cb
    refine wpAny_is_plain (by rfl) (q0 _ ?_)
    have : (Value.bool x == Value.bool y) = (x == y) := by cases x <;> cases y <;> rfl
    rw [this]; exact h
  | @leq m n d e e1 e2 h =>
    obtain ⟨as, r1⟩ := deep2_reads R e1 ca
    obtain ⟨bs, r2⟩ := deep2_reads R e2 cb
    exact eq_dataH_same r1 r2 h.1.1 h.1.2.1 (by (first | lia | omega)) h.1.2.2 (q0 _ h.2)
  | @lne m n d e e1 e2 h =>
    obtain ⟨as, r1⟩ := deep2_reads R e1 ca
    obtain ⟨bs, r2⟩ := deep2_reads R e2 cb
    exact ne_dataH_same r1 r2 h.1.1 h.1.2.1 (by (first | lia | omega)) h.1.2.2 (q0 _ h.2)
end
end W58
end
section
open PySem PySem.W PyProof.Rows PySem.Calls
set_option maxRecDepth 100000
namespace W58
/-! What the program does, on the abstract side: conditions ahead, by the text's own trees. -/
structure Cx where
  sc : Scope
  own : Bool
  fz : Nat
inductive Fl where
  | next | brk | cont
  | ret (v : AV)
noncomputable def AV.below (n : Nat) : AV → Prop
  | .ref m => m < n
  | _ => True
noncomputable def AO.below (n : Nat) : AO → Prop
  | .list xs => ∀ x ∈ xs, x.below n
  | .plist xs => ∀ x ∈ xs, x.below n
  | .tup xs => ∀ x ∈ xs, x.below n
  | .slice l u st => l.below n ∧ u.below n ∧ st.below n
  | .liter m _ => m < n
  | .inst _ d => d < n
  | .ns es => ∀ p ∈ es, p.2.below n
  | .dict es => ∀ p ∈ es, p.2.below n
  | _ => True
/-- what is forgotten: places from some number on, names that spoke of them -/
structure Wk (N : Nat) (σ σ' : St) : Prop where
  lo : N ≤ σ'.hp.length
  hi : σ'.hp.length ≤ σ.hp.length
  hp : ∀ (i : Nat) (x : AO), σ'.hp[i]? = some x → (σ.hp[i]? = some x ∧ x.below σ'.hp.length) ∨ x = .any
  loc : ∀ x av, σ'.loc.lookup x = some av → σ.loc.lookup x = some av ∧ av.below σ'.hp.length
noncomputable def kindIn (sc : Scope) (x : Str) : Option NameKind := sc.names.lookup x
/-- the top's names and the built-in ones -/
noncomputable def globTab : List (Str × Value) := [
  (Str.ofString "error_reply", .ref 44), (Str.ofString "parse257", .ref 53), (Str.ofString "b1_set", .ref 61), (Str.ofString "in_table_b1", .ref 71), (Str.ofString "Whitespace", .ref 133),
  (Str.ofString "_escape_cdata", .ref 151), (Str.ofString "_escape_attrib", .ref 158), (Str.ofString "_escape_attrib_html", .ref 165), (Str.ofString "_escape_cdata_c14n", .ref 172), (Str.ofString "_escape_attrib_c14n", .ref 179),
  (Str.ofString "_law_hands", .ref 186), (Str.ofString "_law_unseen", .ref 193), (Str.ofString "_law_beside", .ref 200), (Str.ofString "_law_written", .ref 207), (Str.ofString "_law_spelled", .ref 214), (Str.ofString "_law_free", .ref 219), (Str.ofString "_law_lead", .ref 224),
  (Str.ofString "len", .builtin "len"), (Str.ofString "chr", .builtin "chr"), (Str.ofString "ord", .builtin "ord"), (Str.ofString "sum", .builtin "sum"), (Str.ofString "max", .builtin "max"),
  (Str.ofString "str", .type "str"), (Str.ofString "range", .type "range"), (Str.ofString "list", .type "list"), (Str.ofString "dict", .type "dict"), (Str.ofString "tuple", .type "tuple")]
noncomputable def glob (x : Str) : Option Value := globTab.lookup x
noncomputable def setVar (cx : Cx) (x : Str) (v : AV) (σ : St) (Q : St → Prop) : Prop := match kindIn cx.sc x with
  | some .local => Q { σ with loc := upd x v σ.loc }
  | some .cell => cx.own = true ∧ Q { σ with loc := upd x v σ.loc }
  | _ => False
noncomputable def getVar (cx : Cx) (x : Str) (σ : St) (Q : AV → St → Prop) : Prop := match kindIn cx.sc x with
  | some .local => (match σ.loc.lookup x with | some v => Q v σ | none => False)
  | some .cell => (match σ.loc.lookup x with | some v => Q v σ | none => False)
  | some .globalImplicit => (match glob x with | some v => Q (.con v) σ | none => False)
  | _ => False
noncomputable def alloc (x : AO) (σ : St) (Q : AV → St → Prop) : Prop := Q (.ref σ.hp.length) { σ with hp := σ.hp ++ [x] }
noncomputable def intAVs (l : List Int) : List AV := l.map .int
noncomputable def rangeList (a b : Int) : List Int := (List.range (b - a).toNat).map fun (i : Nat) => a + (i : Int)
/-- an item of a list or tuple -/
noncomputable def itemAt (xs : List AV) (i : Int) : Option AV := if 0 ≤ i then xs[i.toNat]? else if 0 ≤ i + xs.length then xs[(i + xs.length).toNat]? else none
noncomputable def pairsOf (hp : List AO) : List AV → Option (List (List Nat × AV))
  | [] => some []
  | .ref m :: r => (match hp[m]?, pairsOf hp r with | some (.tup [.str k, v]), some es => some ((k, v) :: es) | _, _ => none)
  | _ :: _ => none
noncomputable def plist? : AO → Option (List AV)
  | .plist xs => some xs
  | _ => none
noncomputable def AO.seq? : AO → Option (List AV)
  | .list xs => some xs
  | .plist xs => some xs
  | .tup xs => some xs
  | _ => none
/-- the built-in functions that are called -/
inductive BltI (σ : St) (Q : AV → St → Prop) : Value → List AV → Prop
  | len {n : Nat} {xs : List AV} (e : (σ.hp[n]?).bind AO.seq? = some xs) (h : (xs.length : Int) < 2 ^ 40 ∧ Q (.int xs.length) σ) : BltI σ Q (.builtin "len") [.ref n]
  | slen {s : List Nat} (h : (s.length : Int) < 2 ^ 40 ∧ Q (.int s.length) σ) : BltI σ Q (.builtin "len") [.str s]
  | chr {i : Int} (h : (0 ≤ i ∧ i ≤ 0x10FFFF) ∧ Q (.str [i.toNat]) σ) : BltI σ Q (.builtin "chr") [.int i]
  | ord {c : Nat} (h : Q (.int c) σ) : BltI σ Q (.builtin "ord") [.str [c]]
  | max {a b : Int} (h : Q (.int (if b > a then b else a)) σ) : BltI σ Q (.builtin "max") [.int a, .int b]
  | sum {n : Nat} {ns : List Int} (e : ((σ.hp[n]?).bind AO.lst?).bind toInts = some ns) (h : Q (.int ns.sum) σ) : BltI σ Q (.builtin "sum") [.ref n]
  | rng1 {b : Int} (h : (-(2 ^ 40) < b ∧ b < 2 ^ 40) ∧ alloc (.range 0 b 1) σ Q) : BltI σ Q (.type "range") [.int b]
  | rng2 {a b : Int} (h : (-(2 ^ 40) < a ∧ a < 2 ^ 40 ∧ -(2 ^ 40) < b ∧ b < 2 ^ 40) ∧ alloc (.range a b 1) σ Q) : BltI σ Q (.type "range") [.int a, .int b]
  | list {n : Nat} {a b : Int} (e : σ.hp[n]? = some (.range a b 1)) (h : (-(2 ^ 40) < a ∧ a < 2 ^ 40 ∧ -(2 ^ 40) < b ∧ b < 2 ^ 40 ∧ b - a ≤ 2 ^ 20) ∧ alloc (.plist (intAVs (rangeList a b))) σ Q) : BltI σ Q (.type "list") [.ref n]
  | tuple {n : Nat} {xs : List AV} (e : (σ.hp[n]?).bind AO.lst? = some xs) (h : xs.length ≤ 2 ^ 20 ∧ alloc (.tup xs) σ Q) : BltI σ Q (.type "tuple") [.ref n]
  | dict {n : Nat} {es : List (List Nat × AV)} (e : ((σ.hp[n]?).bind plist?).bind (pairsOf σ.hp) = some es) (h : ((es.map (·.1)).Nodup ∧ es.length ≤ 1000) ∧ alloc (.dict es) σ Q) : BltI σ Q (.type "dict") [.ref n]
  | str {i : Int} (h : (0 ≤ i ∧ i < 1000) ∧ Q (.str (Str.ofString (toString i)).cps.toList) σ) : BltI σ Q (.type "str") [.int i]
noncomputable def Blt (f : Value) (args : List AV) (σ : St) (Q : AV → St → Prop) : Prop := BltI σ Q f args
/-- an iterator -/
noncomputable def mkIter (x : AV) (σ : St) (Q : Nat → St → Prop) : Prop := match x with
  | .str l => Q σ.hp.length { σ with hp := σ.hp ++ [.siter l 0] }
  | .ref n => (match σ.hp[n]? with
    | some (.range a b 1) => (-(2 ^ 40) < a ∧ a < 2 ^ 40 ∧ -(2 ^ 40) < b ∧ b < 2 ^ 40) ∧ Q σ.hp.length { σ with hp := σ.hp ++ [.riter a (if a < b then b - a else 0) 1] }
    | some (.list _) => Q σ.hp.length { σ with hp := σ.hp ++ [.liter n 0] }
    | some (.plist _) => Q σ.hp.length { σ with hp := σ.hp ++ [.liter n 0] }
    | _ => False)
  | _ => False
inductive Stp where
  | no
  | fin
  | item (v : AV) (o : AO)
noncomputable def stepIt (hp : List AO) (j : Nat) : Stp := match hp[j]? with
  | some (.siter l i) => (match l[i]? with | some c => .item (.str [c]) (.siter l (i + 1)) | none => .fin)
  | some (.liter n i) => (match (hp[n]?).bind AO.lst? with | some xs => (match xs[i]? with | some v => .item v (.liter n (i + 1)) | none => .fin) | none => .no)
  | some (.riter x left st) => if 0 < left then .item (.int x) (.riter (x + st) (left - 1) st) else .fin
  | _ => .no
noncomputable def St.putO (σ : St) (i : Nat) (x : AO) : St := { σ with hp := σ.hp.set i x }
/-- x[i] -/
noncomputable def Sub (a i : AV) (σ : St) (Q : AV → St → Prop) : Prop := match a, i with
  | .ref n, .str k => (match σ.hp[n]? with | some (.dict es) => (match es.lookup k with | some v => Q v σ | none => False) | _ => False)
  | .ref n, .int k => (-(2 ^ 40) < k ∧ k < 2 ^ 40) ∧ (match σ.hp[n]? with
    | some (.tup xs) => (match itemAt xs k with | some v => xs.length < 2 ^ 40 ∧ Q v σ | none => False)
    | some o => (match o.lst? with | some xs => (match itemAt xs k with | some v => xs.length < 2 ^ 40 ∧ Q v σ | none => False) | none => False)
    | none => False)
  | .str l, .int k => (0 ≤ k ∧ k < 2 ^ 40) ∧ (match l[k.toNat]? with | some c => Q (.str [c]) σ | none => False)
  | _, _ => False
/-- x[lo:up:st] -/
noncomputable def optInt : AV → Option (Option Int)
  | .none => some none
  | .int a => some (some a)
  | _ => none
noncomputable def pickA {α : Type} (xs : List α) (lo hi st : Option Int) : List α := (sliceRange (sliceBounds lo hi st xs.length).1 (sliceBounds lo hi st xs.length).2.1 (sliceBounds lo hi st xs.length).2.2).filterMap (xs[·]?)
noncomputable def SliceOf (a lo up st : AV) (σ : St) (Q : AV → St → Prop) : Prop := match a with
  | .str l => (match optInt lo, optInt up with
    | some i, some j => l.length < 2 ^ 24 ∧ Q (.str (Txt.slice ⟨l.toArray⟩ i j).cps.toList) σ
    | _, _ => False)
  | .ref n => (match (σ.hp[n]?).bind AO.lst?, optInt lo, optInt up, optInt st with
    | some xs, some i, some j, some k => (xs.length < 2 ^ 24 ∧ k ≠ some 0) ∧ alloc (.plist (pickA xs i j k)) σ Q
    | _, _, _, _ => False)
  | _ => False
noncomputable def fnRoads : List (Addr × (Nat × Option Nat)) := [(53, 4, none), (71, 7, none), (88, 9, some 1), (95, 9, some 2), (102, 9, some 3), (109, 9, some 4), (123, 9, some 6), (151, 12, none), (158, 13, none), (165, 14, none), (172, 15, none), (179, 16, none),
  (186, 18, none), (193, 19, none), (200, 20, none), (207, 21, none), (214, 22, none), (219, 23, none), (224, 24, none)]
/-- the def that stands at a place -/
noncomputable def fnAt (a : Addr) : Option Stmt := (fnRoads.lookup a).map fun p => match p.2 with | none => cell p.1 | some j => inner p.1 j
noncomputable def wsCls : Addr := 133
noncomputable def wsInit : Addr := 88
noncomputable def wsMeths : List (Str × Addr) := [(Str.ofString "longest_run_of_spaces", 95), (Str.ofString "indent_level", 102), (Str.ofString "equal", 109), (Str.ofString "less", 123)]
noncomputable def wsConsts : List (Str × List Nat) := [(Str.ofString "S", [32]), (Str.ofString "T", [9])]
end W58
end
section
open PySem PySem.W PyProof.Rows PySem.Calls
set_option maxRecDepth 100000
namespace W58
noncomputable def debugName : Str := Str.ofString "__debug__"
/-- what a method's name is on a value -/
inductive Mk where
  | bi (name : String) (self : AV)
  | fn (a : Addr) (self : AV)
noncomputable def strMeths : List (Str × String) := [(Str.ofString "count", "str.count"), (Str.ofString "replace", "str.replace"), (Str.ofString "join", "str.join")]
noncomputable def listMeths : List (Str × String) := [(Str.ofString "append", "list.append")]
noncomputable def Mth (a : AV) (name : Str) (σ : St) (k : Mk → Prop) : Prop := match a with
  | .str l => (match strMeths.lookup name with | some id => k (.bi id (.str l)) | none => False)
  | .ref n => (match σ.hp[n]? with
    | some (.inst C d) => (match σ.hp[d]? with
      | some (.ns es) => (match wsMeths.lookup name with | some f => (C = wsCls ∧ es.lookup name = none) ∧ k (.fn f (.ref n)) | none => False)
      | _ => False)
    | some (.plist _) => (match listMeths.lookup name with | some id => k (.bi id (.ref n)) | none => False)
    | _ => False)
  | _ => False
noncomputable def toStrs : List AV → Option (List (List Nat))
  | [] => some []
  | .str l :: r => (toStrs r).map (l :: ·)
  | _ :: _ => none
/-- a built-in method, called -/
noncomputable def BltM (fz : Nat) (f : String) (self : AV) (args : List AV) (σ : St) (Q : AV → St → Prop) : Prop := match self, args with
  | .str l, [.str p] => if f = "str.count" then Q (.int (Txt.count ⟨l.toArray⟩ ⟨p.toArray⟩)) σ else False
  | .str l, [.ref n] => if f = "str.join" then (match ((σ.hp[n]?).bind AO.lst?).bind toStrs with | some ss => (l = [] ∧ ss.flatten.length < 2 ^ 24) ∧ Q (.str ss.flatten) σ | none => False) else False
  | .ref n, [v] => if f = "list.append" then (match σ.hp[n]? with | some (.plist xs) => (fz ≤ n ∧ xs.length < 2 ^ 24) ∧ Q .none { σ with hp := σ.hp.set n (.plist (xs ++ [v])) } | _ => False) else False
  | _, _ => False
noncomputable def wsFields : List Str := [Str.ofString "raw", Str.ofString "n", Str.ofString "nt", Str.ofString "norm", Str.ofString "is_simple"]
/-- replace, by two literals -/
noncomputable def strOf : AV → Option (List Nat)
  | .str l => some l
  | _ => none
noncomputable def litOf : Expr → Option Str
  | .Constant (.str p) _ _ => some p
  | _ => none
noncomputable def Rpl (mk : Mk) (args : List Expr) : Option (List Nat × Str × Str) := match mk, args with
  | .bi f a, [x, y] => (strOf a).bind fun l => (litOf x).bind fun p => (litOf y).bind fun q => if f = "str.replace" then some (l, p, q) else none
  | _, _ => none
theorem none_some {α : Type} {a : α} {P : Prop} (h : (none : Option α) = some a) : P := by cases h
theorem strOf_some {a : AV} {l : List Nat} (h : strOf a = some l) : a = .str l := by
  cases a <;> cases h; rfl
theorem litOf_some {e : Expr} {p : Str} (h : litOf e = some p) : ∃ k q, e = .Constant (.str p) k q := by
  cases e <;> try exact none_some h
  case Constant c k q => cases c <;> first | exact none_some h | exact ⟨k, q, congrArg (fun s => Expr.Constant (.str s) k q) (Option.some.inj h)⟩
noncomputable def SliceGate (st : Option Expr) (a lo up k : AV) (σ : St) (Q : AV → St → Prop) : Prop := match st, a with
  | some _, .str _ => False
  | _, _ => SliceOf a lo up k σ Q
noncomputable def AV.plain : AV → Bool
  | .con _ => false
  | _ => true
noncomputable def Att (a : AV) (name : Str) (σ : St) (Q : AV → St → Prop) : Prop := match a with
  | .ref n => (match σ.hp[n]? with
    | some (.inst C d) => (match σ.hp[d]? with
      | some (.ns es) => (match es.lookup name with | some v => (C = wsCls ∧ name ∈ wsFields ∧ v.plain = true) ∧ Q v σ | none => False)
      | _ => False)
    | _ => False)
  | .con v => (match wsConsts.lookup name with | some l => v = .ref wsCls ∧ Q (.str l) σ | none => False)
  | _ => False
noncomputable def SetAtt (fz : Nat) (a : AV) (name : Str) (v : AV) (σ : St) (Q : St → Prop) : Prop := match a with
  | .ref n => (match σ.hp[n]? with
    | some (.inst C d) => (match σ.hp[d]? with
      | some (.ns es) => (C = wsCls ∧ fz ≤ d ∧ name ∈ wsFields ∧ es.length ≤ 900) ∧ Q { σ with hp := σ.hp.set d (.ns (upsert name v es)) }
      | _ => False)
    | _ => False)
  | _ => False
noncomputable def SetSub (fz : Nat) (a i v : AV) (σ : St) (Q : St → Prop) : Prop := match a, i with
  | .ref n, .int k => (match (σ.hp[n]?).bind AO.lst? with | some xs => (fz ≤ n ∧ 0 ≤ k ∧ k < xs.length ∧ xs.length < 2 ^ 40) ∧ Q { σ with hp := σ.hp.set n (.list (xs.set k.toNat v)) } | none => False)
  | _, _ => False
noncomputable def setNames (cx : Cx) : List Expr → List AV → St → (St → Prop) → Prop
  | [], [], σ, Q => Q σ
  | .Name x _ :: ts, v :: vs, σ, Q => setVar cx x v σ fun σ => setNames cx ts vs σ Q
  | _, _, _, _ => False
noncomputable def relabelA (sc : Scope) : Scope := { sc with names := sc.names.map fun (n, k) => if k == .free then (n, .cell) else (n, k) }
noncomputable def dotName : Str := Str.ofString ".0"
noncomputable def dropN (x : Str) (l : List (Str × AV)) : List (Str × AV) := l.filter fun p => !(p.1 == x || p.1 == dotName)
/-- a comprehension's scope: its own names local, the others the frame's cells or the top's -/
noncomputable def compOk (outer sc : Scope) (x : Str) : Bool := sc.kind == .function && sc.names.lookup x == some .local && sc.names.all fun p => match p.2 with
  | .local => (p.1 == x || p.1 == dotName) && sc.names.lookup p.1 == some .local
  | .free => sc.names.lookup p.1 == some .free && kindIn outer p.1 == some .cell
  | .globalImplicit => true
  | _ => false
/-- a call's end: the value and what the caller keeps of the heap -/
noncomputable def RetK (N : Nat) (loc : List (Str × AV)) (Q : AV → St → Prop) (fl : Fl) (σ : St) : Prop :=
  let v := match fl with | .ret v => v | _ => .none
  Q v ⟨loc, σ.hp⟩ ∨ ∃ σ', Wk N σ σ' ∧ v.below σ'.hp.length ∧ Q v ⟨loc, σ'.hp⟩
noncomputable def notSuper : Expr → Bool
  | .Call (.Name _ _) [] [] _ => false
  | _ => true
noncomputable def noStar : Expr → Bool
  | .Starred .. => false
  | _ => true
/-- two or three names stored at once, from behind; what the compiler folds -/
noncomputable def headLine (ts : List Expr) : Nat := (ts.head?.map (·.pos.line)).getD 0
noncomputable def nameOn (cx : Cx) (line : Nat) : Expr → Option Str
  | .Name x p => if kindIn cx.sc x == some .local && p.line == line then some x else none
  | _ => none
noncomputable def swCand (cx : Cx) (ts vs : List Expr) : Bool := (ts.length == 2 || ts.length == 3) && vs.length == ts.length && vs.all noStar && (ts.filterMap (nameOn cx (headLine ts))).length == ts.length
noncomputable def swBad (cx : Cx) : List Expr → Expr → Bool
  | [.Tuple ts _ _], .Tuple vs _ _ => swCand cx ts vs && ((ts.filterMap (nameOn cx (headLine ts))).eraseDups.length != (ts.filterMap (nameOn cx (headLine ts))).length || vs.all (foldedForSure 8) || vs.all (constantsAlone 8))
  | _, _ => false
noncomputable def asnT : Expr → Bool
  | .Name _ _ => true
  | .Attribute .. => true
  | .Subscript _ (.Slice ..) _ => false
  | .Subscript .. => true
  | .Tuple ts _ _ => ts.all fun e => match e with | .Name _ _ => true | _ => false
  | _ => false
noncomputable def asnTs (ts : List Expr) : Bool := !ts.isEmpty && ts.all asnT
noncomputable def notComp : Expr → Bool
  | .ListComp .. => false
  | .Name .. => false
  | _ => true
mutual
noncomputable def E : Nat → Cx → Expr → St → (AV → St → Prop) → Prop
  | 0, _, _, _, _ => False
  | n + 1, cx, e, σ, Q => match e with
    | .Constant c _ _ => (match c with
      | .int i => Q (.int i) σ
      | .str s => Q (.str s.cps.toList) σ
      | .bool b => Q (.bool b) σ
      | .none => Q .none σ
      | _ => False)
    | .Name x _ => x ≠ debugName ∧ getVar cx x σ Q
    | .BinOp l op r _ => E n cx l σ fun a σ => E n cx r σ fun b σ => Bin op a b σ Q
    | .UnaryOp op x _ => (match op with | .USub => E n cx x σ fun a σ => (match a with | .int i => Q (.int (-i)) σ | _ => False) | _ => False)
    | .Compare l ops rs _ => (match ops, rs with
      | [op], [r] => behindInMarks op r = false ∧ E n cx l σ fun a σ => E n cx r σ fun b σ => Cmp op a b σ fun c => Q (.bool c) σ
      | _, _ => False)
    | .BoolOp op es _ => (match op with | .And => EB n cx es σ Q | _ => False)
    | .IfExp t b o _ => T n cx t σ fun c σ => (match c with | true => E n cx b σ Q | false => E n cx o σ Q)
    | .List es _ => EL n cx es σ fun vs σ => vs.length < 2 ^ 20 ∧ alloc (.plist vs) σ Q
    | .Tuple es _ _ => EL n cx es σ fun vs σ => vs.length < 2 ^ 20 ∧ alloc (.tup vs) σ Q
    | .Call f args kws pos => (match f, kws with
      | .Attribute o name apos, [] => (notSuper o = true ∧ apos.endLine = pos.line ∧ args.length < 30 ∧ args.all noStar = true) ∧ E n cx o σ fun a σ => Mth a name σ fun mk => (match Rpl mk args with
          | some (l, p, q) => (p ≠ q ∧ l.length + (l.length + 1) * q.length ≤ 2 ^ 24) ∧ Q (.str (Txt.replace ⟨l.toArray⟩ p q).cps.toList) σ
          | none => EL n cx args σ fun vs σ => ApM n cx.fz mk vs σ Q)
      | .Name x p, [] => args.all noStar = true ∧ E n cx (.Name x p) σ fun fv σ => EL n cx args σ fun vs σ => Ap n fv vs σ Q
      | _, _ => False)
    | .Attribute v name _ => notSuper v = true ∧ E n cx v σ fun a σ => Att a name σ Q
    | .Subscript v i _ => (match i with
      | .Slice lo up st _ => E n cx v σ fun a σ => EO n cx lo σ fun lo σ => EO n cx up σ fun up σ => EO n cx st σ fun sv σ => SliceGate st a lo up sv σ Q
      | i => E n cx v σ fun a σ => E n cx i σ fun i σ => Sub a i σ Q)
    | .ListComp elt gens scope _ => (match gens with
      | [⟨.Name x _, iter, ifs, 0⟩] => compOk cx.sc scope x = true ∧ E n cx iter σ fun v σ₁ => mkIter v σ₁ fun j σ₂ => compWp n ⟨relabelA scope, false, j⟩ x elt ifs j σ₂.hp.length σ₂.loc { σ₂ with hp := σ₂.hp ++ [.plist []] } Q
      | _ => False)
    | .NamedExpr .. => False
    | .Lambda .. => False
    | .Dict .. => False
    | .Set .. => False
    | .SetComp .. => False
    | .DictComp .. => False
    | .GeneratorExp .. => False
    | .Await .. => False
    | .Yield .. => False
    | .YieldFrom .. => False
    | .FormattedValue .. => False
    | .JoinedStr .. => False
    | .Starred .. => False
    | .Slice .. => False
/-- the turns of a comprehension: j the iterator's place, d the list's -/
noncomputable def compWp : Nat → Cx → Str → Expr → List Expr → Nat → Nat → List (Str × AV) → St → (AV → St → Prop) → Prop
  | 0, _, _, _, _, _, _, _, _, _ => False
  | n + 1, cx, x, elt, ifs, j, d, loc, σ, Q => ∃ I : Nat → List AO → Prop, (∃ k, I k σ.hp) ∧ ∀ k hp, I k hp → (match stepIt hp j with
      | .no => False
      | .fin => Q (.ref d) ⟨loc, hp.set j .any⟩
      | .item v o => TS n cx ifs ⟨upd x v (dropN x loc), hp.set j o⟩ fun c σ' => (match c with
        | false => ∃ m hp', m < k ∧ (hp' = σ'.hp ∨ ∃ l, Wk (d + 1) ⟨[], σ'.hp⟩ ⟨l, hp'⟩) ∧ I m hp'
        | true => E n cx elt σ' fun y σ'' => (match σ''.hp[d]? with
          | some (.plist ys) => ys.length < 2 ^ 24 ∧ ∃ m hp', m < k ∧ (hp' = σ''.hp.set d (.plist (ys ++ [y])) ∨ ∃ l, Wk (d + 1) ⟨[], σ''.hp.set d (.plist (ys ++ [y]))⟩ ⟨l, hp'⟩) ∧ I m hp'
          | _ => False)))
noncomputable def TS : Nat → Cx → List Expr → St → (Bool → St → Prop) → Prop
  | 0, _, _, _, _ => False
  | n + 1, cx, es, σ, k => match es with
    | [] => k true σ
    | [e] => T n cx e σ k
    | _ => False
noncomputable def EO : Nat → Cx → Option Expr → St → (AV → St → Prop) → Prop
  | 0, _, _, _, _ => False
  | n + 1, cx, e, σ, Q => match e with
    | none => Q .none σ
    | some e => E n cx e σ Q
noncomputable def EB : Nat → Cx → List Expr → St → (AV → St → Prop) → Prop
  | 0, _, _, _, _ => False
  | n + 1, cx, es, σ, Q => match es with
    | [] => False
    | [e] => E n cx e σ Q
    | e :: es => E n cx e σ fun a σ => (match a with
      | .bool true => EB n cx es σ Q
      | .bool false => Q (.bool false) σ
      | _ => False)
noncomputable def EL : Nat → Cx → List Expr → St → (List AV → St → Prop) → Prop
  | 0, _, _, _, _ => False
  | n + 1, cx, es, σ, Q => match es with
    | [] => Q [] σ
    | e :: es => noStar e = true ∧ E n cx e σ fun v σ => EL n cx es σ fun vs σ => Q (v :: vs) σ
noncomputable def T : Nat → Cx → Expr → St → (Bool → St → Prop) → Prop
  | 0, _, _, _, _ => False
  | n + 1, cx, e, σ, k => match e with
    | .Compare l ops rs _ => (match ops, rs with
      | [op], [r] => behindInMarks op r = false ∧ E n cx l σ fun a σ => E n cx r σ fun b σ => Cmp op a b σ fun c => k c σ
      | _, _ => False)
    | .BoolOp op es _ => TB n cx op es σ k
    | .Attribute v name p => E n cx (.Attribute v name p) σ fun a σ => (match a with | .bool b => k b σ | _ => False)
    | _ => False
noncomputable def TB : Nat → Cx → BoolOp → List Expr → St → (Bool → St → Prop) → Prop
  | 0, _, _, _, _, _ => False
  | n + 1, cx, op, es, σ, k => match es with
    | [] => k (op == .And) σ
    | e :: es => T n cx e σ fun b σ => (match op, b with
      | .And, false => k false σ
      | .Or, true => k true σ
      | _, _ => TB n cx op es σ k)
noncomputable def Ap : Nat → AV → List AV → St → (AV → St → Prop) → Prop
  | 0, _, _, _, _ => False
  | n + 1, f, args, σ, Q => match f with
    | .con (.ref a) => if a = wsCls then
          (match args with
          | [.str l] => (match fnAt wsInit with
            | some st => XS n ⟨fScope st, true, σ.hp.length⟩ (fBody st) ⟨[(Str.ofString "self", .ref (σ.hp.length + 1)), (Str.ofString "ws", .str l)], σ.hp ++ [.ns [], .inst wsCls σ.hp.length]⟩
                (RetK (σ.hp.length + 2) σ.loc fun v σ' => v = .none ∧ Q (.ref (σ.hp.length + 1)) σ')
            | none => False)
          | _ => False)
        else (match fnAt a with
        | some st => ((fArgs st).args.length = args.length) ∧ XS n ⟨fScope st, true, σ.hp.length⟩ (fBody st) ⟨((fArgs st).args.map (·.arg)).zip args, σ.hp⟩ (RetK σ.hp.length σ.loc Q)
        | none => False)
    | .con f => Blt f args σ Q
    | _ => False
noncomputable def ApM : Nat → Nat → Mk → List AV → St → (AV → St → Prop) → Prop
  | 0, _, _, _, _, _ => False
  | n + 1, fz, mk, args, σ, Q => match mk with
    | .bi f self => BltM fz f self args σ Q
    | .fn a self => Ap n (.con (.ref a)) (self :: args) σ Q
noncomputable def Asn : Nat → Cx → Expr → AV → St → (St → Prop) → Prop
  | 0, _, _, _, _, _ => False
  | n + 1, cx, t, v, σ, Q => match t with
    | .Name x _ => setVar cx x v σ Q
    | .Attribute o name _ => E n cx o σ fun ov σ => SetAtt cx.fz ov name v σ Q
    | .Subscript o i _ => E n cx o σ fun ov σ => E n cx i σ fun iv σ => SetSub cx.fz ov iv v σ Q
    | .Tuple ts _ _ => (match v with
      | .ref m => (match σ.hp[m]? with | some (.tup xs) => setNames cx ts xs σ Q | _ => False)
      | _ => False)
    | _ => False
noncomputable def AsnL : Nat → Cx → List Expr → AV → St → (St → Prop) → Prop
  | 0, _, _, _, _, _ => False
  | n + 1, cx, ts, v, σ, Q => match ts with
    | [] => Q σ
    | t :: ts => Asn n cx t v σ fun σ => AsnL n cx ts v σ Q
noncomputable def X : Nat → Cx → Stmt → St → (Fl → St → Prop) → Prop
  | 0, _, _, _, _ => False
  | n + 1, cx, st, σ, Q => match st with
    | .Assign ts v _ => (swBad cx ts v = false ∧ asnTs ts = true) ∧ E n cx v σ fun a σ => AsnL n cx ts a σ fun σ => Q .next σ
    | .Expr e _ => notComp e = true ∧ E n cx e σ fun v σ => v = .none ∧ Q .next σ
    | .If t b o _ => T n cx t σ fun c σ => (match c with | true => XS n cx b σ Q | false => XS n cx o σ Q)
    | .Try b hs o f _ => (match hs, o, f with | _ :: _, [], [] => XS n cx b σ Q | _, _, _ => False)
    | .Break _ => Q .brk σ
    | .Return v _ => (match v with | some e => E n cx e σ fun v σ => Q (.ret v) σ | none => Q (.ret .none) σ)
    | .While t b o _ => (match o with
      | [] => ∃ I : Nat → St → Prop, (∃ k, I k σ) ∧ ∀ k σ', I k σ' → T n cx t σ' fun c σ' => (match c with
        | false => Q .next σ'
        | true => XS n cx b σ' fun fl σ'' => (match fl with
          | .brk => Q .next σ''
          | .ret v => Q (.ret v) σ''
          | _ => ∃ m σ₃, m < k ∧ (σ₃ = σ'' ∨ Wk σ.hp.length σ'' σ₃) ∧ I m σ₃))
      | _ => False)
    | .For t it b o _ => (match t, o with
      | .Name x _, [] => E n cx it σ fun v σ₁ => mkIter v σ₁ fun j σ₂ => ∃ I : Nat → St → Prop, (∃ k, I k σ₂) ∧ ∀ k σ', I k σ' → (match stepIt σ'.hp j with
        | .no => False
        | .fin => Q .next (σ'.putO j .any)
        | .item v o => setVar cx x v (σ'.putO j o) fun σ' => XS n cx b σ' fun fl σ'' => (match fl with
          | .brk => Q .next σ''
          | .ret v => Q (.ret v) σ''
          | _ => ∃ m σ₃, m < k ∧ (σ₃ = σ'' ∨ Wk σ₂.hp.length σ'' σ₃) ∧ I m σ₃))
      | _, _ => False)
    | .FunctionDef .. => False
    | .AsyncFunctionDef .. => False
    | .ClassDef .. => False
    | .Delete .. => False
    | .TypeAlias .. => False
    | .AugAssign .. => False
    | .AnnAssign .. => False
    | .AsyncFor .. => False
    | .With .. => False
    | .AsyncWith .. => False
    | .Match .. => False
    | .Raise .. => False
    | .TryStar .. => False
    | .Assert .. => False
    | .Import .. => False
    | .ImportFrom .. => False
    | .Global .. => False
    | .Nonlocal .. => False
    | .Pass .. => False
    | .Continue .. => False
noncomputable def XS : Nat → Cx → List Stmt → St → (Fl → St → Prop) → Prop
  | 0, _, _, _, _ => False
  | n + 1, cx, ss, σ, Q => match ss with
    | [] => Q .next σ
    | s :: r => X n cx s σ fun fl σ => (match fl with
      | .next => XS n cx r σ Q
      | fl => Q fl σ)
end
end W58
end
section
open PySem PySem.W PyProof.Rows PySem.Calls
set_option maxRecDepth 100000
namespace W58
noncomputable section
/-- the functions, the class and their code objects, as the top left them -/
noncomputable def kf (P : Params) : Frag := [(2, o2_1 P), (133, o133_3 P), (132, o132_3 P), (53, o53_1 P), (52, o52_1 P), (71, o71_3 P), (70, o70_3 P), (88, o88_3 P), (87, o87_3 P), (95, o95_3 P), (94, o94_3 P), (102, o102_3 P), (101, o101_3 P), (109, o109_3 P), (108, o108_3 P), (123, o123_3 P), (122, o122_3 P),
  (151, o151_4 P), (150, o150_4 P), (158, o158_4 P), (157, o157_4 P), (165, o165_4 P), (164, o164_4 P), (172, o172_4 P), (171, o171_4 P), (179, o179_4 P), (178, o178_4 P), (186, o186_4 P), (185, o185_4 P), (193, o193_4 P), (192, o192_4 P), (200, o200_4 P), (199, o199_4 P), (207, o207_4 P), (206, o206_4 P), (214, o214_4 P), (213, o213_4 P), (219, o219_4 P), (218, o218_4 P), (224, o224_4 P), (223, o223_4 P)]
noncomputable def boolEq (a b : List Str) : Bool := a == b
/-- what is asked of a function's object -/
noncomputable def fnSeen (K : Frag) (a : Addr) (st : Stmt) : Bool := match K.lookup a with
  | some ⟨_, _, .func fd, _⟩ => codeIn K fd.code fd.qualname && isFn K (.ref a) && keepIn K (.ref a) && fd.globals == mainGlobals && fd.builtins == builtinsNs && fd.closure.isEmpty && !fd.scope.isCoroutine && !fd.scope.isGenerator && (fd.scope.kind == .function)
      && (fArgs st).posonlyargs.isEmpty && (fArgs st).kwonlyargs.isEmpty && (fArgs st).vararg.isNone && (fArgs st).kwarg.isNone && (fArgs st).defaults.isEmpty
      && (fArgs st).args.all (fun p => (fScope st).names.lookup p.arg == some .local || ((fScope st).names.lookup p.arg == some .cell && ((cellsFrom 0 (fScope st).names []).lookup p.arg).isSome))
  | _ => false
structure FnK (K : Frag) (a : Addr) (st : Stmt) (fd : FuncData) : Prop where
  obj : ∃ o, K.lookup a = some o ∧ o.data = .func fd
  body : fd.body = .stmts (fBody st)
  scope : fd.scope = fScope st
  cod : codeIn K fd.code fd.qualname = true
  keep : keepIn K (.ref a) = true
  fn : isFn K (.ref a) = true
  glob : fd.globals = mainGlobals
  blt : fd.builtins = builtinsNs
  clo : fd.closure = []
  plain : (fScope st).isCoroutine = false ∧ (fScope st).isGenerator = false ∧ (fScope st).kind = .function
  pars : ∀ x ∈ (fArgs st).args, (fScope st).names.lookup x.arg = some .local ∨ (fScope st).names.lookup x.arg = some .cell
  nodup : ((fArgs st).args.map (·.arg)).Nodup
  bind : ∀ vals : List Value, vals.length = (fArgs st).args.length → bindArgs fd ⟨vals, []⟩ = pure (((fArgs st).args.map (·.arg)).zip vals)
noncomputable def fdOf (o : Obj) : FuncData := match o.data with | .func fd => fd | _ => { name := Str.ofString "", qualname := Str.ofString "", params := fArgs (.Pass noPos), body := .stmts [], scope := fScope (.Pass noPos), globals := 0, closure := [], defaults := .none, kwdefaults := .none, doc := .none, pyModule := .none, annotations := none, code := .none, closureTuple := .none, builtins := 0 }
theorem len0 {n : Nat} (hn : n = 0) {P : List Value → Prop} (h : P []) (vals : List Value) (e : vals.length = n) : P vals := by
  subst hn; rw [List.eq_nil_of_length_eq_zero e]; exact h
theorem len1 {n : Nat} (hn : n = 1) {P : List Value → Prop} (h : ∀ a, P [a]) (vals : List Value) (e : vals.length = n) : P vals := by
  subst hn
  cases vals with
  | nil => cases e
  | cons a r => exact len0 rfl (P := fun r => P (a :: r)) (h a) r (Nat.succ.inj e)
theorem len2 {n : Nat} (hn : n = 2) {P : List Value → Prop} (h : ∀ a b, P [a, b]) (vals : List Value) (e : vals.length = n) : P vals := by
  subst hn
  cases vals with
  | nil => cases e
  | cons a r => exact len1 rfl (P := fun r => P (a :: r)) (h a) r (Nat.succ.inj e)
theorem len3 {n : Nat} (hn : n = 3) {P : List Value → Prop} (h : ∀ a b c, P [a, b, c]) (vals : List Value) (e : vals.length = n) : P vals := by
  subst hn
  cases vals with
  | nil => cases e
  | cons a r => exact len2 rfl (P := fun r => P (a :: r)) (h a) r (Nat.succ.inj e)
theorem kf_53 (P : Params) : FnK (kf P) 53 (cell 4) (fdOf (o53_1 P)) := ⟨⟨_, rfl, rfl⟩, rfl, rfl, by kernel_rfl, by kernel_rfl, by kernel_rfl, rfl, rfl, rfl, ⟨by decide +kernel, by decide +kernel, by decide +kernel⟩, by decide +kernel, by decide +kernel, len1 (by kernel_rfl) fun _ => by kernel_rfl⟩
theorem kf_71 (P : Params) : FnK (kf P) 71 (cell 7) (fdOf (o71_3 P)) := ⟨⟨_, rfl, rfl⟩, rfl, rfl, by kernel_rfl, by kernel_rfl, by kernel_rfl, rfl, rfl, rfl, ⟨by decide +kernel, by decide +kernel, by decide +kernel⟩, by decide +kernel, by decide +kernel, len1 (by kernel_rfl) fun _ => by kernel_rfl⟩
theorem kf_88 (P : Params) : FnK (kf P) 88 (inner 9 1) (fdOf (o88_3 P)) := ⟨⟨_, rfl, rfl⟩, rfl, rfl, by kernel_rfl, by kernel_rfl, by kernel_rfl, rfl, rfl, rfl, ⟨by decide +kernel, by decide +kernel, by decide +kernel⟩, by decide +kernel, by decide +kernel, len2 (by kernel_rfl) fun _ _ => by kernel_rfl⟩
theorem kf_95 (P : Params) : FnK (kf P) 95 (inner 9 2) (fdOf (o95_3 P)) := ⟨⟨_, rfl, rfl⟩, rfl, rfl, by kernel_rfl, by kernel_rfl, by kernel_rfl, rfl, rfl, rfl, ⟨by decide +kernel, by decide +kernel, by decide +kernel⟩, by decide +kernel, by decide +kernel, len1 (by kernel_rfl) fun _ => by kernel_rfl⟩
theorem kf_102 (P : Params) : FnK (kf P) 102 (inner 9 3) (fdOf (o102_3 P)) := ⟨⟨_, rfl, rfl⟩, rfl, rfl, by kernel_rfl, by kernel_rfl, by kernel_rfl, rfl, rfl, rfl, ⟨by decide +kernel, by decide +kernel, by decide +kernel⟩, by decide +kernel, by decide +kernel, len2 (by kernel_rfl) fun _ _ => by kernel_rfl⟩
theorem kf_109 (P : Params) : FnK (kf P) 109 (inner 9 4) (fdOf (o109_3 P)) := ⟨⟨_, rfl, rfl⟩, rfl, rfl, by kernel_rfl, by kernel_rfl, by kernel_rfl, rfl, rfl, rfl, ⟨by decide +kernel, by decide +kernel, by decide +kernel⟩, by decide +kernel, by decide +kernel, len2 (by kernel_rfl) fun _ _ => by kernel_rfl⟩
theorem kf_123 (P : Params) : FnK (kf P) 123 (inner 9 6) (fdOf (o123_3 P)) := ⟨⟨_, rfl, rfl⟩, rfl, rfl, by kernel_rfl, by kernel_rfl, by kernel_rfl, rfl, rfl, rfl, ⟨by decide +kernel, by decide +kernel, by decide +kernel⟩, by decide +kernel, by decide +kernel, len2 (by kernel_rfl) fun _ _ => by kernel_rfl⟩
theorem kf_151 (P : Params) : FnK (kf P) 151 (cell 12) (fdOf (o151_4 P)) := ⟨⟨_, rfl, rfl⟩, rfl, rfl, by kernel_rfl, by kernel_rfl, by kernel_rfl, rfl, rfl, rfl, ⟨by decide +kernel, by decide +kernel, by decide +kernel⟩, by decide +kernel, by decide +kernel, len1 (by kernel_rfl) fun _ => by kernel_rfl⟩
theorem kf_158 (P : Params) : FnK (kf P) 158 (cell 13) (fdOf (o158_4 P)) := ⟨⟨_, rfl, rfl⟩, rfl, rfl, by kernel_rfl, by kernel_rfl, by kernel_rfl, rfl, rfl, rfl, ⟨by decide +kernel, by decide +kernel, by decide +kernel⟩, by decide +kernel, by decide +kernel, len1 (by kernel_rfl) fun _ => by kernel_rfl⟩
theorem kf_165 (P : Params) : FnK (kf P) 165 (cell 14) (fdOf (o165_4 P)) := ⟨⟨_, rfl, rfl⟩, rfl, rfl, by kernel_rfl, by kernel_rfl, by kernel_rfl, rfl, rfl, rfl, ⟨by decide +kernel, by decide +kernel, by decide +kernel⟩, by decide +kernel, by decide +kernel, len1 (by kernel_rfl) fun _ => by kernel_rfl⟩
theorem kf_172 (P : Params) : FnK (kf P) 172 (cell 15) (fdOf (o172_4 P)) := ⟨⟨_, rfl, rfl⟩, rfl, rfl, by kernel_rfl, by kernel_rfl, by kernel_rfl, rfl, rfl, rfl, ⟨by decide +kernel, by decide +kernel, by decide +kernel⟩, by decide +kernel, by decide +kernel, len1 (by kernel_rfl) fun _ => by kernel_rfl⟩
theorem kf_179 (P : Params) : FnK (kf P) 179 (cell 16) (fdOf (o179_4 P)) := ⟨⟨_, rfl, rfl⟩, rfl, rfl, by kernel_rfl, by kernel_rfl, by kernel_rfl, rfl, rfl, rfl, ⟨by decide +kernel, by decide +kernel, by decide +kernel⟩, by decide +kernel, by decide +kernel, len1 (by kernel_rfl) fun _ => by kernel_rfl⟩
theorem kf_186 (P : Params) : FnK (kf P) 186 (cell 18) (fdOf (o186_4 P)) := ⟨⟨_, rfl, rfl⟩, rfl, rfl, by kernel_rfl, by kernel_rfl, by kernel_rfl, rfl, rfl, rfl, ⟨by decide +kernel, by decide +kernel, by decide +kernel⟩, by decide +kernel, by decide +kernel, len0 (by kernel_rfl) (by kernel_rfl)⟩
theorem kf_193 (P : Params) : FnK (kf P) 193 (cell 19) (fdOf (o193_4 P)) := ⟨⟨_, rfl, rfl⟩, rfl, rfl, by kernel_rfl, by kernel_rfl, by kernel_rfl, rfl, rfl, rfl, ⟨by decide +kernel, by decide +kernel, by decide +kernel⟩, by decide +kernel, by decide +kernel, len0 (by kernel_rfl) (by kernel_rfl)⟩
theorem kf_200 (P : Params) : FnK (kf P) 200 (cell 20) (fdOf (o200_4 P)) := ⟨⟨_, rfl, rfl⟩, rfl, rfl, by kernel_rfl, by kernel_rfl, by kernel_rfl, rfl, rfl, rfl, ⟨by decide +kernel, by decide +kernel, by decide +kernel⟩, by decide +kernel, by decide +kernel, len0 (by kernel_rfl) (by kernel_rfl)⟩
theorem kf_207 (P : Params) : FnK (kf P) 207 (cell 21) (fdOf (o207_4 P)) := ⟨⟨_, rfl, rfl⟩, rfl, rfl, by kernel_rfl, by kernel_rfl, by kernel_rfl, rfl, rfl, rfl, ⟨by decide +kernel, by decide +kernel, by decide +kernel⟩, by decide +kernel, by decide +kernel, len3 (by kernel_rfl) fun _ _ _ => by kernel_rfl⟩
theorem kf_214 (P : Params) : FnK (kf P) 214 (cell 22) (fdOf (o214_4 P)) := ⟨⟨_, rfl, rfl⟩, rfl, rfl, by kernel_rfl, by kernel_rfl, by kernel_rfl, rfl, rfl, rfl, ⟨by decide +kernel, by decide +kernel, by decide +kernel⟩, by decide +kernel, by decide +kernel, len3 (by kernel_rfl) fun _ _ _ => by kernel_rfl⟩
theorem kf_219 (P : Params) : FnK (kf P) 219 (cell 23) (fdOf (o219_4 P)) := ⟨⟨_, rfl, rfl⟩, rfl, rfl, by kernel_rfl, by kernel_rfl, by kernel_rfl, rfl, rfl, rfl, ⟨by decide +kernel, by decide +kernel, by decide +kernel⟩, by decide +kernel, by decide +kernel, len1 (by kernel_rfl) fun _ => by kernel_rfl⟩
theorem kf_224 (P : Params) : FnK (kf P) 224 (cell 24) (fdOf (o224_4 P)) := ⟨⟨_, rfl, rfl⟩, rfl, rfl, by kernel_rfl, by kernel_rfl, by kernel_rfl, rfl, rfl, rfl, ⟨by decide +kernel, by decide +kernel, by decide +kernel⟩, by decide +kernel, by decide +kernel, len2 (by kernel_rfl) fun _ _ => by kernel_rfl⟩
theorem lk_mem {α β : Type} [BEq α] [LawfulBEq α] {a : α} {b : β} : ∀ {l : List (α × β)}, l.lookup a = some b → (a, b) ∈ l
  | (c, d) :: l, h => by
    rw [List.lookup_cons] at h
    split at h
    · rename_i e
      cases h
      rw [eq_of_beq e]
      exact .head _
    · exact .tail _ (lk_mem h)
noncomputable def roadSt (p : Nat × Option Nat) : Stmt := match p.2 with | none => cell p.1 | some j => inner p.1 j
theorem fn_all (P : Params) : ∀ q ∈ fnRoads, ∃ fd, FnK (kf P) q.1 (roadSt q.2) fd :=
  List.forall_mem_cons.mpr ⟨⟨_, kf_53 P⟩, List.forall_mem_cons.mpr ⟨⟨_, kf_71 P⟩, List.forall_mem_cons.mpr ⟨⟨_, kf_88 P⟩, List.forall_mem_cons.mpr ⟨⟨_, kf_95 P⟩, List.forall_mem_cons.mpr ⟨⟨_, kf_102 P⟩, List.forall_mem_cons.mpr ⟨⟨_, kf_109 P⟩, List.forall_mem_cons.mpr ⟨⟨_, kf_123 P⟩, List.forall_mem_cons.mpr ⟨⟨_, kf_151 P⟩, List.forall_mem_cons.mpr ⟨⟨_, kf_158 P⟩, List.forall_mem_cons.mpr ⟨⟨_, kf_165 P⟩, List.forall_mem_cons.mpr ⟨⟨_, kf_172 P⟩, List.forall_mem_cons.mpr ⟨⟨_, kf_179 P⟩, List.forall_mem_cons.mpr ⟨⟨_, kf_186 P⟩, List.forall_mem_cons.mpr ⟨⟨_, kf_193 P⟩, List.forall_mem_cons.mpr ⟨⟨_, kf_200 P⟩, List.forall_mem_cons.mpr ⟨⟨_, kf_207 P⟩, List.forall_mem_cons.mpr ⟨⟨_, kf_214 P⟩, List.forall_mem_cons.mpr ⟨⟨_, kf_219 P⟩, List.forall_mem_cons.mpr ⟨⟨_, kf_224 P⟩, fun _ h => nomatch h⟩⟩⟩⟩⟩⟩⟩⟩⟩⟩⟩⟩⟩⟩⟩⟩⟩⟩⟩
theorem fnAt_ok (P : Params) {a : Addr} {st : Stmt} (h : fnAt a = some st) : ∃ fd, FnK (kf P) a st fd := by
  unfold fnAt at h
  obtain ⟨p, h1, rfl⟩ := Option.map_eq_some_iff.mp h
  exact fn_all P (a, p) (lk_mem h1)
theorem ws_all (P : Params) : ∀ q ∈ wsMeths, findIn (kf P) (.ref 133) q.1 = some (some (.ref q.2)) ∧ isFn (kf P) (.ref q.2) = true ∧ keepIn (kf P) (.ref q.2) = true :=
  List.forall_mem_cons.mpr ⟨⟨by kernel_rfl, by kernel_rfl, by kernel_rfl⟩, List.forall_mem_cons.mpr ⟨⟨by kernel_rfl, by kernel_rfl, by kernel_rfl⟩, List.forall_mem_cons.mpr ⟨⟨by kernel_rfl, by kernel_rfl, by kernel_rfl⟩, List.forall_mem_cons.mpr ⟨⟨by kernel_rfl, by kernel_rfl, by kernel_rfl⟩, fun _ h => nomatch h⟩⟩⟩⟩
theorem ws_find (P : Params) {name : Str} {f : Addr} (h : wsMeths.lookup name = some f) : findIn (kf P) (.ref 133) name = some (some (.ref f)) ∧ isFn (kf P) (.ref f) = true ∧ keepIn (kf P) (.ref f) = true :=
  ws_all P (name, f) (lk_mem h)
theorem ws_init (P : Params) : findIn (kf P) (.ref 133) "__init__" = some (some (.ref 88)) ∧ makesIn (kf P) 133 = true := ⟨by kernel_rfl, by kernel_rfl⟩
theorem ws_plain (P : Params) (name : Str) : plainGet (kf P) 133 name = true ∧ hasDictIn (kf P) 133 = true ∧ findIn (kf P) (.ref 133) "__setattr__" = some (some (.builtin "object.__setattr__")) ∧ plainOver (kf P) 133 = true := ⟨by kernel_rfl, by kernel_rfl, by kernel_rfl, by kernel_rfl⟩
theorem ws_keep (P : Params) : keepIn (kf P) (.ref 133) = true := by kernel_rfl
end
end W58
end
section
open PySem PySem.W PyProof.Rows PySem.Calls
set_option maxRecDepth 100000
namespace W58
/-- what is known of the heap that the top left -/
structure Stat (w : World) (H : Heap) : Prop where
  b1 : H.SetOf (intKind pw w) b1At (fun k => decide (k ∈ b1Set)) 27
  lim : H.NoLimit
  kin : (kf w.params).In H
  mods : H.get? sysModules = some (boot_o_1 w.params)
  globs : ∃ mg mb, H.Ns mainGlobals mg ∧ H.Ns builtinsNs mb ∧ ∀ x v, glob x = some v → mg x = some v ∨ (mg x = none ∧ mb x = some v)
structure Good (w : World) (F : Fm) (cx : Cx) : Prop where
  ok : F.Ok
  sc : F.env.scope = cx.sc
  own : F.own = cx.own
  fz : F.fz = cx.fz
  stat : Stat w F.H
  hf : F.hf = hashStr w
theorem Good.b1 {w : World} {F : Fm} {cx : Cx} (G : Good w F cx) : F.B1 w := ⟨G.stat.b1, G.hf, G.stat.mods⟩
noncomputable def PEL (F : Fm) (ρ : List Addr) (Q : List AV → St → Prop) (vs : List Value) (s' : Shared) : Prop := ∃ ρ' σ' avs, ρ <+: ρ' ∧ Rel F ρ' σ' s' ∧ concs ρ' avs vs ∧ Q avs σ'
noncomputable def PT (F : Fm) (ρ : List Addr) (k : Bool → St → Prop) (b : Bool) (s' : Shared) : Prop := ∃ ρ' σ', ρ <+: ρ' ∧ Rel F ρ' σ' s' ∧ k b σ'
noncomputable def PU (F : Fm) (ρ : List Addr) (Q : St → Prop) (_ : Unit) (s' : Shared) : Prop := ∃ ρ' σ', ρ <+: ρ' ∧ Rel F ρ' σ' s' ∧ Q σ'
noncomputable def concF (ρ : List Addr) : Fl → Flow → Prop
  | .next, f => f = .next
  | .brk, f => f = .brk
  | .cont, f => f = .cont
  | .ret a, f => ∃ v, f = .ret v ∧ conc ρ a v
noncomputable def PX (F : Fm) (ρ : List Addr) (Q : Fl → St → Prop) (f : Flow) (s' : Shared) : Prop := ∃ ρ' σ' fl, ρ <+: ρ' ∧ Rel F ρ' σ' s' ∧ concF ρ' fl f ∧ Q fl σ'
noncomputable def PM (F : Fm) (ρ : List Addr) (k : Mk → Prop) (fs : Value × List Value) : Prop := ∃ mk, k mk ∧ (match mk with
  | .bi f self => ∃ v, fs = (.builtin f, [v]) ∧ conc ρ self v
  | .fn a self => ∃ v, fs = (.ref a, [v]) ∧ conc ρ self v)
section
variable {w : World} {F : Fm} {cx : Cx} {ρ : List Addr} {σ : St} {s : Shared} {A : Around} {n : Nat}
noncomputable def SE (w : World) (n : Nat) : Prop := ∀ cx e σ Q, E n cx e σ Q → ∀ F ρ s A, Good w F cx → Room n A → Rel F ρ σ s → 1 ≤ s.toks → wpAny (model pw w) A (eval e F.env) (PE F ρ Q) NoE s
noncomputable def SEL (w : World) (n : Nat) : Prop := ∀ cx es σ Q, EL n cx es σ Q → ∀ F ρ s A, Good w F cx → Room n A → Rel F ρ σ s → 1 ≤ s.toks → ∀ pos, wpAny (model pw w) A (spliced (backTo pos (starEach es F.env))) (PEL F ρ Q) NoE s
noncomputable def ST (w : World) (n : Nat) : Prop := ∀ cx e σ k, T n cx e σ k → ∀ F ρ s A, Good w F cx → Room n A → Rel F ρ σ s → 1 ≤ s.toks → wpAny (model pw w) A (isTrue e F.env (eval e F.env)) (PT F ρ k) NoE s
noncomputable def STB (w : World) (n : Nat) : Prop := ∀ cx op es σ k, TB n cx op es σ k → ∀ F ρ s A, Good w F cx → Room n A → Rel F ρ σ s → 1 ≤ s.toks → wpAny (model pw w) A (allTrue op es F.env) (PT F ρ k) NoE s
noncomputable def SEB (w : World) (n : Nat) : Prop := ∀ cx es σ Q, EB n cx es σ Q → ∀ F ρ s A p, Good w F cx → Room n A → Rel F ρ σ s → 1 ≤ s.toks → wpAny (model pw w) A (boolOp p .And (evalEach es F.env)) (PE F ρ Q) NoE s
noncomputable def SX (w : World) (n : Nat) : Prop := ∀ cx st σ Q, X n cx st σ Q → ∀ F ρ s A, Good w F cx → Room n A → Rel F ρ σ s → 1 ≤ s.toks → wpAny (model pw w) A (exec st F.env) (PX F ρ Q) NoE s
noncomputable def SXS (w : World) (n : Nat) : Prop := ∀ cx ss σ Q, XS n cx ss σ Q → ∀ F ρ s A, Good w F cx → Room n A → Rel F ρ σ s → 1 ≤ s.toks → wpAny (model pw w) A (execs ss F.env) (PX F ρ Q) NoE s

theorem Room.le {A : Around} {m n : Nat} (h : Room n A) (l : m ≤ n) : Room m A := ⟨h.hh, by have := h.depth; (first | lia | omega), by have := h.units; (first | lia | omega)⟩
theorem Room.in1 {A : Around} {n : Nat} (h : Room (n + 1) A) : Room n A.in1 := ⟨h.hh, by have := h.depth; simp only [Around.in1_depth]; (first | lia | omega), by have := h.units; simp only [Around.in1_units]; (first | lia | omega)⟩
theorem wp_seq {α : Type} {M : Model} {A : Around} {t : Sem α} {P : α → Shared → Prop} {s : Shared} {E : Value → Shared → Prop} {Q : α → Shared → Prop} (h : wpAny M A t P NoE s) (k : ∀ a s', P a s' → Q a s') : wpAny M A t Q E s :=
  wpAny_mono h k fun _ _ x => x.elim
theorem lookup_kind (G : Good w F cx) (x : Str) : F.env.kindOf x = kindIn cx.sc x := by unfold Env.kindOf kindIn; rw [G.sc]
theorem get_sound (G : Good w F cx) (R : Rel F ρ σ s) {x : Str} {pos : Pos} {Q : AV → St → Prop} (hd : x ≠ debugName) (h : getVar cx x σ Q) : wpAny (model pw w) A (eval (.Name x pos) F.env) (PE F ρ Q) NoE s := by
  have hk := lookup_kind G x
  have hd' : (x == (Str.ofString "__debug__")) = false := beq_eq_false_iff_ne.mpr hd
  unfold getVar at h
  cases ek : kindIn cx.sc x with
  | none => rw [ek] at h; exact False.elim h
  | some k =>
  rw [ek] at h hk
  cases k <;> try exact False.elim h
  case «local» =>
    have h : (match σ.loc.lookup x with | some v => Q v σ | none => False) := h
    cases ev : σ.loc.lookup x with
    | none => rw [ev] at h; exact False.elim h
    | some v =>
      rw [ev] at h
      obtain ⟨m, h1, h2⟩ := R.loc
      obtain ⟨u, hu, c⟩ := h2 x v ev hk
      exact wpAny_Name (wpAny_loadName_local G.ok.kind hk h1 hu (PE.here R c h)) hd'
  case cell =>
    have h : (match σ.loc.lookup x with | some v => Q v σ | none => False) := h
    cases ev : σ.loc.lookup x with
    | none => rw [ev] at h; exact False.elim h
    | some v =>
      rw [ev] at h
      obtain ⟨c, o, u, h1, h2, h3, h4⟩ := R.cel x v ev hk
      exact wpAny_Name (wpAny_loadName_cell G.ok.kind hk h1 ⟨o, h2, h3⟩ (PE.here R h4 h)) hd'
  case globalImplicit =>
    have h : (match glob x with | some v => Q (.con v) σ | none => False) := h
    cases ev : glob x with
    | none => rw [ev] at h; exact False.elim h
    | some v =>
      rw [ev] at h
      obtain ⟨mg, mb, g1, g2, g3⟩ := G.stat.globs
      have kp : ∀ b o, F.H.get? b = some o → s.heap.get? b = some o := fun b o q => R.keep b o (R.stat b o q)
      have pe : PE F ρ Q v s := PE.here (av := .con v) R rfl h
      refine Name_function_global G.ok.kind hk ?_ hd'
      rcases g3 x v ev with q | ⟨q1, q2⟩
      · exact loadGlobal_global (by rw [G.ok.glob]; exact g1.keeps kp) q pe
      · exact loadGlobal_builtin (by rw [G.ok.glob]; exact g1.keeps kp) q1 (by rw [G.ok.blt]; exact g2.keeps kp) q2 pe
theorem set_sound (G : Good w F cx) (R : Rel F ρ σ s) {x : Str} {v : Value} {av : AV} (c : conc ρ av v) {Q : St → Prop} (h : setVar cx x av σ Q) : wpAny (model pw w) A (storeName F.env x v) (PU F ρ Q) NoE s := by
  have hk := lookup_kind G x
  unfold setVar at h
  cases ek : kindIn cx.sc x with
  | none => rw [ek] at h; exact False.elim h
  | some k =>
  rw [ek] at h hk
  cases k <;> try exact False.elim h
  case «local» =>
    obtain ⟨m, h1, h2⟩ := R.loc
    refine wpAny_storeName_local hk h1 (fun h' hn hs => ⟨ρ, _, List.prefix_rfl, R.setL hk c (fun m' hm' => ?_) hn hs, h⟩) (by rw [G.ok.kind]; rfl)
    rw [Ns_same h1 hm']
  case cell =>
    have hown : F.own = true := G.own.trans h.1
    obtain ⟨ad, hc⟩ := G.ok.all x hk
    obtain ⟨_, _, o, v₀, ho, hd⟩ := R.cap x ad hc
    exact wpAny_storeName_cell G.ok.kind hk hc ⟨o, ho, hd⟩ fun h' ⟨o', ho', hd'⟩ hs => ⟨ρ, _, List.prefix_rfl, R.setC G.ok hown hk hc c ho' hd' hs, h.2⟩
theorem wp_seqT {α : Type} {M : Model} {A : Around} {t : Sem α} {P : α → Shared → Prop} {s : Shared} {E : Value → Shared → Prop} {Q : α → Shared → Prop} (T : 1 ≤ s.toks) (h : wpAny M A t P NoE s) (k : ∀ a s', 1 ≤ s'.toks → P a s' → Q a s') : wpAny M A t Q E s :=
  wpAny_mono (wpAny_toks h) (fun a s' x => k a s' (Nat.le_trans T x.1) x.2) fun _ _ x => x.2.elim
theorem PE.seq {P : AV → St → Prop} {t : Sem Value} {Q : Value → Shared → Prop} {E : Value → Shared → Prop} (T : 1 ≤ s.toks) (h : wpAny (model pw w) A t (PE F ρ P) NoE s)
    (k : ∀ ρ' σ' av v s', 1 ≤ s'.toks → ρ <+: ρ' → Rel F ρ' σ' s' → conc ρ' av v → P av σ' → Q v s') : wpAny (model pw w) A t Q E s :=
  wp_seqT T h fun v s' T' ⟨ρ', σ', av, a, b, c, d⟩ => k ρ' σ' av v s' T' a b c d
theorem PT.seq {P : Bool → St → Prop} {t : Sem Bool} {Q : Bool → Shared → Prop} {E : Value → Shared → Prop} (T : 1 ≤ s.toks) (h : wpAny (model pw w) A t (PT F ρ P) NoE s)
    (k : ∀ ρ' σ' b s', 1 ≤ s'.toks → ρ <+: ρ' → Rel F ρ' σ' s' → P b σ' → Q b s') : wpAny (model pw w) A t Q E s :=
  wp_seqT T h fun v s' T' ⟨ρ', σ', a, b, d⟩ => k ρ' σ' v s' T' a b d
theorem PU.seq {P : St → Prop} {t : Sem Unit} {Q : Unit → Shared → Prop} {E : Value → Shared → Prop} (T : 1 ≤ s.toks) (h : wpAny (model pw w) A t (PU F ρ P) NoE s)
    (k : ∀ ρ' σ' u s', 1 ≤ s'.toks → ρ <+: ρ' → Rel F ρ' σ' s' → P σ' → Q u s') : wpAny (model pw w) A t Q E s :=
  wp_seqT T h fun v s' T' ⟨ρ', σ', a, b, d⟩ => k ρ' σ' v s' T' a b d
theorem PX.seq {P : Fl → St → Prop} {t : Sem Flow} {Q : Flow → Shared → Prop} {E : Value → Shared → Prop} (T : 1 ≤ s.toks) (h : wpAny (model pw w) A t (PX F ρ P) NoE s)
    (k : ∀ ρ' σ' fl f s', 1 ≤ s'.toks → ρ <+: ρ' → Rel F ρ' σ' s' → concF ρ' fl f → P fl σ' → Q f s') : wpAny (model pw w) A t Q E s :=
  wp_seqT T h fun v s' T' ⟨ρ', σ', fl, a, b, c, d⟩ => k ρ' σ' fl v s' T' a b c d
theorem PEL.seq {P : List AV → St → Prop} {t : Sem (List Value)} {Q : List Value → Shared → Prop} {E : Value → Shared → Prop} (T : 1 ≤ s.toks) (h : wpAny (model pw w) A t (PEL F ρ P) NoE s)
    (k : ∀ ρ' σ' av v s', 1 ≤ s'.toks → ρ <+: ρ' → Rel F ρ' σ' s' → concs ρ' av v → P av σ' → Q v s') : wpAny (model pw w) A t Q E s :=
  wp_seqT T h fun v s' T' ⟨ρ', σ', av, a, b, c, d⟩ => k ρ' σ' av v s' T' a b c d
theorem wp_pre {t : Sem Value} {ρ₁ : List Addr} {Q : AV → St → Prop} (p : ρ <+: ρ₁) (h : wpAny (model pw w) A t (PE F ρ₁ Q) NoE s) : wpAny (model pw w) A t (PE F ρ Q) NoE s :=
  wp_seq h fun _ _ x => x.pre p
theorem wp_preT {t : Sem Bool} {ρ₁ : List Addr} {k : Bool → St → Prop} (p : ρ <+: ρ₁) (h : wpAny (model pw w) A t (PT F ρ₁ k) NoE s) : wpAny (model pw w) A t (PT F ρ k) NoE s :=
  wp_seq h fun _ _ ⟨a, b, c, d⟩ => ⟨a, b, p.trans c, d⟩
theorem wp_preX {t : Sem Flow} {ρ₁ : List Addr} {Q : Fl → St → Prop} (p : ρ <+: ρ₁) (h : wpAny (model pw w) A t (PX F ρ₁ Q) NoE s) : wpAny (model pw w) A t (PX F ρ Q) NoE s :=
  wp_seq h fun _ _ ⟨a, b, f, c, d⟩ => ⟨a, b, f, p.trans c, d⟩
theorem wp_preU {t : Sem Unit} {ρ₁ : List Addr} {Q : St → Prop} (p : ρ <+: ρ₁) (h : wpAny (model pw w) A t (PU F ρ₁ Q) NoE s) : wpAny (model pw w) A t (PU F ρ Q) NoE s :=
  wp_seq h fun _ _ ⟨a, b, c, d⟩ => ⟨a, b, p.trans c, d⟩
/-- the simple forms of an expression -/
theorem const_sound (R : Rel F ρ σ s) {c : Const} {k : Nat} {pos : Pos} {Q : AV → St → Prop}
    (h : match c with | .int i => Q (.int i) σ | .str x => Q (.str x.cps.toList) σ | .bool b => Q (.bool b) σ | .none => Q .none σ | _ => False) : wpAny (model pw w) A (eval (.Constant c k pos) F.env) (PE F ρ Q) NoE s := by
  cases c <;> dsimp only at h <;> first | exact h.elim | skip
  · exact wpAny_Constant_none (PE.none R h)
  · exact wpAny_Constant_bool (PE.bool R h)
  · exact wpAny_Constant_int (PE.int (R.tok _) h)
  · exact wpAny_Constant_str (PE.str (R.tok _) (by rfl) h)
theorem star_cons {e : Expr} {es : List Expr} {env : Env} {pos : Pos} (hs : noStar e = true) : backTo pos (starEach (e :: es) env) = (false, eval e env) :: backTo pos (starEach es env) := by
  cases e <;> first | rfl | exact Bool.noConfusion hs
theorem el_sound_of {m : Nat} (hE : SE w m) (hL : SEL w m) : SEL w (m + 1) := by
  intro cx es σ Q h F ρ s A G hA R T pos
  cases es with
  | nil => exact spliced_nil ⟨ρ, σ, [], List.prefix_rfl, R, rfl, h⟩
  | cons e es =>
    have h : noStar e = true ∧ E m cx e σ fun v σ => EL m cx es σ fun vs σ => Q (v :: vs) σ := h
    rw [star_cons h.1]
    have h := h.2
    refine spliced_cons (PE.seq T (hE cx e σ _ h F ρ s A G (hA.le (Nat.le_succ _)) R T) fun ρ₁ σ₁ a v s₁ T₁ p₁ R₁ c₁ h₁ => ?_)
    refine PEL.seq T₁ (hL cx es σ₁ _ h₁ F ρ₁ s₁ A G (hA.le (Nat.le_succ _)) R₁ T₁ pos) fun ρ₂ σ₂ as vs s₂ T₂ p₂ R₂ c₂ h₂ => ?_
    exact ⟨ρ₂, σ₂, a :: as, p₁.trans p₂, R₂, ⟨v, vs, rfl, conc_mono p₂ c₁, c₂⟩, h₂⟩
theorem eb_sound_of {m : Nat} (hE : SE w m) (hB : SEB w m) : SEB w (m + 1) := by
  intro cx es σ Q h F ρ s A p G hA R T
  cases es with
  | nil => exact False.elim h
  | cons e es =>
    cases es with
    | nil => exact hE cx e σ _ h F ρ s A G (hA.le (Nat.le_succ _)) R T
    | cons e' es =>
      have h : E m cx e σ fun a σ => (match a with | .bool true => EB m cx (e' :: es) σ Q | .bool false => Q (.bool false) σ | _ => False) := h
      show wpAny _ _ (do let v ← eval e F.env; standAt p; let t ← holding [v] (truthy v); match BoolOp.And, t with | .And, false | .Or, true => pure v | _, _ => boolOp p .And (evalEach (e' :: es) F.env)) _ _ _
      refine wpAny_bind (PE.seq T (hE cx e σ _ h F ρ s A G (hA.le (Nat.le_succ _)) R T) fun ρ₁ σ₁ a v s₁ T₁ p₁ R₁ c₁ h₁ => ?_)
      refine wpAny_bind (wpAny_standAt (wpAny_bind (wpAny_holding ?_)))
      cases a <;> try exact False.elim h₁
      case bool b =>
      cases c₁
      cases b with
      | true => exact wpAny_truthy_bool (wp_pre p₁ (hB cx (e' :: es) σ₁ _ h₁ F ρ₁ s₁ A p G (hA.le (Nat.le_succ _)) R₁ T₁))
      | false => exact wpAny_truthy_bool (wpAny_pure ⟨ρ₁, σ₁, .bool false, p₁, R₁, rfl, h₁⟩)
theorem tb_sound_of {m : Nat} (hT : ST w m) (hB : STB w m) : STB w (m + 1) := by
  intro cx op es σ k h F ρ s A G hA R T
  cases es with
  | nil =>
    show wpAny _ _ (pure (op == .And)) _ _ _
    exact wpAny_pure ⟨ρ, σ, List.prefix_rfl, R, h⟩
  | cons e es =>
    have h : W58.T m cx e σ fun b σ => (match (generalizing := false) op, b with | .And, false => k false σ | .Or, true => k true σ | _, _ => TB m cx op es σ k) := h
    show wpAny _ _ (do match op, ← isTrue e F.env (eval e F.env) with | .And, false => pure false | .Or, true => pure true | _, _ => allTrue op es F.env) _ _ _
    refine wpAny_bind (PT.seq T (hT cx e σ _ h F ρ s A G (hA.le (Nat.le_succ _)) R T) fun ρ₁ σ₁ b s₁ T₁ p₁ R₁ h₁ => ?_)
    cases op <;> cases b <;> dsimp only at h₁ ⊢
    · exact wpAny_pure ⟨ρ₁, σ₁, p₁, R₁, h₁⟩
    · exact wp_preT p₁ (hB cx _ es σ₁ _ h₁ F ρ₁ s₁ A G (hA.le (Nat.le_succ _)) R₁ T₁)
    · exact wp_preT p₁ (hB cx _ es σ₁ _ h₁ F ρ₁ s₁ A G (hA.le (Nat.le_succ _)) R₁ T₁)
    · exact wpAny_pure ⟨ρ₁, σ₁, p₁, R₁, h₁⟩
theorem t_sound_of {m : Nat} (hE : SE w m) (hB : STB w m) : ST w (m + 1) := by
  intro cx e σ k h F ρ s A G hA R T
  have hA' := hA.le (Nat.le_succ _)
  cases e <;> try exact False.elim h
  case Compare l ops rs p =>
    cases ops with
    | nil => exact False.elim h
    | cons op ops =>
    cases ops with
    | cons => exact False.elim h
    | nil =>
    cases rs with
    | nil => exact False.elim h
    | cons r rs =>
    cases rs with
    | cons => exact False.elim h
    | nil =>
    have h : behindInMarks op r = false ∧ E m cx l σ fun a σ => E m cx r σ fun b σ => Cmp op a b σ fun c => k c σ := h
    refine wpAny_isTrue_Compare1 (PE.seq T (hE cx _ σ _ h.2 F ρ s A G hA' R T) fun ρ₁ σ₁ a v s₁ T₁ p₁ R₁ c₁ h₁ => ?_) h.1
    refine PE.seq T₁ (hE cx _ σ₁ _ h₁ F ρ₁ s₁ A G hA' R₁ T₁) fun ρ₂ σ₂ b u s₂ T₂ p₂ R₂ c₂ h₂ => ?_
    exact cmp_sound hA G.b1 R₂ (conc_mono p₂ c₁) c₂ h₂ fun c t hc => wpAny_truthy_bool ⟨ρ₂, σ₂, p₁.trans p₂, R₂.tok t, hc⟩
  case BoolOp op es p => exact wpAny_isTrue_BoolOp (hB cx op es σ k h F ρ s A G hA' R T)
  case Attribute v name p =>
    have h : E m cx (.Attribute v name p) σ fun a σ => (match a with | .bool b => k b σ | _ => False) := h
    refine isTrue_plain (PE.seq T (hE cx _ σ _ h F ρ s A G hA' R T) fun ρ₁ σ₁ a v s₁ T₁ p₁ R₁ c₁ h₁ => ?_)
    cases a <;> try exact False.elim h₁
    cases c₁
    exact wpAny_truthy_bool ⟨ρ₁, σ₁, p₁, R₁, h₁⟩
end
end W58
end
section
open PySem PySem.W PyProof.Rows PySem.Calls
set_option maxRecDepth 100000
namespace W58
section
variable {w : World} {F : Fm} {cx : Cx} {ρ : List Addr} {σ : St} {s : Shared} {A : Around} {n : Nat}
theorem subscripted_shape (slice : Expr) (o i : Value) : ∃ ops, subscripted slice false o i = operate ops (getItem o i) := by
  cases slice <;> try exact ⟨_, rfl⟩
  rename_i a b st p
  cases st <;> exact ⟨_, rfl⟩
theorem lets_str (value : Expr) (x : Str) (t : Nat) (r : Value) : letTemporaryGo value (.str x t) r = pure () := by cases value <;> rfl
theorem concs_nth {vs : List Value} {xs : List AV} {i : Nat} {x : AV} (c : concs ρ xs vs) (h : xs[i]? = some x) : ∃ v, vs[i]? = some v ∧ conc ρ x v := concs_get c h
theorem itemAt_list {xs : List AV} {vs : Array Value} {k : Int} {x : AV} (c : concs ρ xs vs.toList) (h : itemAt xs k = some x) : (0 ≤ k ∧ ∃ v, vs[k.toNat]? = some v ∧ conc ρ x v) ∨ (k < 0 ∧ -(vs.size : Int) ≤ k ∧ ∃ v, vs[(k + vs.size).toNat]? = some v ∧ conc ρ x v) := by
  have l := concs_len c
  simp only [Array.length_toList] at l
  unfold itemAt at h
  split at h
  · rename_i h0
    obtain ⟨v, a, b⟩ := concs_get c h
    exact .inl ⟨h0, v, by simpa using a, b⟩
  · split at h
    · rename_i h0 h1
      obtain ⟨v, a, b⟩ := concs_get c h
      exact .inr ⟨by (first | lia | omega), by (first | lia | omega), v, by rw [l]; simpa using a, b⟩
    · cases h
theorem seq_pos {k : Int} {n : Nat} (h0 : 0 ≤ k) (h : k.toNat < n) : seqIndex? k n = some k.toNat := by
  unfold seqIndex?
  simp only []
  split <;> split <;> simp_all <;> (first | lia | omega)
theorem seq_neg {k : Int} {n : Nat} (h0 : k < 0) (h : -(n : Int) ≤ k) : seqIndex? k n = some (k + n).toNat := by
  unfold seqIndex?
  simp only []
  split <;> split <;> simp_all <;> (first | lia | omega)
theorem sub_sound (hh : F.hf = hashStr w) (R : Rel F ρ σ s) {value slice : Expr} {a i : AV} {u v : Value} {Q : AV → St → Prop} (ca : conc ρ a u) (ci : conc ρ i v) (h : Sub a i σ Q) : wpAny (model pw w) A (subscriptTail value slice u v) (PE F ρ Q) NoE s := by
  obtain ⟨ops, hs⟩ := subscripted_shape slice u v
  unfold Sub at h
  split at h
  · rename_i n k
    obtain ⟨a, rfl, ha⟩ := ca; obtain ⟨t, rfl⟩ := ci
    split at h
    · rename_i es e
      obtain ⟨kvs, D, kv⟩ := R.dic hh ha e
      have := KVs_at k kv
      split at h
      · rename_i v ev
        rw [ev] at this
        obtain ⟨x, e1, c1⟩ := this
        exact tail_any D.typeIs slot_dict_getitem.lookup (wpAny_getItem_of (knd := strKind pw w) (k := ⟨k.toArray⟩) (strKind_is pw w _ t) D.mapOf e1 (PE.here (R.tok _) c1 h)) hs
      · exact h.elim
    · exact h.elim
  · rename_i n k
    obtain ⟨a, rfl, ha⟩ := ca; obtain ⟨t, rfl⟩ := ci
    obtain ⟨hk, h⟩ := h
    split at h
    · rename_i xs e
      split at h
      · rename_i x ex
        obtain ⟨hl, h⟩ := h
        obtain ⟨vs, T, c⟩ := R.tup ha e
        have l := concs_len c
        simp only [Array.length_toList] at l
        have goal : ∀ j y, seqIndex? k vs.size = some j → vs[j]? = some y → conc ρ x y → wpAny (model pw w) A (subscriptTail value slice (.ref a) (.int k t)) (PE F ρ Q) NoE s := fun j y h1 h2 h3 =>
          tail_any T.typeIs slot_tuple_getitem.lookup (getItem_tuple T (by (first | lia | omega)) (by (first | lia | omega)) h1 h2 (PE.here R h3 h)) hs
        rcases itemAt_list c ex with ⟨h0, y, h1, h2⟩ | ⟨h0, h0', y, h1, h2⟩
        · refine goal k.toNat y ?_ h1 h2
          exact seq_pos h0 (Array.getElem?_eq_some_iff.mp h1).1
        · exact goal (k + vs.size).toNat y (seq_neg h0 h0') h1 h2
      · exact h.elim
    · rename_i x _ e
      split at h
      · rename_i xs ex
        split at h
        · rename_i y ey
          obtain ⟨hl, h⟩ := h
          obtain ⟨vs, L, c⟩ := R.list ha e ex
          rcases itemAt_list c ey with ⟨h0, y, h1, h2⟩ | ⟨h0, h0', y, h1, h2⟩
          · exact tail_any L.typeIs slot_list_getitem.lookup (wpAny_getItem_list L h0 (by (first | lia | omega)) h1 (PE.here R h2 h)) hs
          · exact tail_any L.typeIs slot_list_getitem.lookup (wpAny_getItem_list_neg L h0 h0' (by (first | lia | omega)) h1 (PE.here R h2 h)) hs
        · exact h.elim
      · exact h.elim
    · exact h.elim
  · rename_i l k
    obtain ⟨t, rfl⟩ := ca; obtain ⟨t', rfl⟩ := ci
    obtain ⟨hk, h⟩ := h
    split at h
    · rename_i c ec
      refine tail_any (typeIs_str s ⟨l.toArray⟩ t) PySem.F.slot_str_getitem.lookup (P.getItem_str (c := c) ?_ ?_ (PE.str (R.tok _) rfl h)) hs
      · rw [Bool.or_eq_false_iff]; exact ⟨decide_eq_false (by (first | lia | omega)), decide_eq_false (by (first | lia | omega))⟩
      · have := (List.getElem?_eq_some_iff.mp ec).1
        have e1 : seqIndex? k (Str.length ⟨l.toArray⟩) = some k.toNat := seq_pos (by (first | lia | omega)) this
        rw [e1]
        simpa using ec
    · exact h.elim
  · exact h.elim
theorem isPart {x : AV} {v : Value} {i : Option Int} (e : optInt x = some i) (c : conc ρ x v) : IsPart v i := by
  cases x <;> simp only [optInt] at e <;> first | cases e; done | skip
  · cases e; cases c; exact .none
  · cases e; obtain ⟨t, rfl⟩ := c; exact .int _ _
theorem concs_pick {xs : List AV} {vs : List Value} (c : concs ρ xs vs) : ∀ is : List Nat, concs ρ (is.filterMap (xs[·]?)) (is.filterMap (vs[·]?))
  | [] => rfl
  | i :: r => by
    have l := concs_len c
    rw [List.filterMap_cons, List.filterMap_cons]
    cases e : xs[i]? with
    | some x =>
      obtain ⟨v, a, b⟩ := concs_get c e
      rw [a]
      exact ⟨v, _, rfl, b, concs_pick c r⟩
    | none =>
      have : vs[i]? = none := by rw [List.getElem?_eq_none_iff] at e ⊢; (first | lia | omega)
      rw [this]
      exact concs_pick c r
theorem pickA_conc {xs : List AV} {vs : Array Value} (c : concs ρ xs vs.toList) (lo hi st : Option Int) : concs ρ (pickA xs lo hi st) (slicePick vs lo hi st).toList := by
  have l := concs_len c
  simp only [Array.length_toList] at l
  unfold pickA slicePick
  rw [← l]
  have := concs_pick c (sliceRange (sliceBounds lo hi st vs.size).1 (sliceBounds lo hi st vs.size).2.1 (sliceBounds lo hi st vs.size).2.2)
  simpa using this
theorem slice_sound (R : Rel F ρ σ s) {value : Expr} {lo up st : Option Expr} {p : Pos} {a l u k : AV} {o x y z : Value} {Q : AV → St → Prop} (co : conc ρ a o) (cl : conc ρ l x) (cu : conc ρ u y) (ck : conc ρ k z)
    (hst : st = none → z = .none) (h : SliceGate st a l u k σ Q) :
    wpAny (model pw w) A (subscriptTail value (.Slice lo up st p) o (.ref s.heap.objs.size)) (PE F ρ Q) NoE { s with heap := s.heap.push { cls := .type "slice", data := .fields #[x, y, z] } } := by
  obtain ⟨ops, hs⟩ := subscripted_shape (.Slice lo up st p) o (.ref s.heap.objs.size)
  have h' : SliceOf a l u k σ Q := by cases st <;> cases a <;> first | exact h | exact h.elim
  have R' : Rel F ρ σ { s with heap := s.heap.push { cls := .type "slice", data := .fields #[x, y, z] } } := R.grow0 (t := s.toks) fun _ _ e => Heap.get?_push_of_some _ e
  unfold SliceOf at h'
  split at h'
  · rename_i l'
    obtain ⟨t, rfl⟩ := co
    split at h'
    · rename_i i j e1 e2
      obtain ⟨hl, hq⟩ := h'
      have hz : z = .none := hst (by cases st with | none => rfl | some _ => exact h.elim)
      subst hz
      have part : ∀ {a : AV} {v : Value} {i : Option Int}, optInt a = some i → conc ρ a v → ∃ q : Option (Int × Tok), v = (match q with | none => .none | some (i, t) => .int i t) ∧ q.map (·.1) = i := fun {a v i} e c => by
        cases isPart e c with
        | none => exact ⟨none, rfl, rfl⟩
        | int i t => exact ⟨some (i, t), rfl, rfl⟩
      obtain ⟨q1, rfl, e3⟩ := part e1 cl
      obtain ⟨q2, rfl, e4⟩ := part e2 cu
      refine tail_of_ItemOn ⟨"str", _, PySem.F.slot_str_getitem.lookup, typeIs_str _ _ _, wpAny_getItem_str_slice (l := q1) (u := q2) (st := none) ?_ rfl ?_⟩ hs (lets_str value _ _)
      · refine ⟨_, Heap.get?_push_size _ rfl, rfl, ?_⟩
        cases q1 <;> cases q2 <;> rfl
      · have hx : Str.length ⟨l'.toArray⟩ ≤ sizeLine := by rw [sizeLine_eq]; simp only [Str.length, List.size_toArray]; (first | lia | omega)
        subst e3 e4
        have := Txt.slice_le ⟨l'.toArray⟩ (q1.map (·.1)) (q2.map (·.1))
        refine post_val_or_str ⟨Nat.le_trans this hx, fun t' k => PE.str (R'.tok k) ?_ hq⟩
        show Txt.slice _ _ _ = _
        rfl
    · exact h'.elim
  · rename_i n
    obtain ⟨a, rfl, ha⟩ := co
    split at h'
    · rename_i xs i j k e0 e1 e2 e3
      obtain ⟨⟨hl, h0⟩, hq⟩ := h'
      obtain ⟨x', hx', ex'⟩ := lst_of_bind e0
      obtain ⟨vs, L, c⟩ := R'.list ha hx' ex'
      have l' := concs_len c
      simp only [Array.length_toList] at l'
      refine tail_any L.typeIs slot_list_getitem.lookup (wpAny_getItem_list_slice L (Heap.IsSliceOf.new ..) (isPart e1 cl) (isPart e2 cu) (isPart e3 ck) h0 ?_ (by rw [sizeLine_eq]; (first | lia | omega))) hs
      exact PE.new0 R' rfl (x := .plist _) ⟨_, _, rfl, concs_mono (List.prefix_append ..) (pickA_conc c i j k)⟩ hq
    · exact h'.elim
  · exact h'.elim
theorem list_sound (R : Rel F ρ σ s) {xs : List AV} {vs : List Value} {Q : AV → St → Prop} (c : concs ρ xs vs) (h : xs.length < 2 ^ 20 ∧ alloc (.plist xs) σ Q) : wpAny (model pw w) A (newList vs) (PE F ρ Q) NoE s := by
  have l := concs_len c
  refine wpAny_newList (PE.new0 R rfl (x := .plist xs) ⟨_, _, rfl, ?_⟩ h.2) (by rw [sizeLine_eq]; have := h.1; (first | lia | omega))
  simpa using concs_mono (List.prefix_append ..) c
theorem tuple_sound (R : Rel F ρ σ s) {xs : List AV} {vs : List Value} {Q : AV → St → Prop} (c : concs ρ xs vs) (h : xs.length < 2 ^ 20 ∧ alloc (.tup xs) σ Q) : wpAny (model pw w) A (newTuple vs) (PE F ρ Q) NoE s := by
  have l := concs_len c
  refine wpAny_newTuple (PE.new0 R rfl (x := .tup xs) ⟨rfl, _, _, rfl, ?_⟩ h.2) (by rw [sizeLine_eq]; have := h.1; (first | lia | omega))
  simpa using concs_mono (List.prefix_append ..) c
end
end W58
end
section
open PySem PySem.W PyProof.Rows PySem.Calls
set_option maxRecDepth 100000
namespace W58
section
variable {w : World} {F : Fm} {cx : Cx} {ρ : List Addr} {σ : St} {s : Shared} {A : Around} {n : Nat}
theorem Good.kin (G : Good w F cx) (R : Rel F ρ σ s) : (kf w.params).In F.h₀ := fun a o e => R.stat a o (G.stat.kin a o e)
theorem Rel.instAt (R : Rel F ρ σ s) {n d : Nat} {C : Addr} {a : Addr} {es : List (Str × AV)} (ha : ρ[n]? = some a) (h1 : σ.hp[n]? = some (.inst C d)) (h2 : σ.hp[d]? = some (.ns es)) :
    ∃ da des k, ρ[d]? = some da ∧ s.heap.get? da = some (dictOf des k) ∧ DesIs ρ es des ∧ InstAt s.heap a ⟨.ref C, some da, .plain, #[]⟩ C (some (dictOf des k)) := by
  obtain ⟨o, ho, c1, ⟨da, hd, hdo⟩, c3, c4⟩ := R.objs _ _ _ ha h1
  obtain ⟨o2, ho2, des, k, rfl, D⟩ := R.objs _ _ _ hd h2
  obtain ⟨oc, od, oda, osl⟩ := o
  dsimp only at c1 hdo c3 c4
  subst c1 hdo c3 c4
  exact ⟨da, des, k, hd, ho2, D, ho, rfl, rfl, ho2⟩
theorem gm_str {l : Str} {t : Nat} {name : Str} {id : String} {pl : Sem Bool} {E : Value → Shared → Prop} {k : Mk → Prop} (sl : Slot "str" name id) (ty : typeOf (.builtin id) = pure (.type "method_descriptor")) (h : k (.bi id (.str l.cps.toList))) :
    wpAny (model pw w) A (getMethod (.str l t) name pl) (fun fs s' => s' = s ∧ PM F ρ k fs) E s :=
  getMethod_builtin (typeIs_str _ _ _) PySem.F.plainAttrs_str sl ty (fun a e => by cases e) ⟨rfl, _, h, _, rfl, t, rfl⟩
theorem gm_list {a : Addr} {i : Nat} {xs : Array Value} {j : Nat} {pl : Sem Bool} {E : Value → Shared → Prop} {k : Mk → Prop} (ho : s.heap.get? a = some { cls := .type "list", dict := none, data := .seq xs j, slots := #[] }) (ha : ρ[i]? = some a) (h : k (.bi "list.append" (.ref i))) :
    wpAny (model pw w) A (getMethod (.ref a) (Str.ofString "append") pl) (fun fs s' => s' = s ∧ PM F ρ k fs) E s :=
  getMethod_builtin ⟨_, ho, rfl⟩ PySem.F.plainAttrs_list PySem.F.slot_list_append PySem.F.type_list_append (fun b e => by cases e; exact ⟨_, ho, rfl⟩) ⟨rfl, _, h, _, rfl, a, rfl, ha⟩
theorem str_meth {name : Str} {id : String} (h : strMeths.lookup name = some id) : Slot "str" name id ∧ typeOf (.builtin id) = pure (.type "method_descriptor") := by
  unfold strMeths at h
  simp only [List.lookup_cons] at h
  split at h
  · rename_i e; rw [beq_iff_eq.mp e]; cases h; exact ⟨PySem.F.slot_str_count, PySem.F.type_str_count⟩
  split at h
  · rename_i e; rw [beq_iff_eq.mp e]; cases h; exact ⟨PySem.F.slot_str_replace, PySem.F.type_str_replace⟩
  split at h
  · rename_i e; rw [beq_iff_eq.mp e]; cases h; exact ⟨PySem.F.slot_str_join, PySem.F.type_str_join⟩
  cases h
theorem list_meth {name : Str} {id : String} (h : listMeths.lookup name = some id) : name = Str.ofString "append" ∧ id = "list.append" := by
  unfold listMeths at h
  simp only [List.lookup_cons] at h
  split at h
  · rename_i e; cases h; exact ⟨beq_iff_eq.mp e, rfl⟩
  cases h
theorem mth_sound (G : Good w F cx) (R : Rel F ρ σ s) {a : AV} {u : Value} {name : Str} {k : Mk → Prop} {pl : Sem Bool} {E : Value → Shared → Prop} (c : conc ρ a u) (h : Mth a name σ k) :
    wpAny (model pw w) A (getMethod u name pl) (fun fs s' => s' = s ∧ PM F ρ k fs) E s := by
  unfold Mth at h
  split at h
  · rename_i l
    obtain ⟨t, rfl⟩ := c
    split at h
    · rename_i id e
      exact gm_str (str_meth e).1 (str_meth e).2 h
    · exact h.elim
  · rename_i n
    obtain ⟨a, rfl, ha⟩ := c
    split at h
    · rename_i C d e1
      split at h
      · rename_i es e2
        split at h
        · rename_i f ef
          obtain ⟨⟨rfl, hn⟩, h⟩ := h
          obtain ⟨da, des, k', hd, ho, D, I⟩ := R.instAt ha e1 e2
          obtain ⟨m, news, Fm, N, _⟩ := R.bridge
          obtain ⟨w1, w2, _⟩ := ws_find w.params ef
          obtain ⟨p1, p2, p3, p4⟩ := ws_plain w.params name
          have g := (DesIs_get name D).1
          rw [hn] at g
          exact method_inst Fm (G.kin R) I p1 w1 w2 g ⟨rfl, _, h, _, rfl, a, rfl, ha⟩
        · exact h.elim
      · exact h.elim
    · rename_i xs e1
      split at h
      · rename_i id e
        obtain ⟨rfl, rfl⟩ := list_meth e
        obtain ⟨o, ho, vs, k', rfl, c⟩ := R.objs _ _ _ ha e1
        exact gm_list ho ha h
      · exact h.elim
    · exact h.elim
  · exact h.elim
end
end W58
end
section
open PySem PySem.W PyProof.Rows PySem.Calls PySem.Spec PySem.SeqAt PyProof.V
set_option maxRecDepth 100000
namespace W58
section
variable {w : World} {F : Fm} {cx : Cx} {ρ : List Addr} {σ : St} {s : Shared} {A : Around} {n : Nat}
theorem if_then {c p : Prop} [Decidable c] (h : if c then p else False) : c ∧ p := by
  by_cases e : c
  · rw [if_pos e] at h; exact ⟨e, h⟩
  · rw [if_neg e] at h; exact h.elim
theorem strs_of {xs : List AV} : ∀ {ss : List (List Nat)} {vs : List Value}, toStrs xs = some ss → concs ρ xs vs → StrsAre vs (ss.map fun l => ⟨l.toArray⟩) := by
  induction xs with
  | nil => intro ss vs e h; cases e; subst h; exact .nil
  | cons x r ih =>
    intro ss vs e h
    cases x <;> try exact none_some e
    case str l =>
    obtain ⟨v, q, rfl, ⟨t, rfl⟩, c⟩ := h
    have e : (toStrs r).map (l :: ·) = some ss := e
    obtain ⟨ms, e1, rfl⟩ := Option.map_eq_some_iff.mp e
    exact .cons _ t (ih e1 c)
theorem sum_map_len : ∀ ss : List (List Nat), ((ss.map fun l => (⟨l.toArray⟩ : Str)).map (·.length)).sum = ss.flatten.length
  | [] => rfl
  | l :: r => by
    have := sum_map_len r
    simp only [List.map_cons, List.sum_cons, List.flatten_cons, List.length_append] at this ⊢
    rw [this]; simp [Str.length]
theorem fold_flat : ∀ (ss : List (List Nat)) (acc : Array Nat), (((ss.map fun l => (⟨l.toArray⟩ : Str)).foldl (fun acc p => acc ++ (⟨#[]⟩ : Str).cps ++ p.cps) acc)).toList = acc.toList ++ ss.flatten
  | [], acc => by simp
  | l :: r, acc => by
    rw [List.map_cons, List.foldl_cons, fold_flat r]
    simp
theorem join_flat : ∀ ss : List (List Nat), Txt.join ⟨#[]⟩ (ss.map fun l => (⟨l.toArray⟩ : Str)) = ⟨ss.flatten.toArray⟩
  | [] => rfl
  | l :: r => by
    show (⟨_⟩ : Str) = _
    congr 1
    apply Array.ext'
    have := fold_flat r l.toArray
    simpa using this
theorem bltm_sound (hA : Room n A) (R : Rel F ρ σ s) {f : String} {self : AV} {u : Value} {xs : List AV} {vs : List Value} {Q : AV → St → Prop} (cu : conc ρ self u) (c : concs ρ xs vs) (h : BltM F.fz f self xs σ Q) :
    wpAny (model pw w) A (call (.builtin f) (u :: vs)) (PE F ρ Q) NoE s := by
  cases self <;> try exact False.elim h
  case str l =>
    obtain ⟨t, rfl⟩ := cu
    cases xs with
    | nil => exact False.elim h
    | cons x xs =>
    cases x <;> try exact False.elim h
    case str p =>
      cases xs with
      | cons => exact False.elim h
      | nil =>
      obtain ⟨v, r, rfl, ⟨t', rfl⟩, rfl⟩ := c
      obtain ⟨rfl, h⟩ := if_then h
      exact SC.count (PE.int (R.tok _) h)
    case ref m =>
      cases xs with
      | cons => exact False.elim h
      | nil =>
      obtain ⟨v, r, rfl, ⟨a, rfl, ha⟩, rfl⟩ := c
      obtain ⟨rfl, h⟩ := if_then h
      have h : (match ((σ.hp[m]?).bind AO.lst?).bind toStrs with | some ss => (l = [] ∧ ss.flatten.length < 2 ^ 24) ∧ Q (.str ss.flatten) σ | none => False) := h
      cases e : ((σ.hp[m]?).bind AO.lst?).bind toStrs with
      | none => rw [e] at h; exact False.elim h
      | some ss =>
        rw [e] at h
        obtain ⟨xs, e1, e2⟩ := Option.bind_eq_some_iff.mp e
        obtain ⟨x, hx, ex⟩ := lst_of_bind e1
        obtain ⟨ws, L, c1⟩ := R.list ha hx ex
        obtain ⟨⟨rfl, h1⟩, hq⟩ := h
        refine join_list L (strs_of e2 c1) ?_ fun t' k => ?_
        · rw [sum_map_len]; simp only [Str.length, List.size_toArray, List.length_nil, Nat.mul_zero, Nat.add_zero]; (first | lia | omega)
        · rw [join_flat]; exact PE.str (R.tok _) rfl hq
  case ref m =>
    obtain ⟨a, rfl, ha⟩ := cu
    cases xs with
    | nil => exact False.elim h
    | cons x xs =>
    cases xs with
    | cons => exact False.elim h
    | nil =>
    obtain ⟨v, r, rfl, cv, rfl⟩ := c
    obtain ⟨rfl, h⟩ := if_then h
    have h : (match σ.hp[m]? with | some (.plist xs) => (F.fz ≤ m ∧ xs.length < 2 ^ 24) ∧ Q .none { σ with hp := σ.hp.set m (.plist (xs ++ [x])) } | _ => False) := h
    cases e : σ.hp[m]? with
    | none => rw [e] at h; exact False.elim h
    | some o =>
    rw [e] at h
    cases o <;> try exact False.elim h
    case plist ys =>
    obtain ⟨o, ho, ws, k, rfl, c1⟩ := R.objs _ _ _ ha e
    have l1 := concs_len c1
    rw [Array.length_toList] at l1
    obtain ⟨⟨hf, hl⟩, hq⟩ := h
    refine wpAny_list_append_plain ⟨_, ho⟩ (fun h' ⟨k', ho'⟩ hs => ?_) (by rw [sizeLine_eq]; (first | lia | omega))
    refine ⟨ρ, _, .none, List.prefix_rfl, R.put (t := s.toks) (x := .plist (ys ++ [x])) ha e rfl hf ho' ⟨_, _, rfl, ?_⟩ fun b hb => hs.2 b hb, rfl, hq⟩
    rw [Array.toList_push]
    exact concs_append c1 ⟨v, [], rfl, cv, rfl⟩
theorem pairsOf_cons {hp : List AO} {x : AV} {r : List AV} {es : List (List Nat × AV)} (e : pairsOf hp (x :: r) = some es) :
    ∃ m k y es', x = .ref m ∧ hp[m]? = some (.tup [.str k, y]) ∧ pairsOf hp r = some es' ∧ es = (k, y) :: es' := by
  cases x <;> try exact none_some e
  case ref m =>
  have e : (match hp[m]?, pairsOf hp r with | some (.tup [.str k, v]), some es => some ((k, v) :: es) | _, _ => none) = some es := e
  cases hm : hp[m]? with
  | none => rw [hm] at e; exact none_some e
  | some o =>
  rw [hm] at e
  cases o <;> try exact none_some e
  case tup xs =>
  cases xs with
  | nil => exact none_some e
  | cons k xs =>
  cases k <;> try exact none_some e
  case str k =>
  cases xs with
  | nil => exact none_some e
  | cons y xs =>
  cases xs with
  | cons => exact none_some e
  | nil =>
  cases hr : pairsOf hp r with
  | none => rw [hr] at e; exact none_some e
  | some es' =>
    rw [hr] at e
    exact ⟨m, k, y, es', rfl, hm, rfl, (Option.some.inj e).symm⟩
theorem pairs_at (R : Rel F ρ σ s) {xs : List AV} : ∀ {es : List (List Nat × AV)} {vs : List Value}, pairsOf σ.hp xs = some es → concs ρ xs vs → ∃ kvs, PairsAt s.heap vs kvs ∧ KVs ρ es kvs := by
  induction xs with
  | nil => intro es vs e h; cases e; subst h; exact ⟨[], rfl, rfl⟩
  | cons x r ih =>
    intro es vs e h
    obtain ⟨v, q, rfl, c1, c2⟩ := h
    obtain ⟨m, k, y, es', rfl, e1, e2, rfl⟩ := pairsOf_cons e
    obtain ⟨a, rfl, ha⟩ := c1
    obtain ⟨ws, T, c⟩ := R.tup ha e1
    obtain ⟨u, q1, w1, ⟨t, rfl⟩, z, q2, w2, cz, rfl⟩ := c
    obtain ⟨kvs, p1, p2⟩ := ih e2 c2
    subst w2
    have e3 : ws = #[.str ⟨k.toArray⟩ t, z] := Array.ext' w1
    subst e3
    exact ⟨(⟨k.toArray⟩, z) :: kvs, ⟨a, _, t, z, kvs, rfl, T, rfl, p1⟩, z, kvs, rfl, cz, p2⟩
theorem blt_sound (hh : F.hf = hashStr w) (hA : Room n A) (R : Rel F ρ σ s) {f : Value} {xs : List AV} {vs : List Value} {Q : AV → St → Prop} (c : concs ρ xs vs) (h : Blt f xs σ Q) :
    wpAny (model pw w) A (call f vs) (PE F ρ Q) NoE s := by
  cases h with
  | @len n xs e h =>
    obtain ⟨v, r, rfl, ⟨a, rfl, ha⟩, rfl⟩ := c
    obtain ⟨x, hx, ex⟩ := Option.bind_eq_some_iff.mp e
    have viaList : x.lst? = some xs → wpAny (model pw w) A (call (.builtin "len") [.ref a]) (PE F ρ Q) NoE s := fun ex => by
      obtain ⟨ws, L, c1⟩ := R.list ha hx ex
      have l1 := concs_len c1
      simp only [Array.length_toList] at l1
      exact call_len_list L (by have := h.1; (first | lia | omega)) (PE.here (R.tok _) (av := .int xs.length) ⟨_, by rw [l1]⟩ h.2)
    cases x <;> simp only [AO.seq?] at ex <;> first | (cases ex; done) | skip
    · exact viaList ex
    · exact viaList ex
    · cases ex
      obtain ⟨o, ho, h1, vs, k, h2, h3⟩ := R.objs _ _ _ ha hx
      have l1 := concs_len h3
      simp only [Array.length_toList] at l1
      exact call_function_entry kind_len plain_len entry_len (args_len1 _) (len_entry_tuple ⟨o, ho, h1, k, h2⟩ (by have := h.1; (first | lia | omega)) (PE.here (R.tok _) (av := .int xs.length) ⟨_, by rw [l1]⟩ h.2))
  | @slen s h =>
    obtain ⟨v, r, rfl, ⟨t, rfl⟩, rfl⟩ := c
    exact P.len_str (by simp only [Str.length, List.size_toArray]; have := h.1; (first | lia | omega)) (PE.here (R.tok _) (av := .int _) ⟨_, rfl⟩ h.2)
  | @chr i h =>
    obtain ⟨v, r, rfl, ⟨t, rfl⟩, rfl⟩ := c
    refine P.chr_of_int ?_ (PE.str (R.tok _) rfl h.2)
    rw [Bool.or_eq_false_iff]; exact ⟨decide_eq_false (by (first | lia | omega)), decide_eq_false (by have := h.1.2; (first | lia | omega))⟩
  | @ord c h =>
    obtain ⟨v, r, rfl, ⟨t, rfl⟩, rfl⟩ := c
    exact ord_of_one rfl (PE.int (R.tok _) h)
  | @max a b h =>
    obtain ⟨v, r, rfl, ⟨t, rfl⟩, v', r', rfl, ⟨t', rfl⟩, rfl⟩ := c
    refine max_two_ints hA.hh fun h' tk hk => ?_
    by_cases hab : b > a
    · rw [if_pos hab] at h ⊢; exact PE.int (R.grow0 hk) h
    · rw [if_neg hab] at h ⊢; exact PE.int (R.grow0 hk) h
  | @sum n ns e h =>
    obtain ⟨v, r, rfl, ⟨a, rfl, ha⟩, rfl⟩ := c
    obtain ⟨xs, e1, e2⟩ := Option.bind_eq_some_iff.mp e
    obtain ⟨x, hx, ex⟩ := lst_of_bind e1
    obtain ⟨ws, L, c1⟩ := R.list ha hx ex
    have I := ints_of e2 c1
    obtain ⟨ys, rfl⟩ := (show AllInts ws by simpa using I.allInts).items
    refine sum_intListG hA.hh L fun h' tk t' hk => ?_
    rw [preSum_eq, List.take_of_length_le (by simp)]
    have e3 := I.numsOf
    rw [nums_intItems] at e3
    rw [e3]
    exact PE.int (R.grow0 hk) h
  | @rng1 b h =>
    obtain ⟨v, r, rfl, ⟨t, rfl⟩, rfl⟩ := c
    exact call_range_1 (PE.new0 R rfl (x := .range _ _ _) ⟨_, _, _, rfl⟩ h.2)
  | @rng2 a b h =>
    obtain ⟨v, r, rfl, ⟨t, rfl⟩, v', r', rfl, ⟨t', rfl⟩, rfl⟩ := c
    exact call_range_2 (PE.new0 R rfl (x := .range _ _ _) ⟨_, _, _, rfl⟩ h.2)
  | @list n a' b' e h =>
    obtain ⟨v, r, rfl, ⟨a, rfl, ha⟩, rfl⟩ := c
    obtain ⟨o, ho, t1, t2, t3, rfl⟩ := R.objs _ _ _ ha e
    obtain ⟨hb, hq⟩ := h
    refine call_list_range (n := (b' - a').toNat) hA.hh ho (small_one (by (first | lia | omega)) (by (first | lia | omega)) (by (first | lia | omega)) (by (first | lia | omega))) (rangeSize_nat a' b') (by (first | lia | omega)) fun h' tk acc c' hk hS hacc => ?_
    have R' := R.alloc (t := tk) (x := .plist (intAVs (rangeList a' b'))) (Nat.le_refl _) hS ⟨_, _, rfl, ?_⟩ (fun b o _ e => hk b o e) fun m ⟨o, es, ep, h1, h2⟩ => ⟨o, es, ep, hk _ _ h1, h2⟩
    · exact ⟨_, _, .ref σ.hp.length, List.prefix_append .., R', ⟨_, rfl, by rw [List.getElem?_append_right (by rw [R.len]; exact Nat.le_refl _), R.len]; simp⟩, hq⟩
    · have key : ∀ (m : Nat) (vs : List Value), vs.length = m → (∀ j v, vs[j]? = some v → ∃ t : Tok, v = Value.int (a' + (j : Nat) * 1) t) → concs (ρ ++ [s.heap.objs.size]) (((List.range m).map fun (i : Nat) => a' + (i : Int)).map AV.int) vs := by
        intro m
        induction m with
        | zero => intro vs hl _; exact List.eq_nil_of_length_eq_zero hl
        | succ m ih =>
          intro vs hl hv
          obtain ⟨l, x, rfl⟩ : ∃ l x, vs = l ++ [x] := by
            rcases List.eq_nil_or_concat vs with rfl | ⟨l, x, rfl⟩
            · cases hl
            · exact ⟨l, x, by simp⟩
          have hl' : l.length = m := by simpa using hl
          rw [List.range_succ, List.map_append, List.map_append]
          refine concs_append (ih l hl' fun j v hj => hv j v (by rw [List.getElem?_append_left (by have := (List.getElem?_eq_some_iff.mp hj).1; (first | lia | omega))]; exact hj)) ?_
          obtain ⟨t, rfl⟩ := hv m x (by rw [List.getElem?_append_right (by (first | lia | omega))]; simp [hl'])
          exact ⟨_, [], rfl, ⟨t, by simp⟩, rfl⟩
      exact key _ _ (by simpa using hacc.1) fun j v hj => hacc.2 j v (by simpa using hj)
  | @tuple n xs e h =>
    obtain ⟨v, r, rfl, ⟨a, rfl, ha⟩, rfl⟩ := c
    obtain ⟨x, hx, ex⟩ := lst_of_bind e
    obtain ⟨ws, L, c1⟩ := R.list ha hx ex
    have l1 := concs_len c1
    simp only [Array.length_toList] at l1
    refine call_tuple_list L (fun h' hk => ?_) (by rw [sizeLine_eq]; have := h.1; (first | lia | omega))
    exact PE.new0 (t := s.toks) (R.grow0 (t := s.toks) hk) rfl (x := .tup xs) ⟨rfl, _, _, rfl, concs_mono (List.prefix_append ..) c1⟩ h.2
  | @dict n es e h =>
    obtain ⟨v, r, rfl, ⟨a, rfl, ha⟩, rfl⟩ := c
    obtain ⟨xs, e1, e2⟩ := Option.bind_eq_some_iff.mp e
    obtain ⟨x, hx, ex⟩ := Option.bind_eq_some_iff.mp e1
    cases x <;> simp only [plist?] at ex <;> first | cases ex; done | skip
    cases ex
    obtain ⟨o, ho, vs, n', rfl, c1⟩ := R.objs _ _ _ ha hx
    obtain ⟨kvs, p1, p2⟩ := pairs_at R e2 c1
    have hn : (kvs.map (·.1)).Nodup := by rw [KVs_keys p2]; exact nodup_strs h.1.1
    have hl : kvs.length = es.length := by have := congrArg List.length (KVs_keys p2); simpa using this
    refine call_dict_pairs (w := w) hA.hh ho p1 hn (by rw [sizeLine_eq, hl]; have := h.1.2; (first | lia | omega)) fun h' tk hd hk => ?_
    obtain ⟨od, des, ep, hod, hE, hD, hK, hP, _⟩ := hd
    have R' := R.alloc (t := tk) (x := .dict es) (Nat.le_refl _) hod ⟨hE, ⟨des, ep, hD, by rw [hh]; exact DEs_of hP (fun e he => hK e (by simpa using he)) (KVs_mono (List.prefix_append ..) p2)⟩, h.1.1⟩ (fun b o _ e => hk b o e) fun m ⟨o, es, ep, h1, h2⟩ => ⟨o, es, ep, hk _ _ h1, h2⟩
    exact ⟨_, _, .ref σ.hp.length, List.prefix_append .., R', ⟨_, rfl, by rw [List.getElem?_append_right (by rw [R.len]; exact Nat.le_refl _), R.len]; simp⟩, h.2⟩
  | @str i h =>
    obtain ⟨v, r, rfl, ⟨t, rfl⟩, rfl⟩ := c
    refine P.str_of_int ?_ (PE.str (R.tok _) ?_ h.2)
    · have : ∀ m : Nat, m < 1000 → m.log2 < 1920 := by
        intro m hm
        have : m.log2 < 10 ∨ m = 0 := by
          by_cases h0 : m = 0
          · exact .inr h0
          · exact .inl ((Nat.log2_lt h0).mpr (by (first | lia | omega)))
        rcases this with h | h
        · (first | lia | omega)
        · subst h; decide
      exact this _ (by have := h.1.1; have := h.1.2; (first | lia | omega))
    · rfl
end
end W58
end
section
open PySem PySem.W PyProof.Rows PySem.Calls PySem.Spec PySem.SeqAt PyProof.V
set_option maxRecDepth 100000
namespace W58
section
variable {w : World} {F : Fm} {cx : Cx} {ρ : List Addr} {σ : St} {s : Shared} {A : Around} {n : Nat}
theorem ws_field (P : Params) {name : Str} (h : name ∈ wsFields) : findIn (kf P) (.ref 133) name = some none ∧ takerIn (kf P) 133 name = some none := by
  unfold wsFields at h
  simp only [List.mem_cons, List.mem_nil_iff, or_false] at h
  rcases h with rfl | rfl | rfl | rfl | rfl <;> exact ⟨by kernel_rfl, by kernel_rfl⟩
theorem plain_handed {x : AV} {v : Value} (h : x.plain = true) (c : conc ρ x v) : handedIn v = true := by
  cases x <;> first | cases h; done | skip
  · cases c; rfl
  · cases c; rfl
  · obtain ⟨t, rfl⟩ := c; rfl
  · obtain ⟨t, rfl⟩ := c; rfl
  · obtain ⟨a, rfl, _⟩ := c; rfl
theorem ws_S (P : Params) : findCls (kf P) (.ref 133) (.type "type") (Str.ofString "S") = some (.val (.str (Str.ofString " ") 327)) := by kernel_rfl
theorem ws_T (P : Params) : findCls (kf P) (.ref 133) (.type "type") (Str.ofString "T") = some (.val (.str (Str.ofString "\t") 328)) := by kernel_rfl
theorem ws_reads (P : Params) : typeIn (kf P) (.ref 133) = some (.type "type") ∧ readsIn (kf P) 133 (.type "type") = true := ⟨by kernel_rfl, by kernel_rfl⟩
theorem ws_const (P : Params) {name : Str} {l : List Nat} (h : wsConsts.lookup name = some l) : ∃ t, findCls (kf P) (.ref 133) (.type "type") name = some (.val (.str ⟨l.toArray⟩ t)) := by
  unfold wsConsts at h
  simp only [List.lookup_cons] at h
  split at h
  · rename_i e; rw [beq_iff_eq.mp e]; cases h; exact ⟨_, ws_S P⟩
  split at h
  · rename_i e; rw [beq_iff_eq.mp e]; cases h; exact ⟨_, ws_T P⟩
  cases h
theorem att_sound (G : Good w F cx) (R : Rel F ρ σ s) {a : AV} {u : Value} {name : Str} {expr : Bool} {Q : AV → St → Prop} (c : conc ρ a u) (h : Att a name σ Q) : wpAny (model pw w) A (getAttr u name expr) (PE F ρ Q) NoE s := by
  obtain ⟨m, news, Fm, N, _⟩ := R.bridge
  have X₀ := G.kin R
  unfold Att at h
  split at h
  · obtain ⟨a, rfl, ha⟩ := c
    split at h
    · rename_i C d e1
      split at h
      · rename_i es e2
        split at h
        · rename_i v ev
          obtain ⟨⟨rfl, hn, hp⟩, h⟩ := h
          obtain ⟨da, des, k, hd, ho, D, I⟩ := R.instAt ha e1 e2
          have g := (DesIs_get name D).1
          rw [ev] at g
          obtain ⟨v', g1, g2⟩ := g
          obtain ⟨p1, p2, p3, p4⟩ := ws_plain w.params name
          exact get_own Fm X₀ I p1 p2 (ws_field w.params hn).1 rfl g1 (plain_handed hp g2) (PE.here (R.tok _) g2 h)
        · exact h.elim
      · exact h.elim
    · exact h.elim
  · split at h
    · rename_i l e
      obtain ⟨rfl, h⟩ := h
      cases c
      obtain ⟨t, e1⟩ := ws_const w.params e
      exact cls_val Fm X₀ (ws_reads w.params).1 (ws_reads w.params).2 e1 rfl (PE.str (R.tok _) rfl h)
    · exact h.elim
  · exact h.elim
theorem Ns_keep {h h' : Heap} {a : Addr} {m : Str → Option Value} (H : h.Ns a m) (k : ∀ o, h.get? a = some o → h'.get? a = some o) : h'.Ns a m := let ⟨o, es, ep, h1, h2⟩ := H; ⟨o, es, ep, k _ h1, h2⟩
theorem univ2 (h₀ : Heap) (L : Addr) (h : Heap) (k : ∀ b o, h₀.get? b = some o → h.get? b = some o) : ∃ news, News h₀ L h news ∧ ∀ b o, b ≠ L → h.get? b = some o → h₀.get? b = some o ∨ (b, o) ∈ news := by
  refine ⟨(List.range h.objs.size).filterMap fun a => if a = L then none else match h₀.get? a, h.get? a with | none, some o => some (a, o) | _, _ => none, fun p hp => ?_, fun b o hb e => ?_⟩
  · obtain ⟨a, _, e⟩ := List.mem_filterMap.mp hp
    split at e
    · cases e
    · rename_i hL
      split at e
      · rename_i o e1 e2; cases e; exact ⟨e2, hL, e1⟩
      · cases e
  · cases q : h₀.get? b with
    | some o' => have := k b o' q; rw [e] at this; cases this; exact .inl rfl
    | none => exact .inr (List.mem_filterMap.mpr ⟨b, List.mem_range.mpr (Heap.lt_size e), by rw [if_neg hb, q, e]⟩)
theorem Rel.bridgeAt (R : Rel F ρ σ s) {a : Addr} {o : Obj} (ha : s.heap.get? a = some o) (h0 : F.h₀.get? a = none) (hL : a ≠ F.env.locals) : ∃ m rest, Fr F.h₀ F.env.locals s.heap m ∧ News F.h₀ F.env.locals s.heap ((a, o) :: rest) ∧ (∀ p ∈ rest, p.1 ≠ a) ∧
    ∀ h' m' o', Fr F.h₀ F.env.locals h' m' → News F.h₀ F.env.locals h' ((a, o') :: rest) → ∀ b o, b ≠ a → b ≠ F.env.locals → s.heap.get? b = some o → h'.get? b = some o := by
  obtain ⟨m, h1, _⟩ := R.loc
  obtain ⟨news, N, u⟩ := univ2 F.h₀ F.env.locals s.heap R.keep
  refine ⟨m, news.filter (fun p => p.1 != a), ⟨h1, R.keep, R.above⟩, fun p hp => ?_, fun p hp => ?_, fun h' m' o' F' N' b o hb hL' e => ?_⟩
  · rcases List.mem_cons.mp hp with rfl | hp
    · exact ⟨ha, hL, h0⟩
    · exact N p (List.mem_filter.mp hp).1
  · exact bne_iff_ne.mp (List.mem_filter.mp hp).2
  · rcases u b o hL' e with q | q
    · exact F'.keep b o q
    · exact (N' (b, o) (.tail _ (List.mem_filter.mpr ⟨q, bne_iff_ne.mpr hb⟩))).1
theorem setAtt_sound (G : Good w F cx) (R : Rel F ρ σ s) {a v : AV} {u x : Value} {name : Str} {Q : St → Prop} (c : conc ρ a u) (cv : conc ρ v x) (h : SetAtt F.fz a name v σ Q) : wpAny (model pw w) A (setAttr u name x) (PU F ρ Q) NoE s := by
  unfold SetAtt at h
  split at h
  · obtain ⟨a, rfl, ha⟩ := c
    split at h
    · rename_i C d e1
      split at h
      · rename_i es e2
        obtain ⟨⟨rfl, hf, hn, hl⟩, h⟩ := h
        obtain ⟨da, des, k, hd, ho, D, I⟩ := R.instAt ha e1 e2
        obtain ⟨m, rest, Fm, N, hr, u⟩ := R.bridgeAt ho (R.fresh _ _ _ hd e2 rfl hf) (fun q => R.offL (q ▸ ⟨_, _, hd, e2, rfl⟩))
        obtain ⟨p1, p2, p3, p4⟩ := ws_plain w.params name
        have X₀ := G.kin R
        have gl : (getL name des).isSome = true := by
          have g := (DesIs_get name D).1
          split at g
          · obtain ⟨v', g1, _⟩ := g; rw [g1]; rfl
          · rw [g]; rfl
        have D' := DesIs_put (hsh := PyData.keyHash w.params name) (t := s.toks + 1) (name := name) cv D
        have hz := DesIs_len D'
        have hu := upsert_len name v es
        refine set_dict Fm X₀ N I rfl p3 p4 (ws_field w.params hn).2 p2 gl rfl (.head hr) (by rw [hz]; (first | lia | omega)) fun h' F' N' => ?_
        have kp := u h' m _ F' N'
        refine ⟨ρ, _, List.prefix_rfl, R.putW (t := s.toks + 2) (x := .ns (upsert name v es)) hd e2 rfl hf (.mk ⟨_, (N' _ (.head _)).1, _, _, rfl, D'⟩) (fun b o hb hL e => kp b o hb hL e) (fr_carry Fm F'), h⟩
      · exact h.elim
    · exact h.elim
  · exact h.elim
theorem setSub_sound (R : Rel F ρ σ s) {a i v : AV} {u y x : Value} {Q : St → Prop} (c : conc ρ a u) (ci : conc ρ i y) (cv : conc ρ v x) (h : SetSub F.fz a i v σ Q) : wpAny (model pw w) A (setItem u y x) (PU F ρ Q) NoE s := by
  unfold SetSub at h
  split at h
  · rename_i n k
    obtain ⟨a, rfl, ha⟩ := c
    obtain ⟨t, rfl⟩ := ci
    split at h
    · rename_i xs e
      obtain ⟨z, hz, ez⟩ := lst_of_bind e
      obtain ⟨vs, L, c1⟩ := R.list ha hz ez
      obtain ⟨⟨hf, h0, h1, h2⟩, hq⟩ := h
      have l1 := concs_len c1
      simp only [Array.length_toList] at l1
      refine wpAny_setItem_list L h0 (by (first | lia | omega)) (by (first | lia | omega)) fun h' ⟨o', ho', hc', ep', hd'⟩ hs => ?_
      refine ⟨ρ, _, List.prefix_rfl, R.put (t := s.toks) (x := .list (xs.set k.toNat v)) ha hz (by cases z <;> first | rfl | cases ez) hf ho' ⟨hc', _, _, hd', ?_⟩ fun b hb => hs.2 b hb, hq⟩
      rw [Array.toList_setIfInBounds]
      have : ∀ (xs : List AV) (vs : List Value) (k : Nat), concs ρ xs vs → concs ρ (xs.set k v) (vs.set k x) := by
        intro xs
        induction xs with
        | nil => intro vs k h; cases h; exact rfl
        | cons y r ih =>
          intro vs k h
          obtain ⟨u, q, rfl, c2, c3⟩ := h
          cases k with
          | zero => exact ⟨x, q, rfl, cv, c3⟩
          | succ k => exact ⟨u, _, rfl, c2, ih q k c3⟩
      exact this _ _ _ c1
    · exact h.elim
  · exact h.elim
end
end W58
end
section
open PySem PySem.W PyProof.Rows PySem.Calls PySem.Spec PySem.SeqAt PyProof.V
set_option maxRecDepth 100000
namespace W58
section
variable {w : World} {F : Fm} {cx : Cx} {ρ : List Addr} {σ : St} {s : Shared} {A : Around} {n : Nat}
noncomputable def PI (F : Fm) (ρ : List Addr) (σ : St) (s : Shared) (k : Nat → St → Prop) (it : Value) (s' : Shared) : Prop := it = .ref s.heap.objs.size ∧ ∃ o x, s' = { s with heap := s.heap.push o } ∧ x.live = true ∧ Rel F (ρ ++ [s.heap.objs.size]) { σ with hp := σ.hp ++ [x] } s' ∧ k σ.hp.length { σ with hp := σ.hp ++ [x] }
theorem PI.new0 (R : Rel F ρ σ s) {x : AO} {o : Obj} {k : Nat → St → Prop} (hf : o.isFreed = false) (hx : OIs F.hf (ρ ++ [s.heap.objs.size]) x o) (h : k σ.hp.length { σ with hp := σ.hp ++ [x] }) (hl : x.live = true := by rfl) :
    PI F ρ σ s k (.ref s.heap.objs.size) { s with heap := s.heap.push o } :=
  ⟨rfl, o, x, rfl, hl, R.alloc0 (t := s.toks) hf hx, h⟩
theorem iter_sound (R : Rel F ρ σ s) {x : AV} {u : Value} {k : Nat → St → Prop} (c : conc ρ x u) (h : mkIter x σ k) : wpAny (model pw w) A (pyIter u) (PI F ρ σ s k) NoE s := by
  unfold mkIter at h
  split at h
  · rename_i l
    obtain ⟨t, rfl⟩ := c
    refine wpAny_pyIter_strU (PI.new0 R (x := .siter l 0) rfl ⟨_, t, rfl, ?_, rfl⟩ h)
    unfold strIterType
    split
    · exact .inr rfl
    · exact .inl rfl
  · obtain ⟨a, rfl, ha⟩ := c
    have lst : ∀ (n : Nat) (x : AO) (xs : List AV), ρ[n]? = some a → σ.hp[n]? = some x → x.lst? = some xs → k σ.hp.length { σ with hp := σ.hp ++ [.liter n 0] } → wpAny (model pw w) A (pyIter (.ref a)) (PI F ρ σ s k) NoE s := fun n x xs ha hx ex h => by
      obtain ⟨vs, L, c1⟩ := R.list ha hx ex
      refine wpAny_pyIter_list L (PI.new0 R (x := .liter n 0) rfl ⟨rfl, a, ?_, rfl⟩ h)
      rw [List.getElem?_append_left (List.getElem?_eq_some_iff.mp ha).1]; exact ha
    split at h
    · rename_i e
      obtain ⟨o, ho, t1, t2, t3, rfl⟩ := R.objs _ _ _ ha e
      obtain ⟨hb, h⟩ := h
      refine wpAny_pyIter_range ho (small_one (by (first | lia | omega)) (by (first | lia | omega)) (by (first | lia | omega)) (by (first | lia | omega))) ?_
      rw [rangeSize_one]
      exact PI.new0 R (x := .riter _ _ _) rfl rfl h
    · rename_i e; exact lst _ _ _ ha e rfl h
    · rename_i e; exact lst _ _ _ ha e rfl h
    · exact h.elim
  · exact h.elim
theorem Rel.endIt (R : Rel F ρ σ s) {j : Nat} {x : AO} {h' : Heap} {t : Nat} {a : Addr} (hj : ρ[j]? = some a) (hx : σ.hp[j]? = some x) (hl : x.live = true) (hf : F.fz ≤ j) (k : Heap.ExtBut a s.heap h') :
    Rel F ρ (σ.putO j .any) { s with heap := h', toks := t } :=
  R.putW hj hx hl hf trivial (fun b o hb _ e => k b o hb e) fun _ hn => hn.extBut k fun q => R.offL (q ▸ ⟨j, x, hj, hx, hl⟩)
noncomputable def NextIs (F : Fm) (ρ : List Addr) (σ : St) (j : Nat) (r : Option Value) (s' : Shared) : Prop := match stepIt σ.hp j with
  | .no => False
  | .fin => r = none ∧ Rel F ρ (σ.putO j .any) s'
  | .item v o => ∃ u, r = some u ∧ conc ρ v u ∧ Rel F ρ (σ.putO j o) s'
theorem next_sound (hA : Room n A) (R : Rel F ρ σ s) {j : Nat} {a : Addr} (hj : ρ[j]? = some a) (hf : F.fz ≤ j) (hn : stepIt σ.hp j ≠ .no) : wpAny (model pw w) A (pyNext (.ref a)) (NextIs F ρ σ j) NoE s := by
  unfold NextIs
  revert hn
  generalize hg : stepIt σ.hp j = g
  intro hn
  unfold stepIt at hg
  split at hg
  · rename_i l i e
    obtain ⟨o, ho, ty, t, hc, hty, hd⟩ := R.objs _ _ _ hj e
    split at hg
    · rename_i c ec
      subst hg
      have fin : ∀ (h' : Heap) (ty : String), (ty = "str_iterator" ∨ ty = "str_ascii_iterator") → h'.IsStrIter a ty ⟨l.toArray⟩ t (i + 1) → Heap.SameBut a s.heap h' → ∃ u, some (Value.str ⟨#[c]⟩ s.toks) = some u ∧ conc ρ (.str [c]) u ∧ Rel F ρ (σ.putO j (.siter l (i + 1))) { s with heap := h', toks := s.toks + 1 } := fun h' ty q ⟨o', ho', hc', hd'⟩ hs =>
        ⟨_, rfl, ⟨_, rfl⟩, R.put hj e rfl hf ho' ⟨ty, t, hc', q, hd'⟩ fun b hb => hs.2 b hb⟩
      rcases hty with rfl | rfl
      · exact wpAny_pyNext_wide_item ⟨o, ho, hc, hd⟩ (by simpa using ec) fun h' hi hs => fin h' _ (.inl rfl) hi hs
      · exact wpAny_pyNext_ascii_item ⟨o, ho, hc, hd⟩ (by simpa using ec) fun h' hi hs => fin h' _ (.inr rfl) hi hs
    · rename_i ec
      subst hg
      rcases hty with rfl | rfl
      · exact wpAny_pyNext_wide_end hA.hh ⟨o, ho, hc, hd⟩ (by simpa using ec) fun h' hk => ⟨rfl, R.endIt (t := s.toks) hj e rfl hf hk⟩
      · exact wpAny_pyNext_ascii_end hA.hh ⟨o, ho, hc, hd⟩ (by simpa using ec) fun h' hk => ⟨rfl, R.endIt (t := s.toks) hj e rfl hf hk⟩
  · rename_i m i e
    obtain ⟨o, ho, hc, al, hal, hd⟩ := R.objs _ _ _ hj e
    split at hg
    · rename_i xs ex
      obtain ⟨x, hx, ex'⟩ := lst_of_bind ex
      obtain ⟨vs, L, c1⟩ := R.list hal hx ex'
      split at hg
      · rename_i v ev
        subst hg
        obtain ⟨u, h1, h2⟩ := concs_get c1 ev
        refine wpAny_pyNext_list_item (items := vs) ⟨o, ho, hc, hd⟩ L (by simpa using h1) fun h' ⟨o', ho', hc', hd'⟩ hs => ⟨u, rfl, h2, ?_⟩
        exact R.put (t := s.toks) hj e rfl hf ho' ⟨hc', al, hal, hd'⟩ fun b hb => hs.2 b hb
      · rename_i ev
        subst hg
        have l1 := concs_len c1
        simp only [Array.length_toList] at l1
        refine wpAny_pyNext_list_end (items := vs) hA.hh ⟨o, ho, hc, hd⟩ L ?_ fun h' hk => ⟨rfl, R.endIt (t := s.toks) hj e rfl hf hk⟩
        rw [List.getElem?_eq_none_iff] at ev
        exact Array.getElem?_eq_none (by (first | lia | omega))
    · exact absurd hg.symm hn
  · rename_i x left st e
    obtain ⟨o, ho, rfl⟩ := R.objs _ _ _ hj e
    split at hg
    · rename_i hl
      subst hg
      exact wpAny_pyNext_range_item ho hl fun h' hi hs => ⟨_, rfl, ⟨_, rfl⟩, R.put hj e rfl hf hi rfl fun b hb => hs.2 b hb⟩
    · rename_i hl
      subst hg
      exact wpAny_pyNext_range_end hA.hh ho (by (first | lia | omega)) fun h' hk => ⟨rfl, R.endIt (t := s.toks) hj e rfl hf hk⟩
  · exact absurd hg.symm hn
end
end W58
end
section
open PySem PySem.W PyProof.Rows PySem.Calls PySem.Spec PySem.SeqAt PyProof.V
set_option maxRecDepth 100000
namespace W58
section
variable {w : World} {F : Fm} {cx : Cx} {ρ : List Addr} {σ : St} {s : Shared} {A : Around} {n : Nat}
theorem bindL_notin (k : Str → Option NameKind) : ∀ (l : List (Str × Value)) (m : Str → Option Value) (x : Str), x ∉ l.map (·.1) → bindL k l m x = m x
  | [], _, _, _ => rfl
  | (y, v) :: r, m, x, h => by
    rw [List.map_cons, List.mem_cons, not_or] at h
    unfold bindL
    rw [bindL_notin k r _ x h.2]
    split
    · exact if_neg h.1
    · rfl
theorem bindC_notin (k : Str → Option NameKind) : ∀ (l : List (Str × Value)) (m : Str → Option Value) (x : Str), x ∉ l.map (·.1) → bindC k l m x = m x
  | [], _, _, _ => rfl
  | (y, v) :: r, m, x, h => by
    rw [List.map_cons, List.mem_cons, not_or] at h
    unfold bindC
    rw [bindC_notin k r _ x h.2]
    split
    · rfl
    · exact if_neg h.1
theorem bind_get (k : Str → Option NameKind) : ∀ {ns : List Str} {avs : List AV} {vals : List Value} (m : Str → Option Value) {x : Str} {av : AV}, ns.Nodup → ns.length = avs.length → concs ρ avs vals → (ns.zip avs).lookup x = some av →
    (k x = some .local → ∃ v, bindL k (ns.zip vals) m x = some v ∧ conc ρ av v) ∧ (k x ≠ some .local → ∃ v, bindC k (ns.zip vals) m x = some v ∧ conc ρ av v)
  | [], _, _, _, _, _, _, _, _, e => by cases e
  | _ :: _, [], _, _, _, _, _, h, _, _ => by cases h
  | y :: r, a :: avs, _, m, x, av, nd, hl, ⟨v, q, e0, c1, c2⟩, e => by
    subst e0
    obtain ⟨nd1, nd2⟩ := List.nodup_cons.mp nd
    rw [List.zip_cons_cons, List.lookup_cons] at e
    rw [List.zip_cons_cons]
    have notin : ∀ {β : Type} (l : List β), y ∉ (r.zip l).map (·.1) := fun l h => by
      obtain ⟨p, hp, e⟩ := List.mem_map.mp h
      exact nd1 (e ▸ (List.of_mem_zip (show (p.1, p.2) ∈ r.zip l from hp)).1)
    by_cases h : x = y
    · subst h
      simp at e
      subst e
      unfold bindL bindC
      refine ⟨fun hk => ⟨v, ?_, c1⟩, fun hk => ⟨v, ?_, c1⟩⟩
      · rw [bindL_notin k _ _ _ (notin q), if_pos hk]; exact if_pos rfl
      · rw [bindC_notin k _ _ _ (notin q), if_neg hk]; exact if_pos rfl
    · rw [show (x == y) = false from beq_eq_false_iff_ne.mpr h] at e
      unfold bindL bindC
      exact ⟨fun hk => (bind_get k _ nd2 (by simpa using hl) c2 e).1 hk, fun hk => (bind_get k _ nd2 (by simpa using hl) c2 e).2 hk⟩
/-- a frame is entered -/
theorem Rel.enter (R : Rel F ρ σ s) {h₀ : Heap} {fz : Nat} {env : Env} {m cm : Str → Option Value} {s₁ : Shared} {loc : List (Str × AV)} (hs : ∀ b o, F.H.get? b = some o → h₀.get? b = some o) (hk : ∀ b o, h₀.get? b = some o → s.heap.get? b = some o)
    (hf : ∀ (i : Nat) (a : Addr) (x : AO), ρ[i]? = some a → σ.hp[i]? = some x → x.live = true → fz ≤ i → h₀.get? a = none) (hsz : h₀.objs.size ≤ s.heap.objs.size) (fzl : fz ≤ ρ.length)
    (X : InCallC s env.locals m env.cells cm s₁) (hl : ∀ x av, loc.lookup x = some av → (env.kindOf x = some .local → ∃ v, m x = some v ∧ conc ρ av v) ∧ (env.kindOf x = some .cell → (∃ c, env.cells.lookup x = some c) ∧ ∃ v, cm x = some v ∧ conc ρ av v)) :
    Rel ⟨F.H, h₀, env, fz, fun i => ∃ x, σ.hp[i]? = some x ∧ x.live = true, true, F.g₀, F.os, F.hf⟩ ρ ⟨loc, σ.hp⟩ s₁ := by
  obtain ⟨h', tk, e, kp⟩ := X.done
  have fr := X.toInCall.fresh
  have cellAt : ∀ x c, env.cells.lookup x = some c → env.locals < c := fun x c h => X.above x c (mem_of_lookup h)
  have big : ∀ c, s.heap.objs.size ≤ c → ¬ Live ρ σ c := fun c h q => absurd (R.lt q) (Nat.not_lt.mpr h)
  have none_of : ∀ c, s.heap.objs.size ≤ c → h₀.get? c = none := fun c h => by
    cases q : h₀.get? c with
    | none => rfl
    | some o => exact absurd (Heap.lt_size (hk _ _ q)) (Nat.not_lt.mpr h)
  refine ⟨hs, fun b o q => X.toInCall.keep b o (hk b o q), by rw [e]; exact R.gens, by rw [e]; exact R.os, ⟨m, X.toInCall.ns, fun x av q1 q2 => (hl x av q1).1 q2⟩, fun x av q1 q2 => ?_, fun x c q => ?_, fun _ x c q => none_of c (Nat.le_of_lt (Nat.lt_of_le_of_lt fr (cellAt x c q))),
    R.len, R.nodup, fun i a x h1 h2 => (R.objs i a x h1 h2).map fun _ o u v => ⟨o, X.toInCall.keep a o u, v⟩, hf, big _ fr, none_of _ fr, Nat.le_trans hsz fr, fzl, fun i x _ h2 h3 => ⟨x, h2, h3⟩⟩
  · obtain ⟨⟨c, hc⟩, v, h1, h2⟩ := (hl x av q1).2 q2
    obtain ⟨o, ho, hd⟩ := X.cell x c hc
    exact ⟨c, o, v, hc, ho, by rw [hd, h1], h2⟩
  · obtain ⟨o, ho, hd⟩ := X.cell x c q
    have hlt := cellAt x c q
    exact ⟨big c (Nat.le_of_lt (Nat.lt_of_le_of_lt fr hlt)), Nat.ne_of_gt hlt, o, _, ho, hd⟩
/-- a frame is left -/
theorem Rel.leave (R : Rel F ρ σ s) {env : Env} {own : Bool} {ρ' : List Addr} {σ' : St} {s' : Shared} {fz : Nat} (p : ρ <+: ρ') (hz : fz ≤ ρ.length) (hfz : F.fz ≤ fz) {lo : Nat → Prop} (hlo : ∀ i, i < fz → lo i → ∃ x, σ.hp[i]? = some x ∧ x.live = true)
    {h₀ : Heap} (hkk : ∀ b o, F.h₀.get? b = some o → h₀.get? b = some o) (hL : ∃ m, h₀.Ns F.env.locals m ∧ s.heap.Ns F.env.locals m) (hc : ∀ x c o, F.env.cells.lookup x = some c → s.heap.get? c = some o → h₀.get? c = some o)
    (R' : Rel ⟨F.H, h₀, env, fz, lo, own, F.g₀, F.os, F.hf⟩ ρ' σ' s') : Rel F ρ' ⟨σ.loc, σ'.hp⟩ s' := by
  have old : ∀ (i : Nat) (a : Addr) (x : AO), ρ'[i]? = some a → σ'.hp[i]? = some x → x.live = true → i < fz → ∃ y, ρ[i]? = some a ∧ σ.hp[i]? = some y ∧ y.live = true := fun i a x h1 h2 h3 h4 => by
    obtain ⟨y, e1, e2⟩ := hlo i h4 (R'.low i x h4 h2 h3)
    have hi : i < ρ.length := Nat.lt_of_lt_of_le h4 hz
    obtain ⟨t, rfl⟩ := p
    rw [List.getElem?_append_left hi] at h1
    exact ⟨y, h1, e1, e2⟩
  have liveOld : ∀ a, Live ρ' σ' a → Live ρ σ a ∨ h₀.get? a = none := fun a ⟨i, x, h1, h2, h3⟩ => by
    by_cases h4 : i < fz
    · obtain ⟨y, a1, a2, a3⟩ := old i a x h1 h2 h3 h4
      exact .inl ⟨i, y, a1, a2, a3⟩
    · exact .inr (R'.fresh i a x h1 h2 h3 (Nat.not_lt.mp h4))
  obtain ⟨m0, hLn, hLs⟩ := hL
  refine ⟨R.stat, fun b o e => R'.keep b o (hkk b o e), R'.gens, R'.os, ?_, ?_, ?_, R.cown, R'.len, R'.nodup, R'.objs, ?_, ?_, R.L0, R.above, Nat.le_trans (Nat.le_trans hfz hz) p.length_le, ?_⟩
  · obtain ⟨m, h1, h2⟩ := R.loc
    have := Ns_same h1 hLs
    subst this
    exact ⟨m, hLn.keeps R'.keep, fun x av e q => let ⟨v, a, b⟩ := h2 x av e q; ⟨v, a, conc_mono p b⟩⟩
  · intro x av e q
    obtain ⟨c, o, v, h1, h2, h3, h4⟩ := R.cel x av e q
    exact ⟨c, o, v, h1, R'.keep c o (hc x c o h1 h2), h3, conc_mono p h4⟩
  · intro x c e
    obtain ⟨h1, h2, o, v, h3, h4⟩ := R.cap x c e
    refine ⟨fun q => (liveOld c q).elim h1 fun q => ?_, h2, o, v, R'.keep c o (hc x c o e h3), h4⟩
    have := hc x c o e h3; rw [q] at this; cases this
  · intro i a x h1 h2 h3 h4
    by_cases h5 : i < fz
    · obtain ⟨y, a1, a2, a3⟩ := old i a x h1 h2 h3 h5
      exact R.fresh i a y a1 a2 a3 h4
    · have q := R'.fresh i a x h1 h2 h3 (Nat.not_lt.mp h5)
      cases e : F.h₀.get? a with
      | none => rfl
      | some o => rw [hkk a o e] at q; cases q
  · intro q
    rcases liveOld _ q with q | q
    · exact R.offL q
    · obtain ⟨o, es, ep, ho, _⟩ := hLn
      have q' : h₀.get? F.env.locals = none := q
      rw [ho] at q'; cases q'
  · intro i x h1 h2 h3
    obtain ⟨a, ha⟩ := R'.addr h2
    obtain ⟨y, a1, a2, a3⟩ := old i a x ha h2 h3 (Nat.lt_of_lt_of_le h1 hfz)
    exact R.low i y h1 a2 a3
end
end W58
end
section
open PySem PySem.W PyProof.Rows PySem.Calls PySem.Spec PySem.SeqAt PyProof.V
set_option maxRecDepth 100000
namespace W58
section
variable {w : World} {F : Fm} {cx : Cx} {ρ : List Addr} {σ : St} {s : Shared} {A : Around} {n : Nat}
theorem conc_take {k : Nat} {x : AV} {v : Value} (b : x.below k) (c : conc ρ x v) : conc (ρ.take k) x v := by
  cases x <;> first | exact c | skip
  obtain ⟨a, e, h⟩ := c
  exact ⟨a, e, by rw [List.getElem?_take_of_lt b]; exact h⟩
theorem concs_take {k : Nat} : ∀ {xs : List AV} {vs : List Value}, (∀ x ∈ xs, x.below k) → concs ρ xs vs → concs (ρ.take k) xs vs
  | [], _, _, c => c
  | x :: r, _, h, ⟨v, q, e, a, b⟩ => ⟨v, q, e, conc_take (h x (.head _)) a, concs_take (fun y hy => h y (.tail _ hy)) b⟩
theorem DesIs_take {k : Nat} : ∀ {es : List (Str × AV)} {des : List DictEntry}, (∀ p ∈ es, p.2.below k) → DesIs ρ es des → DesIs (ρ.take k) es des
  | [], _, _, c => c
  | (y, x) :: r, _, h, ⟨hs, t, v, d, e, a, b⟩ => ⟨hs, t, v, d, e, conc_take (h (y, x) (.head _)) a, DesIs_take (fun p hp => h p (.tail _ hp)) b⟩
theorem DEs_take {hf : Str → Int} {k : Nat} : ∀ {es : List (List Nat × AV)} {des : List DictEntry}, (∀ p ∈ es, p.2.below k) → DEs hf ρ es des → DEs hf (ρ.take k) es des
  | [], _, _, c => c
  | (y, x) :: r, _, h, ⟨t, v, d, e, a, b⟩ => ⟨t, v, d, e, conc_take (h (y, x) (.head _)) a, DEs_take (fun p hp => h p (.tail _ hp)) b⟩
theorem get_take {k n : Nat} {a : Addr} (b : n < k) (h : ρ[n]? = some a) : (ρ.take k)[n]? = some a := by rw [List.getElem?_take_of_lt b]; exact h
theorem OIs_take {hf : Str → Int} {k : Nat} {x : AO} {o : Obj} (b : x.below k) (H : OIs hf ρ x o) : OIs hf (ρ.take k) x o := by
  cases x with
  | list xs => exact ⟨H.1, let ⟨vs, n, d, c⟩ := H.2; ⟨vs, n, d, concs_take b c⟩⟩
  | plist xs => exact let ⟨vs, n, d, c⟩ := H; ⟨vs, n, d, concs_take b c⟩
  | tup xs => exact ⟨H.1, let ⟨vs, n, d, c⟩ := H.2; ⟨vs, n, d, concs_take b c⟩⟩
  | slice l u st => exact ⟨H.1, let ⟨x, y, z, d, c1, c2, c3⟩ := H.2; ⟨x, y, z, d, conc_take b.1 c1, conc_take b.2.1 c2, conc_take b.2.2 c3⟩⟩
  | liter n i => exact ⟨H.1, let ⟨l, a, c⟩ := H.2; ⟨l, get_take b a, c⟩⟩
  | inst C d => exact ⟨H.1, let ⟨a, c, e⟩ := H.2.1; ⟨a, get_take b c, e⟩, H.2.2⟩
  | ns es => exact let ⟨des, n, d, c⟩ := H; ⟨des, n, d, DesIs_take b c⟩
  | dict es => exact ⟨H.1, let ⟨des, ep, d, c⟩ := H.2.1; ⟨des, ep, d, DEs_take b c⟩, H.2.2⟩
  | range | riter | siter | any => exact H
theorem Rel.weak (R : Rel F ρ σ s) {N : Nat} {σ' : St} (W : Wk N σ σ') (h : F.fz ≤ N) : Rel F (ρ.take σ'.hp.length) σ' s := by
  have ll : (ρ.take σ'.hp.length).length = σ'.hp.length := by rw [List.length_take, R.len]; exact Nat.min_eq_left W.hi
  have at_ : ∀ (i : Nat) (a : Addr) (x : AO), (ρ.take σ'.hp.length)[i]? = some a → σ'.hp[i]? = some x → x.live = true → ρ[i]? = some a ∧ σ.hp[i]? = some x ∧ x.below σ'.hp.length := fun i a x h1 h2 h3 => by
    have hi : i < σ'.hp.length := (List.getElem?_eq_some_iff.mp h2).1
    rw [List.getElem?_take_of_lt hi] at h1
    rcases W.hp i x h2 with ⟨h4, h5⟩ | rfl
    · exact ⟨h1, h4, h5⟩
    · cases h3
  have lv : ∀ a, Live (ρ.take σ'.hp.length) σ' a → Live ρ σ a := fun a ⟨i, x, h1, h2, h3⟩ => let ⟨a1, a2, _⟩ := at_ i a x h1 h2 h3; ⟨i, x, a1, a2, h3⟩
  refine ⟨R.stat, R.keep, R.gens, R.os, ?_, ?_, ?_, R.cown, ll, ?_, ?_, ?_, fun q => R.offL (lv _ q), R.L0, R.above, by rw [ll]; exact Nat.le_trans h W.lo, ?_⟩
  · obtain ⟨m, h1, h2⟩ := R.loc
    refine ⟨m, h1, fun x av e q => ?_⟩
    obtain ⟨e1, e2⟩ := W.loc x av e
    obtain ⟨v, a, b⟩ := h2 x av e1 q
    exact ⟨v, a, conc_take e2 b⟩
  · intro x av e q
    obtain ⟨e1, e2⟩ := W.loc x av e
    obtain ⟨c, o, v, h1, h2, h3, h4⟩ := R.cel x av e1 q
    exact ⟨c, o, v, h1, h2, h3, conc_take e2 h4⟩
  · intro x c e
    obtain ⟨h1, h2, h3⟩ := R.cap x c e
    exact ⟨fun q => h1 (lv _ q), h2, h3⟩
  · intro i j a x y h1 h2 h3 h4 h5 h6
    obtain ⟨a1, a2, _⟩ := at_ i a x h1 h3 h4
    obtain ⟨b1, b2, _⟩ := at_ j a y h2 h5 h6
    exact R.nodup i j a x y a1 b1 a2 h4 b2 h6
  · intro i a x h1 h2
    cases hx : x.live with
    | false => cases x <;> first | trivial | cases hx
    | true =>
      obtain ⟨a1, a2, a3⟩ := at_ i a x h1 h2 hx
      obtain ⟨o, ho, H⟩ := (R.objs i a x a1 a2).of hx
      exact .mk ⟨o, ho, OIs_take a3 H⟩
  · intro i a x h1 h2 h3 h4
    obtain ⟨a1, a2, _⟩ := at_ i a x h1 h2 h3
    exact R.fresh i a x a1 a2 h3 h4
  · intro i x h1 h2 h3
    rcases W.hp i x h2 with ⟨h4, _⟩ | rfl
    · exact R.low i x h1 h4 h3
    · cases h3
theorem pre_take {ρ' : List Addr} {k : Nat} (p : ρ <+: ρ') (h : ρ.length ≤ k) : ρ <+: ρ'.take k := by
  obtain ⟨t, rfl⟩ := p
  rw [List.take_append]
  rw [List.take_of_length_le h]
  exact List.prefix_append ..
theorem kind_lookup (fd : FuncData) (L a : Addr) (x : Str) : (callEnvC fd L a).kindOf x = fd.scope.names.lookup x := rfl
noncomputable def flA : Fl → AV
  | .ret v => v
  | _ => .none
noncomputable def flV : Flow → Value
  | .ret v => v
  | _ => .none
theorem concF_val {fl : Fl} {f : Flow} (c : concF ρ fl f) : conc ρ (flA fl) (flV f) := by
  cases fl <;> first | (cases c; rfl) | skip
  obtain ⟨v, rfl, c⟩ := c; exact c
theorem pw_inj : ∀ {l : List (Str × Addr)}, (l.Pairwise fun x y => x.2 ≠ y.2) → ∀ {p q : Str × Addr}, p ∈ l → q ∈ l → p.2 = q.2 → p = q
  | _ :: _, h, _, _, .head _, .head _, _ => rfl
  | _ :: _, h, _, _, .head _, .tail _ m, e => absurd e ((List.pairwise_cons.mp h).1 _ m)
  | _ :: _, h, _, _, .tail _ m, .head _, e => absurd e.symm ((List.pairwise_cons.mp h).1 _ m)
  | _ :: _, h, _, _, .tail _ m, .tail _ m', e => pw_inj (List.pairwise_cons.mp h).2 m m' e
/-- a call's end -/
theorem ret_sound (R : Rel F ρ σ s) {env : Env} {own : Bool} {Q : AV → St → Prop} {s' : Shared} {fz : Nat} {lo : Nat → Prop} {h₀ : Heap} {f : Flow} (hfz : F.fz ≤ fz) (hz : fz = ρ.length)
    (hlo : ∀ i, i < fz → lo i → ∃ x, σ.hp[i]? = some x ∧ x.live = true) (hkk : ∀ b o, s.heap.get? b = some o → h₀.get? b = some o)
    {ρ₁ : List Addr} (p₁ : ρ <+: ρ₁) {N : Nat} (hN : ρ₁.length ≤ N) (h : PX ⟨F.H, h₀, env, fz, lo, own, F.g₀, F.os, F.hf⟩ ρ₁ (RetK N σ.loc Q) f s') : PE F ρ₁ Q (flV f) s' := by
  obtain ⟨ρ', σ', fl, p, R', c, q⟩ := h
  have go : ∀ (ρ' : List Addr) (σ' : St) (av : AV) (v : Value), ρ₁ <+: ρ' → Rel ⟨F.H, h₀, env, fz, lo, own, F.g₀, F.os, F.hf⟩ ρ' σ' s' → conc ρ' av v → Q av ⟨σ.loc, σ'.hp⟩ → PE F ρ₁ Q v s' := fun ρ' σ' av v p R' c q => by
    obtain ⟨m, h1, h2⟩ := R.loc
    exact ⟨ρ', _, av, p, R.leave (p₁.trans p) (Nat.le_of_eq hz) hfz hlo (fun b o e => hkk b o (R.keep b o e)) ⟨m, h1.keeps hkk, h1⟩ (fun x c o _ e => hkk c o e) R', c, q⟩
  have cv := concF_val c
  have fin : ∀ (av : AV) (v : Value), conc ρ' av v → (Q av ⟨σ.loc, σ'.hp⟩ ∨ ∃ σ'', Wk N σ' σ'' ∧ av.below σ''.hp.length ∧ Q av ⟨σ.loc, σ''.hp⟩) → PE F ρ₁ Q v s' := fun av v cv q => by
    rcases q with q | ⟨σ'', W, hb, q⟩
    · exact go ρ' σ' _ _ p R' cv q
    · have l1 := p₁.length_le
      exact go _ σ'' _ _ (pre_take p (Nat.le_trans hN W.lo)) (R'.weak W (by show fz ≤ N; (first | lia | omega))) (conc_take hb cv) q
  exact fin _ _ cv (by cases fl <;> exact q)
theorem env_ok {st : Stmt} {fd : FuncData} {a L : Addr} (K : FnK (kf w.params) a st fd) {H h₀ : Heap} {fz : Nat} {lo : Nat → Prop} {gs : Array GenState} {os : OsState} {hf : Str → Int}
    (ap : (callEnvC fd L a).cells.Pairwise fun x y => x.2 ≠ y.2) : Fm.Ok ⟨H, h₀, callEnvC fd L a, fz, lo, true, gs, os, hf⟩ := by
  refine ⟨K.glob, K.blt, by show fd.scope.kind = _; rw [K.scope]; exact K.plain.2.2, fun x h => ?_, fun _ x y c h1 h2 => ?_⟩
  · have h' : fd.scope.names.lookup x = some .cell := h
    exact Option.isSome_iff_exists.mp (cellsFrom_some fd.scope.names (L + 1) [] (.inl h'))
  · exact congrArg Prod.fst (pw_inj ap (mem_of_lookup h1) (mem_of_lookup h2) rfl)
theorem call_fn (hX : SXS w n) (G : Good w F cx) (R : Rel F ρ σ s) (tk : 1 ≤ s.toks) (hA : Room (n + 1) A) {a : Addr} {st : Stmt} {avs : List AV} {vals : List Value} {Q : AV → St → Prop} (hfn : fnAt a = some st)
    (hl : (fArgs st).args.length = avs.length) (c : concs ρ avs vals) (h : XS n ⟨fScope st, true, σ.hp.length⟩ (fBody st) ⟨((fArgs st).args.map (·.arg)).zip avs, σ.hp⟩ (RetK σ.hp.length σ.loc Q)) :
    wpAny (model pw w) A (call (.ref a) vals) (PE F ρ Q) NoE s := by
  obtain ⟨fd, K⟩ := fnAt_ok w.params hfn
  obtain ⟨o, ho, hd⟩ := K.obj
  have X₀ := G.kin R
  have ho' := R.keep _ _ (X₀ _ _ ho)
  have kp : ∀ b o, F.H.get? b = some o → s.heap.get? b = some o := fun b o e => R.keep b o (R.stat b o e)
  have lc := concs_len c
  refine wpAny_call (codeAny_call_function (by have := hA.depth; (first | lia | omega)) ho' hd (by rw [K.scope]; exact K.plain.1) (by rw [K.scope]; exact K.plain.2.1) K.body ((codeRec_of X₀ K.cod).keeps R.keep) ?_)
  rw [K.bind vals (by (first | lia | omega)), K.clo]
  refine wpAny_pure (wpAny_with_toks (n := s.toks) (Nat.le_refl _) (wpAny_newFunctionEnv_cells (by rw [K.scope]; exact K.plain.2.2) (fun x hx => ?_) fun env he s₁ X htk => ?_))
  · have m := (List.of_mem_zip (show (x.1, x.2) ∈ _ from hx)).1
    obtain ⟨p, hp, e⟩ := List.mem_map.mp m
    rw [K.scope]
    rcases K.pars p hp with q | q
    · exact .inl (e ▸ q)
    · exact .inr ⟨e ▸ q, cellsFrom_some _ _ _ (.inl (e ▸ q))⟩
  · obtain rfl : env = callEnvC fd s.heap.objs.size a := he
    refine ⟨(G.stat.lim.keeps kp).keeps X.toInCall.keep, codeAny_func ?_⟩
    have G' : Good w ⟨F.H, s.heap, callEnvC fd s.heap.objs.size a, ρ.length, fun i => ∃ x, σ.hp[i]? = some x ∧ x.live = true, true, F.g₀, F.os, F.hf⟩ ⟨fScope st, true, σ.hp.length⟩ :=
      ⟨env_ok K X.apart, K.scope, rfl, R.len, G.stat, G.hf⟩
    have R₁ := R.enter (fz := ρ.length) (loc := ((fArgs st).args.map (·.arg)).zip avs) kp (fun _ _ e => e) (fun i a x h1 _ _ h4 => absurd (List.getElem?_eq_some_iff.mp h1).1 (Nat.not_lt.mpr h4)) (Nat.le_refl _) (Nat.le_refl _) X (fun x av e => by
      have b := bind_get (ρ := ρ) (callEnvC fd s.heap.objs.size a).kindOf (fun _ => none) K.nodup (by simpa using hl) c e
      refine ⟨b.1, fun hk => ⟨Option.isSome_iff_exists.mp (cellsFrom_some fd.scope.names (s.heap.objs.size + 1) [] (.inl hk)), b.2 (by rw [hk]; decide)⟩⟩)
    have hroom : Room n (A.deeper (callEnvC fd s.heap.objs.size a)) := ⟨hA.hh, by show A.depth + 1 + n < _; have := hA.depth; (first | lia | omega), by show A.units + 3 + 10 * n + 100 < _; have := hA.units; (first | lia | omega)⟩
    have tk₁ : 1 ≤ s₁.toks := Nat.le_trans tk htk
    refine wpAny_mono (hX _ _ _ _ h _ ρ s₁ _ G' hroom R₁ tk₁) (fun f s' p => ?_) fun _ _ x => x.elim
    have z : PE F ρ Q (flV f) s' := ret_sound R R.fzl rfl (fun _ _ x => x) (fun _ _ e => e) List.prefix_rfl (Nat.le_of_eq R.len) p
    cases f <;> exact z
theorem call_ws (hX : SXS w n) (G : Good w F cx) (R : Rel F ρ σ s) (tk : 1 ≤ s.toks) (hA : Room (n + 2) A) {l : List Nat} {v : Value} {Q : AV → St → Prop} {st : Stmt} (hfn : fnAt wsInit = some st)
    (c : conc ρ (.str l) v) (h : XS n ⟨fScope st, true, σ.hp.length⟩ (fBody st) ⟨[(Str.ofString "self", .ref (σ.hp.length + 1)), (Str.ofString "ws", .str l)], σ.hp ++ [.ns [], .inst wsCls σ.hp.length]⟩
      (RetK (σ.hp.length + 2) σ.loc fun v σ' => v = .none ∧ Q (.ref (σ.hp.length + 1)) σ')) :
    wpAny (model pw w) A (call (.ref wsCls) [v]) (PE F ρ Q) NoE s := by
  obtain ⟨fd, K⟩ := fnAt_ok w.params hfn
  obtain ⟨o, ho, hd⟩ := K.obj
  have X₀ := G.kin R
  have kp : ∀ b o, F.H.get? b = some o → s.heap.get? b = some o := fun b o e => R.keep b o (R.stat b o e)
  have hst : st = inner 9 1 := by
    have : fnAt wsInit = some (inner 9 1) := by unfold fnAt fnRoads wsInit; rfl
    rw [this] at hfn; exact (Option.some.inj hfn).symm
  have hnames : (fArgs st).args.map (·.arg) = [Str.ofString "self", Str.ofString "ws"] := by rw [hst]; decide +kernel
  have R₂ := (R.alloc0 (t := s.toks) (x := .ns []) (o := emptyDict) rfl ⟨[], 0, rfl, rfl⟩).alloc0 (t := s.toks) (x := .inst wsCls σ.hp.length) (o := instObj wsCls s.heap.objs.size) rfl
    ⟨rfl, ⟨s.heap.objs.size, by rw [List.append_assoc, List.getElem?_append_right (by rw [R.len]; exact Nat.le_refl _), R.len]; simp, rfl⟩, rfl, rfl⟩
  dsimp only at R₂
  rw [Heap.size_push] at R₂
  have lr : ((ρ ++ [s.heap.objs.size]) ++ [s.heap.objs.size + 1]).length = σ.hp.length + 2 := by simp [R.len]
  generalize hρ : (ρ ++ [s.heap.objs.size]) ++ [s.heap.objs.size + 1] = ρ₁ at R₂ lr
  have p₁ : ρ <+: ρ₁ := by rw [← hρ, List.append_assoc]; exact List.prefix_append ..
  have cself : conc ρ₁ (.ref (σ.hp.length + 1)) (.ref (s.heap.objs.size + 1)) := ⟨_, rfl, by rw [← hρ, List.getElem?_append_right (by simp [R.len]), ]; simp [R.len]⟩
  have cc : concs ρ₁ [.ref (σ.hp.length + 1), .str l] [.ref (s.heap.objs.size + 1), v] := ⟨_, _, rfl, cself, _, _, rfl, conc_mono p₁ c, rfl⟩
  have low : ∀ (i : Nat) (a : Addr), ρ₁[i]? = some a → ρ.length ≤ i → s.heap.get? a = none := fun i a h1 h2 => by
    have hlt := (List.getElem?_eq_some_iff.mp h1).1
    rw [lr, ← R.len] at hlt
    rw [← hρ, List.append_assoc, List.getElem?_append_right h2] at h1
    have : i - ρ.length = 0 ∨ i - ρ.length = 1 := by (first | lia | omega)
    rcases this with e | e <;> rw [e] at h1 <;> simp at h1 <;> subst h1 <;> exact Heap.get?_none_of_le (by (first | lia | omega))
  obtain ⟨hh, g, d, t, os⟩ := s
  refine wpAny_call (make_core (Y := makes_of (X₀.keeps R.keep) (ws_init w.params).2) (looks_findIn (X₀.keeps R.keep) (ws_init w.params).1) (fun self => bind_fn (X₀.keeps R.keep) self (beq_iff_eq.mp K.fn)) (.inl rfl) ?_)
  have hu := hA.units
  have hdp := hA.depth
  refine codeAny_call_function ?_ (R₂.keep _ _ (X₀ _ _ ho)) hd (by rw [K.scope]; exact K.plain.1) (by rw [K.scope]; exact K.plain.2.1) K.body ((codeRec_of X₀ K.cod).keeps R₂.keep) ?_
  · show A.depth + Code.weight (.builtin "type.__call__" ⟨[.ref wsCls, v], []⟩) < _
    rw [show Code.weight (.builtin "type.__call__" ⟨[.ref wsCls, v], []⟩) = 1 from rfl]; (first | lia | omega)
  rw [show bindArgs fd ⟨[.ref (hh.objs.size + 1), v], []⟩ = pure [(Str.ofString "self", .ref (hh.objs.size + 1)), (Str.ofString "ws", v)] by
    rw [K.bind _ (by have := congrArg List.length hnames; simp at this; simp [this]), hnames]; rfl, K.clo]
  refine wpAny_pure (wpAny_with_toks (n := t) (Nat.le_refl _) (wpAny_newFunctionEnv_cells (by rw [K.scope]; exact K.plain.2.2) (fun x hx => ?_) fun env he s₁ X htk => ?_))
  · have m : x.1 ∈ (fArgs st).args.map (·.arg) := by
      rw [hnames]
      rcases List.mem_cons.mp hx with rfl | hx
      · exact .head _
      · rcases List.mem_cons.mp hx with rfl | hx
        · exact .tail _ (.head _)
        · cases hx
    obtain ⟨p, hp, e⟩ := List.mem_map.mp m
    rw [K.scope]
    rcases K.pars p hp with q | q
    · exact .inl (e ▸ q)
    · exact .inr ⟨e ▸ q, cellsFrom_some _ _ _ (.inl (e ▸ q))⟩
  · obtain rfl : env = callEnvC fd ((hh.push emptyDict).push (instObj wsCls hh.objs.size)).objs.size wsInit := he
    refine ⟨(G.stat.lim.keeps fun b o e => R₂.keep b o (R₂.stat b o e)).keeps X.toInCall.keep, codeAny_func ?_⟩
    have G' : Good w ⟨F.H, hh, callEnvC fd ((hh.push emptyDict).push (instObj wsCls hh.objs.size)).objs.size wsInit, ρ.length, fun i => ∃ x, (σ.hp ++ [.ns []] ++ [.inst wsCls σ.hp.length])[i]? = some x ∧ x.live = true, true, F.g₀, F.os, F.hf⟩ ⟨fScope st, true, σ.hp.length⟩ :=
      ⟨env_ok K X.apart, K.scope, rfl, R.len, G.stat, G.hf⟩
    have R₁ := R₂.enter (fz := ρ.length) (h₀ := hh) (loc := [(Str.ofString "self", .ref (σ.hp.length + 1)), (Str.ofString "ws", .str l)]) kp (fun b o e => Heap.get?_push_of_some _ (Heap.get?_push_of_some _ e)) (fun i a x h1 _ _ h4 => low i a h1 h4) (by show hh.objs.size ≤ ((hh.push emptyDict).push (instObj wsCls hh.objs.size)).objs.size; rw [Heap.size_push, Heap.size_push]; (first | lia | omega)) p₁.length_le X (fun x av e => by
      have b := bind_get (ρ := ρ₁) (callEnvC fd ((hh.push emptyDict).push (instObj wsCls hh.objs.size)).objs.size wsInit).kindOf (ns := [Str.ofString "self", Str.ofString "ws"]) (avs := [.ref (σ.hp.length + 1), .str l]) (fun _ => none) (hnames ▸ K.nodup) rfl cc e
      refine ⟨b.1, fun hk => ⟨Option.isSome_iff_exists.mp (cellsFrom_some fd.scope.names _ [] (.inl hk)), b.2 fun e => by cases hk.symm.trans e⟩⟩)
    have hroom : Room n ((A.under (.builtin "type.__call__" ⟨[.ref wsCls, v], []⟩)).deeper (callEnvC fd ((hh.push emptyDict).push (instObj wsCls hh.objs.size)).objs.size wsInit)) := by
      refine ⟨hA.hh, ?_, ?_⟩
      · show A.depth + Code.weight (.builtin "type.__call__" ⟨[.ref wsCls, v], []⟩) + 1 + n < _
        rw [show Code.weight (.builtin "type.__call__" ⟨[.ref wsCls, v], []⟩) = 1 from rfl]; (first | lia | omega)
      · show A.units + Code.cUnits (.builtin "type.__call__" ⟨[.ref wsCls, v], []⟩) + 3 + 10 * n + 100 < _
        rw [show Code.cUnits (.builtin "type.__call__" ⟨[.ref wsCls, v], []⟩) = 1 from rfl]; (first | lia | omega)
    have tk₁ : 1 ≤ s₁.toks := Nat.le_trans tk htk
    have h' : XS n ⟨fScope st, true, σ.hp.length⟩ (fBody st) ⟨[(Str.ofString "self", .ref (σ.hp.length + 1)), (Str.ofString "ws", .str l)], σ.hp ++ [.ns []] ++ [.inst wsCls σ.hp.length]⟩
      (RetK (σ.hp.length + 2) σ.loc fun v σ' => v = .none ∧ Q (.ref (σ.hp.length + 1)) σ') := by rw [List.append_assoc]; exact h
    refine wpAny_mono (hX _ _ _ _ h' _ ρ₁ s₁ _ G' hroom R₁ tk₁) (fun f s' p => ?_) fun _ _ x => x.elim
    have z := ret_sound R R.fzl rfl (fun i hi ⟨x, h1, h2⟩ => ⟨x, by
      have : i < σ.hp.length := by rw [← R.len]; exact hi
      rw [List.append_assoc, List.getElem?_append_left this] at h1; exact h1, h2⟩) (fun _ _ e => e) p₁ (Nat.le_of_eq lr) p
    have z' : flV f = .none ∧ PE F ρ Q (.ref (hh.objs.size + 1)) s' := by
      obtain ⟨ρ', σ', av, p', R', c', rfl, q⟩ := z
      exact ⟨c', ρ', σ', _, p₁.trans p', R', conc_mono p' cself, q⟩
    cases f <;> exact z'
end
end W58
end
section
open PySem PySem.W PyProof.Rows PySem.Calls PySem.Spec PySem.SeqAt PyProof.V
set_option maxRecDepth 100000
namespace W58
section
variable {w : World} {F : Fm} {cx : Cx} {ρ : List Addr} {σ : St} {s : Shared} {A : Around} {n : Nat}
noncomputable def closeL (cells : List (Str × Addr)) : List (Str × NameKind) → List (Str × Addr) → List (Str × Addr)
  | [], cs => cs
  | (n, k) :: r, cs => closeL cells r (if k == .free then (match cells.lookup n with | some a => (n, a) :: cs | none => cs) else cs)
theorem closure_eq {scope : Scope} {env : Env} (h : ∀ p ∈ scope.names, p.2 = .free → ∃ c, env.cells.lookup p.1 = some c) : closureFor scope env = pure (closeL env.cells scope.names []) := by
  have key : ∀ (l : List (Str × NameKind)) (cs : List (Str × Addr)), (∀ p ∈ l, p.2 = .free → ∃ c, env.cells.lookup p.1 = some c) →
      (forIn l cs fun x r => (do if (x.2 == NameKind.free) = true then do let c ← cellOf env x.1; pure (ForInStep.yield ((x.1, c) :: r)) else pure (ForInStep.yield r) : Sem (ForInStep (List (Str × Addr))))) = (pure (closeL env.cells l cs) : Sem _) := by
    intro l
    induction l with
    | nil => intro cs _; rfl
    | cons p r ih =>
      intro cs hp
      obtain ⟨n, k⟩ := p
      rw [List.forIn_cons]
      by_cases hk : (k == NameKind.free) = true
      · obtain ⟨c, hc⟩ := hp (n, k) (.head _) (beq_iff_eq.mp hk)
        have e1 : cellOf env n = pure c := by unfold cellOf; dsimp only at hc; rw [hc]
        dsimp only
        rw [if_pos hk, e1]
        refine (ih ((n, c) :: cs) fun p hp' => hp p (.tail _ hp')).trans ?_
        dsimp only at hc
        conv => rhs; unfold closeL
        rw [if_pos hk, hc]
      · dsimp only
        rw [if_neg hk]
        refine (ih cs fun p hp' => hp p (.tail _ hp')).trans ?_
        conv => rhs; unfold closeL
        rw [if_neg hk]
  unfold closureFor
  have := key scope.names [] h
  show ((forIn scope.names [] _) >>= fun cs => pure cs) = _
  rw [this]
  rfl
theorem closeL_sub (cells : List (Str × Addr)) : ∀ (l : List (Str × NameKind)) (cs : List (Str × Addr)), (∀ n c, cs.lookup n = some c → cells.lookup n = some c) → ∀ n c, (closeL cells l cs).lookup n = some c → cells.lookup n = some c
  | [], _, h, n, c, e => h n c e
  | (m, k) :: r, cs, h, n, c, e => by
    unfold closeL at e
    refine closeL_sub cells r _ (fun n' c' e' => ?_) n c e
    split at e'
    · split at e'
      · rename_i a ea
        rw [List.lookup_cons] at e'
        split at e'
        · rename_i q; cases e'; rw [beq_iff_eq.mp q]; exact ea
        · exact h n' c' e'
      · exact h n' c' e'
    · exact h n' c' e'
theorem closeL_mono (cells : List (Str × Addr)) : ∀ (l : List (Str × NameKind)) (cs : List (Str × Addr)) (n : Str), (cs.lookup n).isSome = true → ((closeL cells l cs).lookup n).isSome = true
  | [], _, _, h => h
  | (m, k) :: r, cs, n, h => by
    unfold closeL
    refine closeL_mono cells r _ n ?_
    split
    · split
      · rw [List.lookup_cons]; split <;> first | rfl | exact h
      · exact h
    · exact h
theorem closeL_has (cells : List (Str × Addr)) : ∀ (l : List (Str × NameKind)) (cs : List (Str × Addr)) (n : Str) (c : Addr), (n, NameKind.free) ∈ l → cells.lookup n = some c → ((closeL cells l cs).lookup n).isSome = true
  | _ :: r, cs, n, c, .head _, e => by
    unfold closeL
    refine closeL_mono cells r _ n ?_
    rw [if_pos (by rfl), e]
    simp
  | _ :: r, cs, n, c, .tail _ m, e => by unfold closeL; exact closeL_has cells r _ n c m e
theorem relabel_lookup : ∀ (l : List (Str × NameKind)) (x : Str), (l.map fun (n, k) => if k == .free then (n, .cell) else (n, k)).lookup x = some .cell → (∀ p ∈ l, p.2 ≠ .cell) → (x, NameKind.free) ∈ l
  | [], _, h, _ => by cases h
  | (n, k) :: r, x, h, nc => by
    rw [List.map_cons] at h
    by_cases hk : (k == NameKind.free) = true
    · have : k = .free := beq_iff_eq.mp hk
      subst this
      dsimp only at h
      rw [if_pos hk, List.lookup_cons] at h
      split at h
      · rename_i q; rw [beq_iff_eq.mp q]; exact .head _
      · exact .tail _ (relabel_lookup r x h fun p hp => nc p (.tail _ hp))
    · dsimp only at h
      rw [if_neg hk, List.lookup_cons] at h
      split at h
      · cases h; exact absurd rfl (nc (n, .cell) (.head _))
      · exact .tail _ (relabel_lookup r x h fun p hp => nc p (.tail _ hp))
structure CompFacts (F : Fm) (scope : Scope) (x : Str) : Prop where
  kind : scope.kind = .function
  look : scope.names.lookup x = some .local
  nocell : ∀ p ∈ scope.names, p.2 ≠ .cell
  loc : ∀ p ∈ scope.names, p.2 = .local → (p.1 = x ∨ p.1 = dotName) ∧ scope.names.lookup p.1 = some .local
  free : ∀ p ∈ scope.names, p.2 = .free → F.env.kindOf p.1 = some .cell ∧ ∃ c, F.env.cells.lookup p.1 = some c
theorem compFacts (G : Good w F cx) {scope : Scope} {x : Str} (h : compOk cx.sc scope x = true) : CompFacts F scope x := by
  unfold compOk at h
  rw [Bool.and_eq_true, Bool.and_eq_true, List.all_eq_true] at h
  obtain ⟨⟨h1, h2⟩, h3⟩ := h
  refine ⟨beq_iff_eq.mp h1, beq_iff_eq.mp h2, fun p hp e => ?_, fun p hp e => ?_, fun p hp e => ?_⟩
  · have := h3 p hp; rw [e] at this; cases this
  · have := h3 p hp
    rw [e] at this
    dsimp only at this
    rw [Bool.and_eq_true, Bool.or_eq_true] at this
    exact ⟨this.1.imp beq_iff_eq.mp beq_iff_eq.mp, beq_iff_eq.mp this.2⟩
  · have := h3 p hp
    rw [e] at this
    dsimp only at this
    rw [Bool.and_eq_true] at this
    have hk : F.env.kindOf p.1 = some .cell := by rw [lookup_kind G]; exact beq_iff_eq.mp this.2
    exact ⟨hk, G.ok.all _ hk⟩
theorem relabel_same (G : Good w F cx) {scope : Scope} {x : Str} (C : CompFacts F scope x) : relabel scope F.env = relabelA scope := by
  unfold relabel relabelA
  congr 1
  refine List.map_congr_left fun p hp => ?_
  obtain ⟨n, k⟩ := p
  by_cases hk : (k == NameKind.free) = true
  · have h1 := (C.free (n, k) hp (beq_iff_eq.mp hk)).1
    dsimp only at h1
    have h2 : (F.env.scope.kind == ScopeKind.function) = true := by rw [G.ok.kind]; rfl
    dsimp only
    rw [if_pos hk, if_pos]
    rw [hk, h2, h1]; rfl
  · dsimp only
    rw [if_neg hk, if_neg]
    intro q
    rw [Bool.and_eq_true, Bool.and_eq_true] at q
    exact hk q.1.1
noncomputable def STS (w : World) (n : Nat) : Prop := ∀ cx es σ k, TS n cx es σ k → ∀ F ρ s A, Good w F cx → Room n A → Rel F ρ σ s → 1 ≤ s.toks →
  wpAny (model pw w) A (forIn es true fun c r => if r = true then do let ok ← isTrue c F.env (eval c F.env); pure (ForInStep.yield ok) else pure (ForInStep.yield r)) (PT F ρ k) NoE s
theorem ts_sound_of {m : Nat} (hT : ST w m) : STS w (m + 1) := by
  intro cx es σ k h F ρ s A G hA R tk
  unfold TS at h
  split at h
  · exact wpAny_tests_nil ⟨ρ, σ, List.prefix_rfl, R, h⟩
  · exact wpAny_tests_one (hT cx _ σ _ h F ρ s A G (hA.le (Nat.le_succ _)) R tk)
  · exact h.elim
theorem Rel.reloc (R : Rel F ρ σ s) {loc : List (Str × AV)} (h1 : ∀ m, s.heap.Ns F.env.locals m → ∀ x av, loc.lookup x = some av → F.env.kindOf x = some .local → ∃ v, m x = some v ∧ conc ρ av v)
    (h2 : ∀ x av, loc.lookup x = some av → F.env.kindOf x = some .cell → ∃ c o v, F.env.cells.lookup x = some c ∧ s.heap.get? c = some o ∧ o.data = .cell (some v) ∧ conc ρ av v) : Rel F ρ ⟨loc, σ.hp⟩ s :=
  ⟨R.stat, R.keep, R.gens, R.os, let ⟨m, a, _⟩ := R.loc; ⟨m, a, h1 m a⟩, h2, R.cap, R.cown, R.len, R.nodup, R.objs, R.fresh, R.offL, R.L0, R.above, R.fzl, R.low⟩
theorem drop_lookup {x y : Str} {av : AV} : ∀ {l : List (Str × AV)}, (dropN x l).lookup y = some av → l.lookup y = some av ∧ y ≠ x ∧ y ≠ dotName
  | [], h => by cases h
  | (z, a) :: r, h => by
    unfold dropN at h
    rw [List.filter_cons] at h
    by_cases q : (z == x || z == dotName) = true
    · dsimp only at h
      rw [q] at h
      simp only [Bool.not_true, Bool.false_eq_true, if_false] at h
      have ih := drop_lookup (l := r) h
      refine ⟨?_, ih.2⟩
      rw [List.lookup_cons]
      split
      · rename_i e
        rw [beq_iff_eq.mp e] at ih
        rcases (Bool.or_eq_true _ _).mp q with q | q
        · exact absurd (beq_iff_eq.mp q) ih.2.1
        · exact absurd (beq_iff_eq.mp q) ih.2.2
      · exact ih.1
    · have q' : (z == x || z == dotName) = false := by simpa using q
      dsimp only at h
      rw [q'] at h
      simp only [Bool.not_false, if_true] at h
      rw [List.lookup_cons] at h ⊢
      split at h
      · rename_i e
        cases h
        rw [← beq_iff_eq.mp e] at q'
        rw [Bool.or_eq_false_iff] at q'
        exact ⟨rfl, beq_eq_false_iff_ne.mp q'.1, beq_eq_false_iff_ne.mp q'.2⟩
      · exact drop_lookup (l := r) h
theorem relabel_loc : ∀ (l : List (Str × NameKind)) (x : Str), (l.map fun (n, k) => if k == .free then (n, .cell) else (n, k)).lookup x = some .local → (x, NameKind.local) ∈ l
  | [], _, h => by cases h
  | (n, k) :: r, x, h => by
    rw [List.map_cons] at h
    by_cases hk : (k == NameKind.free) = true
    · dsimp only at h
      rw [if_pos hk, List.lookup_cons] at h
      split at h
      · cases h
      · exact .tail _ (relabel_loc r x h)
    · dsimp only at h
      rw [if_neg hk, List.lookup_cons] at h
      split at h
      · rename_i q; cases h; rw [beq_iff_eq.mp q]; exact .head _
      · exact .tail _ (relabel_loc r x h)
/-- the frame of a comprehension -/
noncomputable def compFm (F : Fm) (h₀ : Heap) (fz : Nat) (lo : Nat → Prop) (scope : Scope) (L : Addr) (cl : List (Str × Addr)) : Fm :=
  ⟨F.H, h₀, { scope := relabel scope F.env, locals := L, globals := F.env.globals, cells := cl, qual := F.env.qual, func := none, code := F.env.code, frame := F.env.frame, builtins := F.env.builtins }, fz, lo, false, F.g₀, F.os, F.hf⟩
theorem comp_good (G : Good w F cx) {scope : Scope} {x : Str} (C : CompFacts F scope x) {h₀ : Heap} {fz : Nat} {lo : Nat → Prop} {L : Addr} : Good w (compFm F h₀ fz lo scope L (closeL F.env.cells scope.names [])) ⟨relabelA scope, false, fz⟩ := by
  have hs := relabel_same G C
  refine ⟨⟨G.ok.glob, G.ok.blt, by show (relabel scope F.env).kind = _; rw [hs]; exact C.kind, fun y h => ?_, fun h => by cases h⟩, hs, rfl, rfl, G.stat, G.hf⟩
  have h' : (relabel scope F.env).names.lookup y = some .cell := h
  rw [hs] at h'
  have m := relabel_lookup _ y h' C.nocell
  obtain ⟨_, c, hc⟩ := C.free _ m rfl
  exact Option.isSome_iff_exists.mp (closeL_has _ _ [] y c m hc)
theorem comp_cel (G : Good w F cx) {scope : Scope} {x : Str} (C : CompFacts F scope x) {h₀ : Heap} {fz : Nat} {lo : Nat → Prop} {L : Addr} {ρ₁ ρ' : List Addr} {σ₁ : St} {s₁ s' : Shared} (R₁ : Rel F ρ₁ σ₁ s₁) (p : ρ₁ <+: ρ')
    (k : ∀ b o, s₁.heap.get? b = some o → s'.heap.get? b = some o) {y : Str} {av : AV} (e : (dropN x σ₁.loc).lookup y = some av) (q : (compFm F h₀ fz lo scope L (closeL F.env.cells scope.names [])).env.kindOf y = some .cell) :
    ∃ c o v, (compFm F h₀ fz lo scope L (closeL F.env.cells scope.names [])).env.cells.lookup y = some c ∧ s'.heap.get? c = some o ∧ o.data = .cell (some v) ∧ conc ρ' av v := by
  have h' : (relabel scope F.env).names.lookup y = some .cell := q
  rw [relabel_same G C] at h'
  have m := relabel_lookup _ y h' C.nocell
  obtain ⟨hk, c, hc⟩ := C.free _ m rfl
  obtain ⟨c', o, v, h1, h2, h3, h4⟩ := R₁.cel y av (drop_lookup e).1 hk
  obtain ⟨c'', e2⟩ := Option.isSome_iff_exists.mp (closeL_has F.env.cells scope.names [] y c m hc)
  have e3 := closeL_sub F.env.cells scope.names [] (fun _ _ h => by cases h) y c'' e2
  rw [h1] at e3; cases e3
  exact ⟨_, o, v, e2, k _ _ h2, h3, conc_mono p h4⟩
theorem comp_loc (G : Good w F cx) {scope : Scope} {x : Str} (C : CompFacts F scope x) {h₀ : Heap} {fz : Nat} {lo : Nat → Prop} {L : Addr} {l : List (Str × AV)} {y : Str} {av : AV} (e : (dropN x l).lookup y = some av)
    (q : (compFm F h₀ fz lo scope L (closeL F.env.cells scope.names [])).env.kindOf y = some .local) : False := by
  have h' : (relabel scope F.env).names.lookup y = some .local := q
  rw [relabel_same G C] at h'
  have m := relabel_loc _ y h'
  obtain ⟨_, a, b⟩ := drop_lookup e
  rcases (C.loc _ m rfl).1 with r | r
  · exact a r
  · exact b r
theorem Rel.enterComp (G : Good w F cx) {scope : Scope} {x : Str} (C : CompFacts F scope x) {ρ₁ ρ₃ : List Addr} {σ₁ σ₃ : St} {s₁ s₃ : Shared} (R₁ : Rel F ρ₁ σ₁ s₁) (R₃ : Rel F ρ₃ σ₃ s₃) (p : ρ₁ <+: ρ₃) (k₁ : ∀ b o, s₁.heap.get? b = some o → s₃.heap.get? b = some o)
    (hsz : s₁.heap.objs.size ≤ s₃.heap.objs.size) (hf : ∀ (i : Nat) (a : Addr), ρ₃[i]? = some a → ρ₁.length ≤ i → s₁.heap.get? a = none) {h' : Heap} {t : Nat} {ob : Obj} {m : Str → Option Value} (hn : h'.Ns s₃.heap.objs.size m) (hs : Heap.SameBut s₃.heap.objs.size (s₃.heap.push ob) h') :
    Rel (compFm F s₁.heap ρ₁.length (fun i => ∃ y, σ₃.hp[i]? = some y ∧ y.live = true) scope s₃.heap.objs.size (closeL F.env.cells scope.names [])) ρ₃ ⟨dropN x σ₁.loc, σ₃.hp⟩ { s₃ with heap := h', toks := t } := by
  have k₃ : ∀ b o, s₃.heap.get? b = some o → h'.get? b = some o := fun b o e => hs.extBut b o (Nat.ne_of_lt (Heap.lt_size e)) (Heap.get?_push_of_some _ e)
  have sub := closeL_sub F.env.cells scope.names [] (fun _ _ h => by cases h)
  refine ⟨fun b o e => R₁.keep b o (R₁.stat b o e), fun b o e => k₃ b o (k₁ b o e), R₃.gens, R₃.os, ⟨m, hn, fun y av e q => (comp_loc G C e q).elim⟩, fun y av e q => comp_cel G C R₁ p (fun b o e => k₃ b o (k₁ b o e)) e q, fun y c e => ?_, fun h => (by cases h),
    R₃.len, R₃.nodup, fun i a y h1 h2 => (R₃.objs i a y h1 h2).map fun _ o u v => ⟨o, k₃ _ _ u, v⟩, fun i a y h1 h2 h3 h4 => hf i a h1 h4, fun q => absurd (R₃.lt q) (Nat.lt_irrefl _), ?_, hsz, p.length_le, fun i y _ h2 h3 => ⟨y, h2, h3⟩⟩
  · obtain ⟨h1, h2, o, v, h3, h4⟩ := R₃.cap y c (sub y c e)
    exact ⟨h1, Nat.ne_of_lt (Heap.lt_size h3), o, v, k₃ _ _ h3, h4⟩
  · exact Heap.get?_none_of_le hsz
end
end W58
end
section
open PySem PySem.W PyProof.Rows PySem.Calls PySem.Spec PySem.SeqAt PyProof.V
set_option maxRecDepth 100000
namespace W58
section
variable {w : World} {F : Fm} {cx : Cx} {ρ : List Addr} {σ : St} {s : Shared} {A : Around} {n : Nat}
theorem self_iter (R : Rel F ρ σ s) {j : Nat} {a : Addr} (hj : ρ[j]? = some a) (hn : stepIt σ.hp j ≠ .no) {Q : Value → Shared → Prop} {E : Value → Shared → Prop} (h : Q (.ref a) s) : wpAny (model pw w) A (pyIter (.ref a)) Q E s := by
  revert hn
  generalize hg : stepIt σ.hp j = g
  intro hn
  unfold stepIt at hg
  split at hg
  · rename_i l i e
    obtain ⟨o, ho, ty, t, hc, hty, hd⟩ := R.objs _ _ _ hj e
    rcases hty with rfl | rfl
    · exact wpAny_pyIter_striter_wide (t := t) (i := i) (x := ⟨l.toArray⟩) ⟨o, ho, hc, hd⟩ h
    · exact wpAny_pyIter_striter_ascii (t := t) (i := i) (x := ⟨l.toArray⟩) ⟨o, ho, hc, hd⟩ h
  · rename_i m i e
    obtain ⟨o, ho, hc, al, hal, hd⟩ := R.objs _ _ _ hj e
    exact wpAny_pyIter_listiter (i := i) ⟨o, ho, hc, hd⟩ h
  · rename_i x left st e
    obtain ⟨o, ho, rfl⟩ := R.objs _ _ _ hj e
    exact wpAny_pyIter_rangeiter ho h
  · exact absurd hg.symm hn
theorem pre_get {ρ' : List Addr} {i : Nat} {a : Addr} (p : ρ <+: ρ') (h : ρ[i]? = some a) : ρ'[i]? = some a := by
  obtain ⟨t, rfl⟩ := p
  rw [List.getElem?_append_left (List.getElem?_eq_some_iff.mp h).1]; exact h
/-- a frame of a comprehension that is left: nothing of ours -/
noncomputable def CFree (F : Fm) (ρ : List Addr) (σ : St) (C : Addr) : Prop := F.h₀.get? C = none ∧ ¬ Live ρ σ C ∧ (∀ y, F.env.cells.lookup y ≠ some C) ∧ F.env.locals ≠ C
theorem comp_core (hTS : STS w n) (hE : SE w n) (G : Good w F cx) (tk : 1 ≤ s.toks) (hA : Room n A) {x : Str} {px : Pos} {elt iter : Expr} {ifs : List Expr} {scope : Scope} {pos cpos : Pos} {Q : AV → St → Prop} {use : Option (Value → Sem Unit)} {QQ : Value → Shared → Prop} (ok : compOk cx.sc scope x = true)
    (hi : wpAny (model pw w) A (eval iter F.env) (PE F ρ fun v σ₁ => mkIter v σ₁ fun j σ₂ => compWp (n + 1) ⟨relabelA scope, false, j⟩ x elt ifs j σ₂.hp.length σ₂.loc { σ₂ with hp := σ₂.hp ++ [.plist []] } Q) NoE s)
    (hset : ∀ v, foldedSetIterable iter F.env v = pure v)
    (hfin : ∀ ρ' σ' d a s₅ C, 1 ≤ s₅.toks → ρ <+: ρ' → Rel F ρ' σ' s₅ → ρ'[d]? = some a → Q (.ref d) σ' → CFree F ρ' σ' C → (∃ m, s₅.heap.Ns C m) → compPost (model pw w) A NoE use QQ (.ref a) C (.ok .next) s₅) :
    wpAny (model pw w) A (comprehension (.ListComp elt [⟨.Name x px, iter, ifs, 0⟩] scope pos) scope F.env cpos (newList []) false (eval iter F.env) use) QQ NoE s := by
  have C := compFacts G ok
  have hk : kindIn (relabelA scope) x = some .local := by
    have := lookup_relabel_local (env := F.env) C.look
    show (relabelA scope).names.lookup x = _
    rw [← relabel_same G C]; exact this
  refine wpAny_comprehension_free (use := use) (g := ⟨.Name x px, iter, ifs, 0⟩) (gs := []) (cl := closeL F.env.cells scope.names []) rfl hset (closure_eq fun p hp e => (C.free p hp e).2) C.kind (fun y hy e => (C.loc y hy e).2) ?_
  refine PE.seq tk hi fun ρ₁ σ₁ v u s₁ tk₁ p₁ R₁ c₁ h₁ => ?_
  refine wp_seqT tk₁ (iter_sound R₁ c₁ h₁) fun it s₂ tk₂ ⟨e1, oi, xi, e2, hl, R₂, h₂⟩ => ?_
  subst e1 e2
  refine wpAny_newList ?_ (by simp [sizeLine_eq])
  have R₃ := R₂.alloc0 (t := s₁.toks) (x := .plist []) (o := { cls := .type "list", data := .seq ([] : List Value).toArray }) rfl ⟨#[], 0, rfl, rfl⟩
  refine wpAny_newFunctionEnv C.nocell (by intro y hy; cases hy) (fun h' hns hsb => ?_) C.kind
  dsimp only at R₃ hns hsb ⊢
  rw [Heap.size_push] at R₃
  have R₄ := Rel.enterComp G C R₁ R₃ (by rw [List.append_assoc]; exact List.prefix_append ..) (fun b o e => Heap.get?_push_of_some _ (Heap.get?_push_of_some _ e)) (by simp only [Heap.size_push]; (first | lia | omega)) (fun i a h1 h2 => by
    rw [List.append_assoc, List.getElem?_append_right h2] at h1
    have hlt := (List.getElem?_eq_some_iff.mp h1).1
    simp at hlt
    have : i - ρ₁.length = 0 ∨ i - ρ₁.length = 1 := by (first | lia | omega)
    rcases this with e | e <;> rw [e] at h1 <;> simp at h1 <;> subst h1 <;> exact Heap.get?_none_of_le (by (first | lia | omega))) (t := s₁.toks + ([] : List (Str × Value)).length) hns hsb
  have hD : ((ρ₁ ++ [s₁.heap.objs.size]) ++ [s₁.heap.objs.size + 1])[ρ₁.length + 1]? = some (s₁.heap.objs.size + 1) := by
    rw [List.getElem?_append_right (by simp)]; simp
  have hI : ((ρ₁ ++ [s₁.heap.objs.size]) ++ [s₁.heap.objs.size + 1])[ρ₁.length]? = some s₁.heap.objs.size := by
    rw [List.append_assoc, List.getElem?_append_right (Nat.le_refl _)]; simp
  have l₃ : ((ρ₁ ++ [s₁.heap.objs.size]) ++ [s₁.heap.objs.size + 1]).length = ρ₁.length + 2 := by simp
  have p₁₃ : ρ₁ <+: (ρ₁ ++ [s₁.heap.objs.size]) ++ [s₁.heap.objs.size + 1] := by rw [List.append_assoc]; exact List.prefix_append ..
  generalize hρ : (ρ₁ ++ [s₁.heap.objs.size]) ++ [s₁.heap.objs.size + 1] = ρ₃ at R₄ hD hI l₃ p₁₃
  have hlen : (σ₁.hp ++ [xi]).length = ρ₁.length + 1 := by simp [R₁.len]
  have hj0 : σ₁.hp.length = ρ₁.length := R₁.len.symm
  dsimp only at h₂
  rw [hlen, hj0] at h₂
  have lo₁ : ∀ i, i < ρ₁.length → (∃ y, (σ₁.hp ++ [xi] ++ [.plist []])[i]? = some y ∧ y.live = true) → ∃ y, σ₁.hp[i]? = some y ∧ y.live = true := fun i hi ⟨y, h1, h2⟩ => ⟨y, by
    rw [List.append_assoc, List.getElem?_append_left (by rw [hj0]; exact hi)] at h1; exact h1, h2⟩
  generalize hlo : (fun (i : Nat) => ∃ y : AO, (σ₁.hp ++ [xi] ++ [AO.plist []])[i]? = some y ∧ y.live = true) = lo at R₄
  replace lo₁ : ∀ i, i < ρ₁.length → lo i → ∃ y, σ₁.hp[i]? = some y ∧ y.live = true := by rw [← hlo]; exact lo₁
  have Gc : Good w (compFm F s₁.heap ρ₁.length lo scope ((s₁.heap.push oi).push { cls := .type "list", data := .seq ([] : List Value).toArray }).objs.size (closeL F.env.cells scope.names [])) ⟨relabelA scope, false, ρ₁.length⟩ := comp_good G C
  have hCs : s₁.heap.objs.size ≤ ((s₁.heap.push oi).push { cls := .type "list", data := .seq ([] : List Value).toArray }).objs.size := by simp only [Heap.size_push]; (first | lia | omega)
  generalize hL : ((s₁.heap.push oi).push { cls := .type "list", data := .seq ([] : List Value).toArray }).objs.size = L at R₄ Gc hCs hns hsb ⊢
  unfold compWp at h₂
  obtain ⟨I, ⟨k₀, hk₀⟩, hturn⟩ := h₂
  have noNo : ∀ k hp, I k hp → stepIt hp ρ₁.length ≠ .no := fun k hp hI e => by have := hturn k hp hI; rw [e] at this; exact this
  have loop : codeAny (model pw w) A (.compLoop (.ListComp elt [⟨.Name x px, iter, ifs, 0⟩] scope pos) 0 (.ref s₁.heap.objs.size) (.ref (s₁.heap.objs.size + 1)) (compFm F s₁.heap ρ₁.length lo scope L (closeL F.env.cells scope.names [])).env)
      (compPost (model pw w) A NoE use QQ (.ref (s₁.heap.objs.size + 1)) L) { s₁ with heap := h', toks := s₁.toks + ([] : List (Str × Value)).length } := by
    refine codeAny_compLoop_tests (I := fun k s => ∃ ρ' hp l, ρ₃ <+: ρ' ∧ Rel (compFm F s₁.heap ρ₁.length lo scope L (closeL F.env.cells scope.names [])) ρ' ⟨l, hp⟩ s ∧ I k hp ∧ 1 ≤ s.toks) (fun k s ⟨ρ', hp, l, p', R', hIk, tk'⟩ => ?_) k₀ ⟨ρ₃, _, _, List.prefix_rfl, R₄, hk₀, tk₁⟩
    have hh := hturn k hp hIk
    have hne := noNo k hp hIk
    have R'' := R'.reloc (loc := dropN x σ₁.loc) (fun m _ y av e q => (comp_loc G C e q).elim) (fun y av e q => comp_cel G C R₁ (p₁₃.trans p') R'.keep e q)
    have weak : ∀ {ρ₆ : List Addr} {l : List (Str × AV)} {hp₆ hp' : List AO} {s₆ : Shared}, ρ₃ <+: ρ₆ → Rel (compFm F s₁.heap ρ₁.length lo scope L (closeL F.env.cells scope.names [])) ρ₆ ⟨l, hp₆⟩ s₆ → 1 ≤ s₆.toks → (hp' = hp₆ ∨ ∃ l, Wk (ρ₁.length + 1 + 1) ⟨[], hp₆⟩ ⟨l, hp'⟩) → ∀ m, I m hp' →
        ∃ ρ' hp l, ρ₃ <+: ρ' ∧ Rel (compFm F s₁.heap ρ₁.length lo scope L (closeL F.env.cells scope.names [])) ρ' ⟨l, hp⟩ s₆ ∧ I m hp ∧ 1 ≤ s₆.toks := by
      intro ρ₆ l hp₆ hp' s₆ p₆ R₆ tk₆ h m hm
      rcases h with rfl | ⟨l', W⟩
      · exact ⟨ρ₆, _, l, p₆, R₆, hm, tk₆⟩
      · have R₇ := (R₆.reloc (loc := []) (fun _ _ _ _ e _ => by cases e) (fun _ _ e _ => by cases e)).weak W (by show ρ₁.length ≤ _; (first | lia | omega))
        exact ⟨_, hp', l', pre_take p₆ (by rw [l₃]; exact W.lo), R₇, hm, tk₆⟩
    refine wp_seqT tk' (next_sound hA R'' (pre_get p' hI) (Nat.le_refl _) hne) fun r s₅ tk₅ hr => ?_
    unfold NextIs at hr
    dsimp only at hr
    revert hh hr
    cases stepIt hp ρ₁.length with
    | no => exact fun h => h.elim
    | fin =>
      intro hh ⟨hr, R₅⟩
      subst hr
      obtain ⟨m, hm, _⟩ := R₅.loc
      obtain ⟨m₁, hm₁, _⟩ := R₁.loc
      have R₆ : Rel F ρ' ⟨σ₁.loc, hp.set ρ₁.length .any⟩ s₅ := R₁.leave (p₁₃.trans p') (Nat.le_refl _) R₁.fzl lo₁ R₁.keep ⟨m₁, hm₁, hm₁⟩ (fun _ _ _ _ e => e) R₅
      have hLL : F.env.locals < s₁.heap.objs.size := by obtain ⟨o, ho⟩ := R₁.locals_some; exact Heap.lt_size ho
      refine hfin ρ' _ (ρ₁.length + 1) _ s₅ L tk₅ (p₁.trans (p₁₃.trans p')) R₆ (pre_get p' hD) hh ⟨?_, R₅.offL, fun y e => ?_, Nat.ne_of_lt (Nat.lt_of_lt_of_le hLL hCs)⟩ ⟨m, hm⟩
      · cases q : F.h₀.get? L with
        | none => rfl
        | some o => exact absurd (Heap.lt_size (R₁.keep _ _ q)) (Nat.not_lt.mpr hCs)
      · obtain ⟨_, _, o, _, ho, _⟩ := R₁.cap y L e
        exact absurd (Heap.lt_size ho) (Nat.not_lt.mpr hCs)
    | item v o =>
      intro hh ⟨u, hr, cu, R₅⟩
      subst hr
      dsimp only
      refine wpAny_assign_Name (PU.seq tk₅ (set_sound (Q := fun σ => σ = ⟨upd x v (dropN x σ₁.loc), hp.set ρ₁.length o⟩) Gc R₅ cu (by unfold setVar; rw [hk]; rfl)) fun ρ₆ σ₆ _ s₆ tk₆ p₆ R₆ h₆ => ?_)
      subst h₆
      refine PT.seq tk₆ (hTS _ _ _ _ hh _ ρ₆ s₆ A Gc hA R₆ tk₆) fun ρ₇ σ₇ b s₇ tk₇ p₇ R₇ h₇ => ?_
      cases b with
      | false =>
        obtain ⟨m, hp', hm, hw, hI'⟩ := h₇
        exact ⟨m, hm, weak (p'.trans (p₆.trans p₇)) R₇ tk₇ hw m hI'⟩
      | true =>
        dsimp only at h₇ ⊢
        rw [if_pos rfl]
        refine PE.seq tk₇ (hE _ _ _ _ h₇ _ ρ₇ s₇ A Gc hA R₇ tk₇) fun ρ₈ σ₈ y yv s₈ tk₈ p₈ R₈ cy h₈ => ?_
        split at h₈
        · rename_i ys ey
          obtain ⟨hly, m, hp', hm, hw, hI'⟩ := h₈
          have pD := p'.trans (p₆.trans (p₇.trans p₈))
          obtain ⟨ob, ho, ws, kk, rfl, c1⟩ := R₈.objs _ _ _ (pre_get pD hD) ey
          have l1 := concs_len c1
          simp only [Array.length_toList] at l1
          refine wpAny_list_append_plain ⟨_, ho⟩ (fun h₉ ⟨k', ho'⟩ hs => ⟨m, hm, ?_⟩) (by rw [sizeLine_eq]; (first | lia | omega))
          refine weak (l := σ₈.loc) pD (R₈.put (t := s₈.toks) (x := .plist (ys ++ [y])) (pre_get pD hD) ey rfl (by show ρ₁.length ≤ _; (first | lia | omega)) ho' ⟨_, _, rfl, ?_⟩ fun b hb => hs.2 b hb) tk₈ hw m hI'
          rw [Array.toList_push]
          exact concs_append c1 ⟨yv, [], rfl, cy, rfl⟩
        · exact h₈.elim
  have e9 : (s₁.heap.push oi).objs.size = s₁.heap.objs.size + 1 := Heap.size_push ..
  rw [e9]
  refine codeAny_compStart_list loop (self_iter R₄ hI (noNo k₀ _ hk₀) ?_)
  exact loop
theorem Rel.freed (R : Rel F ρ σ s) {C : Addr} {h' : Heap} (c : CFree F ρ σ C) (hs : Heap.SameBut C s.heap h') : Rel F ρ σ { s with heap := h' } :=
  R.grow (t := s.toks) [C] (h' := h') (fun b o hb _ e => (hs.2 b (by simpa using hb)).trans e) (fun m hm => hm.sameBut hs c.2.2.2) (fun a ha => by
    rw [List.mem_singleton] at ha
    subst ha
    exact ⟨c.1, c.2.1, c.2.2.1⟩)
theorem comp_sound (hTS : STS w n) (hE : SE w n) (G : Good w F cx) (tk : 1 ≤ s.toks) (hA : Room n A) {x : Str} {px : Pos} {elt iter : Expr} {ifs : List Expr} {scope : Scope} {pos : Pos} {Q : AV → St → Prop} (ok : compOk cx.sc scope x = true)
    (hi : wpAny (model pw w) A (eval iter F.env) (PE F ρ fun v σ₁ => mkIter v σ₁ fun j σ₂ => compWp (n + 1) ⟨relabelA scope, false, j⟩ x elt ifs j σ₂.hp.length σ₂.loc { σ₂ with hp := σ₂.hp ++ [.plist []] } Q) NoE s)
    (hset : ∀ v, foldedSetIterable iter F.env v = pure v) : wpAny (model pw w) A (eval (.ListComp elt [⟨.Name x px, iter, ifs, 0⟩] scope pos) F.env) (PE F ρ Q) NoE s := by
  rw [eval_ListComp]
  refine comp_core hTS hE G tk hA ok hi hset fun ρ' σ' d a s₅ C _ p R hd hq c ⟨m, hm⟩ => ⟨m, hm, fun h₆ hs₆ => ?_⟩
  exact ⟨ρ', σ', .ref d, p, R.freed c hs₆, ⟨_, rfl, hd⟩, hq⟩
end
end W58
end
section
open PySem PySem.W PyProof.Rows PySem.Calls PySem.Spec PySem.SeqAt PyProof.V
set_option maxRecDepth 100000
namespace W58
section
variable {w : World} {F : Fm} {cx : Cx} {ρ : List Addr} {σ : St} {s : Shared} {A : Around} {n : Nat}
theorem star_any {env : Env} {pos : Pos} : ∀ {es : List Expr}, es.all noStar = true → (backTo pos (starEach es env)).any (·.1) = false
  | [], _ => rfl
  | e :: es, h => by
    rw [List.all_cons, Bool.and_eq_true] at h
    rw [star_cons h.1, List.any_cons, star_any h.2]; rfl
theorem star_all {env : Env} {pos : Pos} : ∀ {es : List Expr}, es.all noStar = true → (backTo pos (starEach es env)).all (!·.1) = true
  | [], _ => rfl
  | e :: es, h => by
    rw [List.all_cons, Bool.and_eq_true] at h
    rw [star_cons h.1, List.all_cons, star_all h.2]; rfl
theorem evalArgs_any {M : Model} {f : Value} {env : Env} {pos : Pos} {es : List Expr} {E : Value → Shared → Prop} {Q : Args → Shared → Prop} (h : es.all noStar = true)
    (k : wpAny M A (spliced (backTo pos (starEach es env))) (fun vs s' => Q ⟨vs, []⟩ s') E s) : wpAny M A (evalArgs f true (backTo pos (starEach es env)) []) Q E s := by
  cases es with
  | nil =>
    unfold evalArgs
    show wpAny M A (spliced [] >>= _) Q E s
    refine wpAny_bind (wpAny_mono k (fun vs s' h' => ?_) fun _ _ x => x)
    refine wpAny_bind (wpAny_pure ?_)
    refine wpAny_holding ?_
    exact wpAny_bind (wpAny_pure (wpAny_bind (wpAny_pure (wpAny_pure h'))))
  | cons e es =>
    rw [List.all_cons, Bool.and_eq_true] at h
    rw [star_cons h.1] at k ⊢
    exact evalArgs_plain k
noncomputable def Keeps1 (w : World) (h : Heap) (f : Value) : Prop := ∃ k, (k = Keeper.frame ∨ k = Keeper.machine ∨ k = Keeper.boundFrame) ∧ Looks (model pw w) h (keeperOf f) k
theorem callWith_sound (tk : 1 ≤ s.toks) {f : Value} {first : List Value} {args : List Expr} {pos : Pos} {P : List AV → St → Prop} {Q : Value → Shared → Prop} (hs : args.all noStar = true)
    (hL : wpAny (model pw w) A (spliced (backTo pos (starEach args F.env))) (PEL F ρ P) NoE s)
    (k : ∀ ρ' σ' avs vs s', 1 ≤ s'.toks → ρ <+: ρ' → Rel F ρ' σ' s' → concs ρ' avs vs → P avs σ' → Keeps1 w s'.heap f ∧ wpAny (model pw w) A (call f (first ++ vs)) Q NoE s') :
    wpAny (model pw w) A (callWith pos f first (backTo pos (starEach args F.env)) []) Q NoE s := by
  refine callWith_of (P := fun h => Keeps1 w h f) (by rw [star_any hs]; rfl) (fun _ x => x) (evalArgs_any hs (PEL.seq tk hL fun ρ' σ' avs vs s' tk' p R c h => ?_))
  exact k ρ' σ' avs vs s' tk' p R c h
theorem keep_builtin {h : Heap} (f : String) : Keeps1 w h (.builtin f) := ⟨.machine, .inr (.inl rfl), .now⟩
theorem keep_type {h : Heap} (f : String) : Keeps1 w h (.type f) := ⟨.machine, .inr (.inl rfl), .now⟩
theorem keep_fn {h : Heap} {a : Addr} (X : (kf w.params).In h) (e : keepIn (kf w.params) (.ref a) = true) : Keeps1 w h (.ref a) := keeps_K e h X
noncomputable def SEO (w : World) (n : Nat) : Prop := ∀ cx e σ Q, EO n cx e σ Q → ∀ F ρ s A, Good w F cx → Room n A → Rel F ρ σ s → 1 ≤ s.toks → wpAny (model pw w) A (evalPart e F.env) (PE F ρ Q) NoE s
theorem eo_sound_of {m : Nat} (hE : SE w m) : SEO w (m + 1) := by
  intro cx e σ Q h F ρ s A G hA R tk
  unfold EO at h
  cases e with
  | none => exact evalPart_none_step (PE.none R h)
  | some e => exact evalPart_some_step (hE cx e σ _ h F ρ s A G (hA.le (Nat.le_succ _)) R tk)
noncomputable def SAp (w : World) (n : Nat) : Prop := ∀ f args σ Q, Ap n f args σ Q → ∀ cx F ρ s A fv vals, Good w F cx → Room (n + 1) A → Rel F ρ σ s → 1 ≤ s.toks → conc ρ f fv → concs ρ args vals → Keeps1 w s.heap fv ∧ wpAny (model pw w) A (call fv vals) (PE F ρ Q) NoE s
theorem blt_keep {f : Value} {args : List AV} {σ : St} {Q : AV → St → Prop} {h : Heap} (hb : Blt f args σ Q) : Keeps1 w h f := by
  cases hb <;> first | exact keep_builtin _ | exact keep_type _
theorem ap_sound_of {m : Nat} (hX : SXS w m) : SAp w (m + 1) := by
  intro f args σ Q h cx F ρ s A fv vals G hA R tk cf ca
  have X := (G.kin R).keeps R.keep
  cases f <;> try exact False.elim h
  case con f =>
  cases cf
  have other : Blt fv args σ Q → Keeps1 w s.heap fv ∧ wpAny (model pw w) A (call fv vals) (PE F ρ Q) NoE s := fun h => ⟨blt_keep h, blt_sound G.hf hA R ca h⟩
  cases fv <;> try exact other h
  case ref a =>
  clear other
  by_cases ea : a = wsCls
  · subst ea
    unfold Ap at h
    dsimp only at h
    rw [if_pos rfl] at h
    cases args with
    | nil => exact False.elim h
    | cons x args =>
    cases x <;> try exact False.elim h
    case str l =>
    cases args with
    | cons => exact False.elim h
    | nil =>
    obtain ⟨v, r, rfl, cv, rfl⟩ := ca
    have h : (match fnAt wsInit with
            | some st => XS m ⟨fScope st, true, σ.hp.length⟩ (fBody st) ⟨[(Str.ofString "self", .ref (σ.hp.length + 1)), (Str.ofString "ws", .str l)], σ.hp ++ [.ns [], .inst wsCls σ.hp.length]⟩
                (RetK (σ.hp.length + 2) σ.loc fun v σ' => v = .none ∧ Q (.ref (σ.hp.length + 1)) σ')
            | none => False) := h
    cases hst : fnAt wsInit with
    | none => rw [hst] at h; exact False.elim h
    | some st =>
      rw [hst] at h
      exact ⟨keep_fn X (ws_keep w.params), call_ws hX G R tk hA hst cv h⟩
  · unfold Ap at h
    dsimp only at h
    rw [if_neg ea] at h
    have h : (match fnAt a with
        | some st => ((fArgs st).args.length = args.length) ∧ XS m ⟨fScope st, true, σ.hp.length⟩ (fBody st) ⟨((fArgs st).args.map (·.arg)).zip args, σ.hp⟩ (RetK σ.hp.length σ.loc Q)
        | none => False) := h
    cases hst : fnAt a with
    | none => rw [hst] at h; exact False.elim h
    | some st =>
      rw [hst] at h
      obtain ⟨fd, K⟩ := fnAt_ok w.params hst
      exact ⟨keep_fn X K.keep, call_fn hX G R tk (hA.le (Nat.le_succ _)) hst h.1 ca h.2⟩
noncomputable def SApM (w : World) (n : Nat) : Prop := ∀ mk args σ Q cx, ApM n cx.fz mk args σ Q → ∀ F ρ s A fv first vals, Good w F cx → Room (n + 1) A → Rel F ρ σ s → 1 ≤ s.toks →
  (match mk with | .bi f self => ∃ v, (fv, first) = (Value.builtin f, [v]) ∧ conc ρ self v | .fn a self => ∃ v, (fv, first) = (Value.ref a, [v]) ∧ conc ρ self v) → concs ρ args vals → Keeps1 w s.heap fv ∧ wpAny (model pw w) A (call fv (first ++ vals)) (PE F ρ Q) NoE s
theorem apm_sound_of {m : Nat} (hAp : SAp w m) : SApM w (m + 1) := by
  intro mk args σ Q cx h F ρ s A fv first vals G hA R tk hm ca
  cases mk
  · obtain ⟨v, e, c⟩ := hm
    cases e
    rw [← G.fz] at h
    exact ⟨keep_builtin _, bltm_sound hA R c ca h⟩
  · obtain ⟨v, e, c⟩ := hm
    cases e
    exact hAp _ _ σ Q h cx F ρ s A _ _ G (hA.le (Nat.le_succ _)) R tk rfl ⟨v, vals, rfl, c, ca⟩
theorem base_plain {o : Expr} {name : Str} {env : Env} {whole : Sem Value} (h : notSuper o = true) : attributeBase o name env whole = whole := by
  cases o <;> try rfl
  rename_i f args kws p
  cases f <;> try rfl
  cases args <;> try rfl
  cases kws <;> first | rfl | cases h
theorem rpl_sound (R : Rel F ρ σ s) (tk : 1 ≤ s.toks) {l : List Nat} {t : Nat} {p q : Str} {kp kq : Nat} {pp pq pos : Pos} {Q : AV → St → Prop} (h : (p ≠ q ∧ l.length + (l.length + 1) * q.length ≤ 2 ^ 24) ∧ Q (.str (Txt.replace ⟨l.toArray⟩ p q).cps.toList) σ) :
    wpAny (model pw w) A (callWith pos (.builtin "str.replace") [.str ⟨l.toArray⟩ t] (backTo pos (starEach [.Constant (.str p) kp pp, .Constant (.str q) kq pq] F.env)) []) (PE F ρ Q) NoE s := by
  refine callWith_of (P := fun h => Keeps1 w h (.builtin "str.replace")) rfl (fun _ x => x) (evalArgs_any rfl ?_)
  refine spliced_cons (wpAny_Constant_str (k := kp) (pos := pp) (spliced_cons (wpAny_Constant_str (k := kq) (pos := pq) (spliced_nil ?_))))
  refine ⟨keep_builtin _, SC.replace (Nat.ne_of_gt tk) (Nat.succ_ne_zero _) (Nat.ne_of_lt (Nat.lt_succ_self _)) (beq_eq_false_iff_ne.mpr h.1.1) ?_ fun t' k => PE.str (R.tok _) ?_ h.2⟩
  · have := h.1.2; simpa [Str.length] using this
  · rfl
end
end W58
end
section
open PySem PySem.W PyProof.Rows PySem.Calls PySem.Spec PySem.SeqAt PyProof.V
set_option maxRecDepth 100000
namespace W58
section
variable {w : World} {F : Fm} {cx : Cx} {ρ : List Addr} {σ : St} {s : Shared} {A : Around} {n : Nat}
structure AllE (w : World) (n : Nat) : Prop where
  e : SE w n
  el : SEL w n
  eo : SEO w n
  t : ST w n
  tb : STB w n
  eb : SEB w n
  ts : STS w n
  ap : SAp w n
  apm : SApM w n
theorem notSet {n : Nat} {cx : Cx} {e : Expr} {σ : St} {Q : AV → St → Prop} (h : E n cx e σ Q) (env : Env) (v : Value) : foldedSetIterable e env v = pure v := by
  cases n with
  | zero => exact False.elim h
  | succ n => cases e <;> first | rfl | (exact False.elim h)
theorem met_sound {m : Nat} (I : AllE w m) (G : Good w F cx) (hA : Room (m + 1) A) (R : Rel F ρ σ s) (tk : 1 ≤ s.toks) {o : Expr} {name : Str} {args : List Expr} {apos pos : Pos} {Q : AV → St → Prop}
    (h : (notSuper o = true ∧ apos.endLine = pos.line ∧ args.length < 30 ∧ args.all noStar = true) ∧ E m cx o σ fun a σ => Mth a name σ fun mk => (match Rpl mk args with
          | some (l, p, q) => (p ≠ q ∧ l.length + (l.length + 1) * q.length ≤ 2 ^ 24) ∧ Q (.str (Txt.replace ⟨l.toArray⟩ p q).cps.toList) σ
          | none => EL m cx args σ fun vs σ => ApM m cx.fz mk vs σ Q)) :
    wpAny (model pw w) A (eval (.Call (.Attribute o name apos) args [] pos) F.env) (PE F ρ Q) NoE s := by
  have hA' := hA.le (Nat.le_succ m)
  obtain ⟨⟨hns, hline, hfew, hstar⟩, h⟩ := h
  rw [arm_eval_Call, base_plain hns]
  refine wpAny_bind (PE.seq tk (I.e cx _ σ _ h F ρ s A G hA' R tk) fun ρ₁ σ₁ a v s₁ tk₁ p₁ R₁ c₁ h₁ => wpAny_bind (wpAny_standAt ?_))
  have hform : methodCallForm (args.length + ([] : List Keyword).length) (backTo pos (starEach args F.env)) (backToKw pos (keywordEach [] F.env)) = true := by
    unfold methodCallForm
    rw [star_all hstar, show backToKw pos (keywordEach [] F.env) = [] from rfl]
    simpa using hfew
  have hpos : methodCallPos true o F.env apos pos = pure pos := by unfold methodCallPos; simp [hline]
  unfold methodCall
  rw [hform]
  refine wpAny_bind (wpAny_holding (wp_seqT (M := model pw w) tk₁ (mth_sound (E := NoE) G R₁ c₁ h₁) fun fs s₂ tk₂ ⟨e, mk, hmk, hfs⟩ => ?_))
  subst e
  refine wpAny_bind (wpAny_of_eq hpos ?_)
  obtain ⟨f, first⟩ := fs
  dsimp only at hmk
  split at hmk
  · rename_i l p q hr
    unfold Rpl at hr
    split at hr
    · obtain ⟨l', hl, hr⟩ := Option.bind_eq_some_iff.mp hr
      obtain ⟨p', hp, hr⟩ := Option.bind_eq_some_iff.mp hr
      obtain ⟨q', hq, hr⟩ := Option.bind_eq_some_iff.mp hr
      have hl := strOf_some hl
      obtain ⟨kp, pp, hp⟩ := litOf_some hp
      obtain ⟨kq, pq, hq⟩ := litOf_some hq
      subst hl hp hq
      split at hr
      · rename_i ef
        subst ef
        cases hr
        obtain ⟨v', e, t, rfl⟩ := hfs
        cases e
        exact wp_pre p₁ (rpl_sound R₁ tk₁ hmk)
      · cases hr
    · cases hr
  · refine wp_pre p₁ (callWith_sound tk₁ hstar (I.el cx _ σ₁ _ hmk F ρ₁ s₂ A G hA' R₁ tk₁ _) fun ρ₂ σ₂ as vs s₃ tk₃ p₂ R₂ c₂ h₂ => ?_)
    have := I.apm mk as σ₂ Q cx h₂ F ρ₂ s₃ A f first vs G hA R₂ tk₃ (by
      cases mk with
      | bi f' self => obtain ⟨v', e, c⟩ := hfs; exact ⟨v', e, conc_mono p₂ c⟩
      | fn a' self => obtain ⟨v', e, c⟩ := hfs; exact ⟨v', e, conc_mono p₂ c⟩) c₂
    exact ⟨this.1, wp_pre p₂ this.2⟩
theorem sli_sound {m : Nat} (I : AllE w m) (G : Good w F cx) (hA' : Room m A) (R : Rel F ρ σ s) (tk : 1 ≤ s.toks) {v : Expr} {lo up st : Option Expr} {p q : Pos} {Q : AV → St → Prop}
    (h : E m cx v σ fun a σ => EO m cx lo σ fun lo σ => EO m cx up σ fun up σ => EO m cx st σ fun sv σ => SliceGate st a lo up sv σ Q) :
    wpAny (model pw w) A (eval (.Subscript v (.Slice lo up st p) q) F.env) (PE F ρ Q) NoE s := by
  refine Subscript_ (PE.seq tk (I.e cx _ σ _ h F ρ s A G hA' R tk) fun ρ₁ σ₁ a v s₁ tk₁ p₁ R₁ c₁ h₁ => ?_)
  refine wpAny_Slice (PE.seq tk₁ (I.eo cx _ σ₁ _ h₁ F ρ₁ s₁ A G hA' R₁ tk₁) fun ρ₂ σ₂ l x s₂ tk₂ p₂ R₂ c₂ h₂ => ?_)
  refine PE.seq tk₂ (I.eo cx _ σ₂ _ h₂ F ρ₂ s₂ A G hA' R₂ tk₂) fun ρ₃ σ₃ u y s₃ tk₃ p₃ R₃ c₃ h₃ => ?_
  cases st with
  | none =>
    cases m with
    | zero => exact False.elim h₃
    | succ m' =>
      unfold EO at h₃
      dsimp only at h₃
      exact evalPart_none_step (wp_pre (p₁.trans (p₂.trans p₃)) (slice_sound R₃ (conc_mono (p₂.trans p₃) c₁) (conc_mono p₃ c₂) c₃ (k := .none) rfl (fun _ => rfl) h₃))
  | some e =>
    refine PE.seq tk₃ (I.eo cx _ σ₃ _ h₃ F ρ₃ s₃ A G hA' R₃ tk₃) fun ρ₄ σ₄ k z s₄ tk₄ p₄ R₄ c₄ h₄ => ?_
    exact wp_pre (p₁.trans (p₂.trans (p₃.trans p₄))) (slice_sound R₄ (conc_mono (p₂.trans (p₃.trans p₄)) c₁) (conc_mono (p₃.trans p₄) c₂) (conc_mono p₄ c₃) c₄ (fun q => by cases q) h₄)
theorem lc_sound {m : Nat} (ih : ∀ k, k ≤ m → AllE w k) (G : Good w F cx) (hA : Room (m + 1) A) (R : Rel F ρ σ s) (tk : 1 ≤ s.toks) {elt : Expr} {gens : List Comprehension} {scope : Scope} {p : Pos} {Q : AV → St → Prop}
    (h : E (m + 1) cx (.ListComp elt gens scope p) σ Q) : wpAny (model pw w) A (eval (.ListComp elt gens scope p) F.env) (PE F ρ Q) NoE s := by
  cases gens with
  | nil => exact False.elim h
  | cons g gs =>
  obtain ⟨t, it, ifs, k⟩ := g
  cases t <;> try exact False.elim h
  case Name x px =>
  cases k with
  | negSucc => exact False.elim h
  | ofNat k =>
  cases k with
  | succ => exact False.elim h
  | zero =>
  cases gs with
  | cons => exact False.elim h
  | nil =>
  cases m with
  | zero => exact False.elim h.2
  | succ m' =>
    have I' := ih m' (Nat.le_succ _)
    exact comp_sound I'.ts I'.e G tk (hA.le (Nat.le_add_right _ 2)) h.1 ((ih (m' + 1) (Nat.le_refl _)).e cx _ σ _ h.2 F ρ s A G (hA.le (Nat.le_succ _)) R tk) (notSet h.2 F.env)
theorem e_sound_of {m : Nat} (ih : ∀ k, k ≤ m → AllE w k) : SE w (m + 1) := by
  intro cx e σ Q h F ρ s A G hA R tk
  have hA' := hA.le (Nat.le_succ m)
  have I := ih m (Nat.le_refl _)
  cases e
  case Constant c k p => exact const_sound R h
  case Name x p =>
    have h : x ≠ debugName ∧ getVar cx x σ Q := h
    exact get_sound G R h.1 h.2
  case BinOp l op r p =>
    have h : E m cx l σ fun a σ => E m cx r σ fun b σ => Bin op a b σ Q := h
    refine wpAny_BinOp (PE.seq tk (I.e cx _ σ _ h F ρ s A G hA' R tk) fun ρ₁ σ₁ a v s₁ tk₁ p₁ R₁ c₁ h₁ => ?_)
    refine PE.seq tk₁ (I.e cx _ σ₁ _ h₁ F ρ₁ s₁ A G hA' R₁ tk₁) fun ρ₂ σ₂ b u s₂ tk₂ p₂ R₂ c₂ h₂ => ?_
    exact wp_pre (p₁.trans p₂) (bin_sound hA R₂ (conc_mono p₂ c₁) c₂ h₂)
  case UnaryOp op x p =>
    cases op <;> try exact False.elim h
    have h : E m cx x σ fun a σ => (match a with | .int i => Q (.int (-i)) σ | _ => False) := h
    refine wpAny_UnaryOp (PE.seq tk (I.e cx _ σ _ h F ρ s A G hA' R tk) fun ρ₁ σ₁ a v s₁ tk₁ p₁ R₁ c₁ h₁ => ?_)
    cases a <;> first | exact False.elim h₁ | skip
    obtain ⟨t, rfl⟩ := c₁
    exact PyProof.Rows.neg_int ((PE.int (R₁.tok _) h₁).pre p₁)
  case Compare l ops rs p =>
    cases ops with
    | nil => exact False.elim h
    | cons op ops =>
    cases ops with
    | cons => exact False.elim h
    | nil =>
    cases rs with
    | nil => exact False.elim h
    | cons r rs =>
    cases rs with
    | cons => exact False.elim h
    | nil =>
    have h : behindInMarks op r = false ∧ E m cx l σ fun a σ => E m cx r σ fun b σ => Cmp op a b σ fun c => Q (.bool c) σ := h
    refine wpAny_Compare1 (PE.seq tk (I.e cx _ σ _ h.2 F ρ s A G hA' R tk) fun ρ₁ σ₁ a v s₁ tk₁ p₁ R₁ c₁ h₁ => ?_) h.1
    refine PE.seq tk₁ (I.e cx _ σ₁ _ h₁ F ρ₁ s₁ A G hA' R₁ tk₁) fun ρ₂ σ₂ b u s₂ tk₂ p₂ R₂ c₂ h₂ => ?_
    exact cmp_sound hA G.b1 R₂ (conc_mono p₂ c₁) c₂ h₂ fun c t hc => (PE.bool (R₂.tok t) hc).pre (p₁.trans p₂)
  case BoolOp op es p =>
    cases op <;> try exact False.elim h
    exact I.eb cx es σ Q h F ρ s A _ G hA' R tk
  case IfExp t b o p =>
    have h : W58.T m cx t σ fun c σ => (match c with | true => E m cx b σ Q | false => E m cx o σ Q) := h
    refine wpAny_IfExp (PT.seq tk (I.t cx _ σ _ h F ρ s A G hA' R tk) fun ρ₁ σ₁ b s₁ tk₁ p₁ R₁ h₁ => ?_)
    cases b with
    | true => exact wp_pre p₁ (I.e cx _ σ₁ _ h₁ F ρ₁ s₁ A G hA' R₁ tk₁)
    | false => exact wp_pre p₁ (I.e cx _ σ₁ _ h₁ F ρ₁ s₁ A G hA' R₁ tk₁)
  case List es p =>
    have h : EL m cx es σ fun vs σ => vs.length < 2 ^ 20 ∧ alloc (.plist vs) σ Q := h
    refine List_ (PEL.seq tk (I.el cx _ σ _ h F ρ s A G hA' R tk _) fun ρ₁ σ₁ as vs s₁ tk₁ p₁ R₁ c₁ h₁ => ?_)
    exact wp_pre p₁ (list_sound R₁ c₁ h₁)
  case Tuple es c p =>
    have h : EL m cx es σ fun vs σ => vs.length < 2 ^ 20 ∧ alloc (.tup vs) σ Q := h
    refine Tuple_ (PEL.seq tk (I.el cx _ σ _ h F ρ s A G hA' R tk _) fun ρ₁ σ₁ as vs s₁ tk₁ p₁ R₁ c₁ h₁ => ?_)
    exact wp_pre p₁ (tuple_sound R₁ c₁ h₁)
  case Call f args kws pos =>
    cases f <;> try exact False.elim h
    all_goals (cases kws <;> try exact False.elim h)
    case Name.nil x q =>
      have h : args.all noStar = true ∧ E m cx (.Name x q) σ fun fv σ => EL m cx args σ fun vs σ => Ap m fv vs σ Q := h
      refine Call_Name rfl (PE.seq tk (I.e cx _ σ _ h.2 F ρ s A G hA' R tk) fun ρ₁ σ₁ a v s₁ tk₁ p₁ R₁ c₁ h₁ => ?_)
      refine wp_pre p₁ (callWith_sound tk₁ h.1 (I.el cx _ σ₁ _ h₁ F ρ₁ s₁ A G hA' R₁ tk₁ _) fun ρ₂ σ₂ as vs s₃ tk₃ p₂ R₂ c₂ h₂ => ?_)
      have := I.ap a as σ₂ Q h₂ cx F ρ₂ s₃ A v vs G hA R₂ tk₃ (conc_mono p₂ c₁) c₂
      exact ⟨this.1, wp_pre p₂ this.2⟩
    case Attribute.nil o name apos =>
      exact met_sound I G hA R tk h
  case Attribute v name pos =>
    have h : notSuper v = true ∧ E m cx v σ fun a σ => Att a name σ Q := h
    rw [arm_eval_Attribute, base_plain h.1]
    refine wpAny_bind (PE.seq tk (I.e cx _ σ _ h.2 F ρ s A G hA' R tk) fun ρ₁ σ₁ a v s₁ tk₁ p₁ R₁ c₁ h₁ => wpAny_bind (wpAny_standAt ?_))
    refine wpAny_bind (wpAny_holding (wp_seqT (E := NoE) tk₁ (att_sound G R₁ c₁ h₁) fun r s₂ tk₂ hq => ?_))
    exact wpAny_bind (wpAny_letTemporaryGo (wpAny_pure (hq.pre p₁)))
  case Subscript v i p =>
    have d : (E m cx v σ fun a σ => E m cx i σ fun i σ => Sub a i σ Q) → wpAny (model pw w) A (eval (.Subscript v i p) F.env) (PE F ρ Q) NoE s := fun h => by
      refine Subscript_ (PE.seq tk (I.e cx _ σ _ h F ρ s A G hA' R tk) fun ρ₁ σ₁ a v s₁ tk₁ p₁ R₁ c₁ h₁ => ?_)
      refine PE.seq tk₁ (I.e cx _ σ₁ _ h₁ F ρ₁ s₁ A G hA' R₁ tk₁) fun ρ₂ σ₂ i u s₂ tk₂ p₂ R₂ c₂ h₂ => ?_
      exact wp_pre (p₁.trans p₂) (sub_sound G.hf R₂ (conc_mono p₂ c₁) c₂ h₂)
    cases i <;> try exact d h
    case Slice lo up st q => exact sli_sound I G hA' R tk h
  case ListComp elt gens scope p =>
    exact lc_sound ih G hA R tk h
  all_goals exact False.elim h
end
end W58
end
section
open PySem PySem.W PyProof.Rows PySem.Calls PySem.Spec PySem.SeqAt PyProof.V
set_option maxRecDepth 100000
namespace W58
section
variable {w : World} {F : Fm} {cx : Cx} {ρ : List Addr} {σ : St} {s : Shared} {A : Around} {n : Nat}
noncomputable def SAsn (w : World) (n : Nat) : Prop := ∀ cx t av σ Q, Asn n cx t av σ Q → asnT t = true → ∀ F ρ s A u, Good w F cx → Room n A → Rel F ρ σ s → 1 ≤ s.toks → conc ρ av u → wpAny (model pw w) A (assign t F.env u) (PU F ρ Q) NoE s
noncomputable def SAsnL (w : World) (n : Nat) : Prop := ∀ cx ts av σ Q, AsnL n cx ts av σ Q → ts.all asnT = true → ∀ F ρ s A u, Good w F cx → Room n A → Rel F ρ σ s → 1 ≤ s.toks → conc ρ av u → wpAny (model pw w) A (assignAll u ((assignEach ts F.env).map (·.2))) (PU F ρ Q) NoE s
theorem asnEach_cons {t : Expr} {ts : List Expr} {env : Env} (h : asnT t = true) : assignEach (t :: ts) env = (false, assign t env) :: assignEach ts env := by
  cases t <;> first | rfl | exact Bool.noConfusion h
theorem names_sound (G : Good w F cx) {ts : List Expr} : ∀ {xs : List AV} {σ : St} {Q : St → Prop} {ρ : List Addr} {vs : List Value} {s : Shared}, setNames cx ts xs σ Q → Rel F ρ σ s → concs ρ xs vs → 1 ≤ s.toks →
    wpAny (model pw w) A (assignInOrder ((assignEach ts F.env).map (·.2)) vs) (PU F ρ Q) NoE s := by
  induction ts with
  | nil =>
    intro xs σ Q ρ vs s h R c tk
    cases xs with
    | cons => exact False.elim h
    | nil => cases c; exact wpAny_pure ⟨_, _, List.prefix_rfl, R, h⟩
  | cons t ts ih =>
    intro xs σ Q ρ vs s h R c tk
    cases xs with
    | nil => cases t <;> exact False.elim h
    | cons v xs =>
    cases t <;> try exact False.elim h
    case Name x p =>
    have h : setVar cx x v σ fun σ => setNames cx ts xs σ Q := h
    obtain ⟨u, vs, rfl, c1, c2⟩ := c
    show wpAny _ _ (do holding vs (assign (.Name x p) F.env u); assignInOrder ((assignEach ts F.env).map (·.2)) vs) _ _ _
    refine wpAny_bind (wpAny_holding (wpAny_assign_Name (PU.seq tk (set_sound G R c1 h) fun ρ₁ σ₁ _ s₁ tk₁ p₁ R₁ h₁ => ?_)))
    exact wp_preU p₁ (ih h₁ R₁ (concs_mono p₁ c2) tk₁)
theorem setVar_any {x : Str} {v : AV} {σ : St} {P : St → Prop} (h : setVar cx x v σ P) : ∃ σ, P σ := by
  unfold setVar at h
  cases hk : kindIn cx.sc x with
  | none => rw [hk] at h; exact False.elim h
  | some k =>
    rw [hk] at h
    cases k <;> first | exact ⟨_, h⟩ | exact ⟨_, And.right h⟩ | exact False.elim h
theorem setNames_len {ts : List Expr} : ∀ {xs : List AV} {σ : St} {Q : St → Prop}, setNames cx ts xs σ Q → ts.length = xs.length := by
  induction ts with
  | nil =>
    intro xs σ Q h
    cases xs with
    | nil => rfl
    | cons => exact False.elim h
  | cons t ts ih =>
    intro xs σ Q h
    cases xs with
    | nil => cases t <;> exact False.elim h
    | cons v xs =>
    cases t <;> try exact False.elim h
    case Name x p =>
    obtain ⟨σ', h'⟩ := setVar_any h
    exact congrArg Nat.succ (ih h')
theorem each_names {env : Env} {ts : List Expr} (h : ts.all (fun e => match e with | .Name _ _ => true | _ => false) = true) : (assignEach ts env).length = ts.length ∧ (assignEach ts env).findIdx? (·.1) = none := by
  induction ts with
  | nil => exact ⟨rfl, rfl⟩
  | cons t ts ih =>
    rw [List.all_cons, Bool.and_eq_true] at h
    obtain ⟨i1, i2⟩ := ih h.2
    have h := h.1
    cases t <;> try exact Bool.noConfusion h
    refine ⟨congrArg Nat.succ i1, ?_⟩
    show (((false, _) :: assignEach ts env).findIdx? (·.1)) = none
    rw [List.findIdx?_cons, i2]; rfl
theorem asn_sound_of {m : Nat} (hE : SE w m) : SAsn w (m + 1) := by
  intro cx t av σ Q h ht F ρ s A u G hA R tk c
  have hA' := hA.le (Nat.le_succ m)
  cases t <;> try exact False.elim h
  case Name x p => exact wpAny_assign_Name (set_sound G R c h)
  case Attribute o name p =>
    have h : E m cx o σ fun ov σ => SetAtt cx.fz ov name av σ Q := h
    rw [arm_assign_Attribute]
    refine wpAny_bind (wpAny_holding (PE.seq tk (hE cx _ σ _ h F ρ s A G hA' R tk) fun ρ₁ σ₁ ov o s₁ tk₁ p₁ R₁ c₁ h₁ => ?_))
    rw [← G.fz] at h₁
    refine wpAny_bind (wpAny_standAt (wpAny_bind (wpAny_holding (PU.seq tk₁ (setAtt_sound G R₁ c₁ (conc_mono p₁ c) h₁) fun ρ₂ σ₂ _ s₂ tk₂ p₂ R₂ h₂ => wpAny_release ?_))))
    exact ⟨ρ₂, σ₂, p₁.trans p₂, R₂, h₂⟩
  case Subscript o i p =>
    have h : E m cx o σ fun ov σ => E m cx i σ fun iv σ => SetSub cx.fz ov iv av σ Q := h
    rw [arm_assign_Subscript]
    refine wpAny_bind (wpAny_holding (PE.seq tk (hE cx _ σ _ h F ρ s A G hA' R tk) fun ρ₁ σ₁ ov o s₁ tk₁ p₁ R₁ c₁ h₁ => ?_))
    refine wpAny_bind (wpAny_holding (PE.seq tk₁ (hE cx _ σ₁ _ h₁ F ρ₁ s₁ A G hA' R₁ tk₁) fun ρ₂ σ₂ iv i s₂ tk₂ p₂ R₂ c₂ h₂ => ?_))
    rw [← G.fz] at h₂
    refine wpAny_bind (wpAny_standAt (wpAny_bind (wpAny_holding (PU.seq tk₂ (setSub_sound R₂ (conc_mono p₂ c₁) c₂ (conc_mono (p₁.trans p₂) c) h₂) fun ρ₃ σ₃ _ s₃ tk₃ p₃ R₃ h₃ => wpAny_release ?_))))
    exact ⟨ρ₃, σ₃, p₁.trans (p₂.trans p₃), R₃, h₃⟩
  case Tuple ts k p =>
    cases av <;> try exact False.elim h
    case ref r =>
    have h : (match σ.hp[r]? with | some (.tup xs) => setNames cx ts xs σ Q | _ => False) := h
    cases e : σ.hp[r]? with
    | none => rw [e] at h; exact False.elim h
    | some o =>
    rw [e] at h
    cases o <;> try exact False.elim h
    case tup xs =>
    have h : setNames cx ts xs σ Q := h
    obtain ⟨a, rfl, ha⟩ := c
    obtain ⟨vs, T, c1⟩ := R.tup ha e
    have l0 := each_names (env := F.env) ht
    have l2 := concs_len c1
    rw [Array.length_toList] at l2
    refine assign_Tuple_tuple hA.hh T (l0.1.trans ((setNames_len h).trans l2.symm)) l0.2 fun h' he => ?_
    exact names_sound G h (R.grow0 (h' := h') (t := s.toks) fun b o e => he b o (Nat.ne_of_lt (Heap.lt_size e)) e) c1 tk
theorem asnL_sound_of {m : Nat} (hT : SAsn w m) (hL : SAsnL w m) : SAsnL w (m + 1) := by
  intro cx ts av σ Q h ht F ρ s A u G hA R tk c
  have hA' := hA.le (Nat.le_succ m)
  cases ts with
  | nil => exact wpAny_pure ⟨_, _, List.prefix_rfl, R, h⟩
  | cons t ts =>
    have h : Asn m cx t av σ fun σ => AsnL m cx ts av σ Q := h
    rw [List.all_cons, Bool.and_eq_true] at ht
    rw [asnEach_cons ht.1]
    have first := hT cx t av σ _ h ht.1 F ρ s A u G hA' R tk c
    cases ts with
    | nil =>
      show wpAny _ _ (assign t F.env u) _ _ _
      refine PU.seq tk first fun ρ₁ σ₁ _ s₁ tk₁ p₁ R₁ h₁ => ?_
      cases m with
      | zero => exact False.elim h₁
      | succ m' => exact ⟨ρ₁, σ₁, p₁, R₁, h₁⟩
    | cons t' ts =>
      have e : (assignEach (t' :: ts) F.env).map (·.2) = assign t' F.env :: (assignEach ts F.env).map (·.2) := by
        rw [List.all_cons, Bool.and_eq_true] at ht
        rw [asnEach_cons ht.2.1]; rfl
      show wpAny _ _ (assignAll u (assign t F.env :: (assignEach (t' :: ts) F.env).map (·.2))) _ _ _
      rw [e]
      show wpAny _ _ (do holding [u] (assign t F.env u); assignAll u (assign t' F.env :: (assignEach ts F.env).map (·.2))) _ _ _
      rw [← e]
      refine wpAny_bind (wpAny_holding (PU.seq tk first fun ρ₁ σ₁ _ s₁ tk₁ p₁ R₁ h₁ => ?_))
      exact wp_preU p₁ (hL cx (t' :: ts) av σ₁ Q h₁ ht.2 F ρ₁ s₁ A u G hA' R₁ tk₁ (conc_mono p₁ c))
end
end W58
end
section
open PySem PySem.W PyProof.Rows PySem.Calls PySem.Spec PySem.SeqAt PyProof.V
set_option maxRecDepth 100000
namespace W58
section
variable {w : World} {F : Fm} {cx : Cx} {ρ : List Addr} {σ : St} {s : Shared} {A : Around} {n : Nat}
theorem blockFn (G : Good w F cx) : F.env.blockKind = .function := by
  unfold Env.blockKind
  rw [G.ok.kind]; rfl
noncomputable def noSD : Expr → Bool
  | .SetComp .. => false
  | .DictComp .. => false
  | _ => true
theorem e_noSD {n : Nat} {e : Expr} {Q : AV → St → Prop} (h : E n cx e σ Q) : noSD e = true := by
  cases n with
  | zero => exact False.elim h
  | succ n => cases e <;> first | rfl | (exact False.elim h)
theorem sw_cases {value : Expr} (ts : List Expr) (line : Nat) (env : Env) (hv : noSD value = true) : swapsWithSole ts value line env = pure false ∨
    ∃ y py elt gens scope pos, ts = [.Name y py] ∧ value = .ListComp elt gens scope pos ∧ swapsWith value (some (.Name y py)) line env = pure true ∧ env.kindOf y = some .local := by
  by_cases hc : ∃ elt gens scope pos, value = .ListComp elt gens scope pos
  · obtain ⟨elt, gens, scope, pos, rfl⟩ := hc
    match ts with
    | [] => exact .inl rfl
    | _ :: _ :: _ => exact .inl rfl
    | [t] =>
      cases t <;> first | exact .inl rfl | skip
      rename_i y py
      have e : swapsWith (.ListComp elt gens scope pos) (some (.Name y py)) line env = pure (env.blockKind == .function && env.kindOf y == some .local && py.line == (Expr.ListComp elt gens scope pos).pos.line
        && !(scope.names.any fun (n, k) => n == y && (k == .local || k == .cell))) := rfl
      cases hb : (env.blockKind == .function && env.kindOf y == some .local && py.line == (Expr.ListComp elt gens scope pos).pos.line
        && !(scope.names.any fun (n, k) => n == y && (k == .local || k == .cell))) with
      | false => rw [hb] at e; exact .inl e
      | true =>
        rw [hb] at e
        rw [Bool.and_eq_true, Bool.and_eq_true, Bool.and_eq_true] at hb
        exact .inr ⟨y, py, elt, gens, scope, pos, rfl, rfl, e, by simpa using hb.1.1.2⟩
  · left
    match ts with
    | [] => rfl
    | _ :: _ :: _ => rfl
    | [t] => cases value <;> first | rfl | (cases hv; done) | exact absurd ⟨_, _, _, _, rfl⟩ hc
theorem nameOn_same (G : Good w F cx) (line : Nat) (e : Expr) : (match e with | .Name id pos => if F.env.kindOf id == some .local && pos.line == line then some id else none | _ => none) = nameOn cx line e := by
  cases e <;> first | rfl | skip
  unfold nameOn
  dsimp only
  rw [lookup_kind G]
theorem filterMap_names (G : Good w F cx) (line : Nat) (ts : List Expr) : (ts.filterMap fun e => match e with | .Name id pos => if F.env.kindOf id == some .local && pos.line == line then some id else none | _ => none) = ts.filterMap (nameOn cx line) := by
  congr 1
  funext e
  exact nameOn_same G line e
theorem star_any' (vs : List Expr) : (vs.any fun | .Starred .. => true | _ => false) = !vs.all noStar := by
  induction vs with
  | nil => rfl
  | cons v vs ih =>
    rw [List.any_cons, List.all_cons, ih, Bool.not_and]
    cases v <;> rfl
theorem swapped_eq (G : Good w F cx) {ts : List Expr} {v : Expr} (hT : ts.all asnT = true) (h : swBad cx ts v = false) : swappedStores ts v F.env = pure none ∨
    ∃ es vs k k' p p', ts = [.Tuple es k p] ∧ v = .Tuple vs k' p' ∧ swappedStores ts v F.env = pure (some (es.filterMap (nameOn cx (headLine es)))) ∧ swCand cx es vs = true ∧
      (es.filterMap (nameOn cx (headLine es))).eraseDups.length = (es.filterMap (nameOn cx (headLine es))).length := by
  by_cases hc : ∃ es k p vs k' p', ts = [.Tuple es k p] ∧ v = .Tuple vs k' p'
  · obtain ⟨es, k, p, vs, k', p', rfl, rfl⟩ := hc
    unfold swappedStores
    dsimp only
    erw [filterMap_names G, blockFn G, star_any']
    unfold swBad at h
    rw [Bool.and_eq_false_iff] at h
    change _ ∨ _ at h
    by_cases c1 : (!(es.length == 2 || es.length == 3) || vs.length != es.length || ScopeKind.function != .function) = true
    · rw [if_pos c1]; exact .inl rfl
    rw [if_neg c1]
    by_cases c2 : (!vs.all noStar) = true
    · rw [if_pos c2]; exact .inl rfl
    rw [if_neg c2]
    show _ = _ ∨ _
    rw [show (Option.map (fun x : Expr => x.pos.line) es.head?).getD 0 = headLine es from rfl]
    by_cases c3 : ((es.filterMap (nameOn cx (headLine es))).length != es.length) = true
    · rw [c3, Bool.true_or, if_pos rfl]; exact .inl rfl
    have hcand : swCand cx es vs = true := by
      unfold swCand
      simp only [Bool.or_eq_true, bne_iff_ne, ne_eq, Bool.not_eq_true', not_or, Bool.not_eq_false, Decidable.not_not, beq_iff_eq, Bool.and_eq_true] at c1 c2 c3 ⊢
      exact ⟨⟨⟨c1.1.1, c1.1.2⟩, c2⟩, c3⟩
    have h2 := h.resolve_left (by rw [hcand]; decide)
    rw [Bool.or_eq_false_iff, Bool.or_eq_false_iff] at h2
    obtain ⟨⟨h3, h4⟩, h5⟩ := h2
    rw [show ((es.filterMap (nameOn cx (headLine es))).length != es.length) = false from Bool.eq_false_iff.mpr c3, h3, h4, h5]
    exact .inr ⟨es, vs, k, k', p, p', rfl, rfl, rfl, hcand, by simpa using h3⟩
  · left
    match ts, hT, hc with
    | [], _, _ => rfl
    | a :: _ :: _, _, _ => cases a <;> first | rfl | (cases v <;> rfl)
    | [t], hT, hc =>
      cases t <;> first | rfl | (rw [List.all_cons, Bool.and_eq_true] at hT; cases hT.1; done) | skip
      cases v <;> first | rfl | exact absurd ⟨_, _, _, _, _, _, rfl, rfl⟩ hc
end
end W58
end
section
open PySem PySem.W PyProof.Rows PySem.Calls PySem.Spec PySem.SeqAt PyProof.V
set_option maxRecDepth 100000
namespace W58
section
variable {w : World} {F : Fm} {cx : Cx} {ρ : List Addr} {σ : St} {s : Shared} {A : Around} {n : Nat}
theorem set_local {x : Str} {v : AV} {σ : St} {Q : St → Prop} (hk : kindIn cx.sc x = some .local) (h : setVar cx x v σ Q) : Q { σ with loc := upd x v σ.loc } := by
  unfold setVar at h; rw [hk] at h; exact h
theorem store_local (G : Good w F cx) (R : Rel F ρ σ s) {x : Str} {v : Value} {av : AV} (hk : kindIn cx.sc x = some .local) (c : conc ρ av v) {Q : Unit → Shared → Prop}
    (h : ∀ s', Rel F ρ { σ with loc := upd x av σ.loc } s' → Q () s') : wpAny (model pw w) A (storeName F.env x v) Q NoE s := by
  obtain ⟨m, h1, _⟩ := R.loc
  have hk' : F.env.kindOf x = some .local := (lookup_kind G x).trans hk
  refine wpAny_storeName_local hk' h1 (fun h' hn hs => h _ (R.setL hk' c (fun m' hm' => ?_) hn hs)) (by rw [G.ok.kind]; rfl)
  rw [Ns_same h1 hm']
theorem Rel.swap (R : Rel F ρ σ s) {loc : List (Str × AV)} (h : ∀ x, loc.lookup x = σ.loc.lookup x) : Rel F ρ { σ with loc := loc } s :=
  ⟨R.stat, R.keep, R.gens, R.os, let ⟨m, a, b⟩ := R.loc; ⟨m, a, fun x av e q => b x av ((h x).symm.trans e) q⟩, fun x av e q => R.cel x av ((h x).symm.trans e) q, R.cap, R.cown, R.len, R.nodup, R.objs, R.fresh, R.offL, R.L0, R.above, R.fzl, R.low⟩
theorem nameOn_some {line : Nat} {e : Expr} {x : Str} (h : nameOn cx line e = some x) : ∃ p, e = .Name x p ∧ kindIn cx.sc x = some .local := by
  cases e <;> try exact none_some h
  case Name y p =>
  have h : (if kindIn cx.sc y == some .local && p.line == line then some y else none) = some x := h
  cases hc : (kindIn cx.sc y == some .local && p.line == line) with
  | false => rw [hc] at h; exact none_some h
  | true =>
    rw [hc] at h
    cases h
    rw [Bool.and_eq_true] at hc
    exact ⟨p, rfl, beq_iff_eq.mp hc.1⟩
theorem filterMap_full {α β : Type} {f : α → Option β} : ∀ {l : List α}, (l.filterMap f).length = l.length → ∀ (i : Nat) (x : α), l[i]? = some x → ∃ y, f x = some y ∧ (l.filterMap f)[i]? = some y
  | [], _, i, x, e => by simp at e
  | a :: l, h, i, x, e => by
    rw [List.filterMap_cons] at h ⊢
    cases ha : f a with
    | none => rw [ha] at h; have := List.length_filterMap_le f l; simp only [List.length_cons] at h; (first | lia | omega)
    | some b =>
      rw [ha] at h
      simp only [List.length_cons, Nat.add_right_cancel_iff] at h
      cases i with
      | zero => cases e; exact ⟨b, ha, rfl⟩
      | succ i => exact filterMap_full h i x e
theorem dups_le : ∀ (n : Nat) (l : List Str), l.length ≤ n → l.eraseDups.length ≤ l.length
  | _, [], _ => by simp
  | 0, _ :: _, h => by simp at h
  | n + 1, a :: l, h => by
    rw [List.eraseDups_cons, List.length_cons, List.length_cons]
    have h1 := List.length_filter_le (fun b => !b == a) l
    have h2 := dups_le n (l.filter fun b => !b == a) (by simp only [List.length_cons] at h; (first | lia | omega))
    (first | lia | omega)
theorem dups_nodup : ∀ (l : List Str), l.eraseDups.length = l.length → l.Nodup
  | [], _ => List.nodup_nil
  | a :: l, h => by
    rw [List.eraseDups_cons, List.length_cons, List.length_cons] at h
    have h1 := List.length_filter_le (fun b => !b == a) l
    have h2 := dups_le _ (l.filter fun b => !b == a) (Nat.le_refl _)
    have h3 : (l.filter fun b => !b == a).length = l.length := by (first | lia | omega)
    have h4 : l.filter (fun b => !b == a) = l := List.filter_eq_self.mpr (List.length_filter_eq_length_iff.mp h3)
    rw [h4] at h
    refine List.nodup_cons.mpr ⟨fun m => ?_, dups_nodup l (by (first | lia | omega))⟩
    have := List.filter_eq_self.mp h4 a m
    simp at this
theorem setVar_mono {x : Str} {v : AV} {σ : St} {P P' : St → Prop} (hp : ∀ σ, P σ → P' σ) (h : setVar cx x v σ P) : setVar cx x v σ P' := by
  unfold setVar at h ⊢
  cases hk : kindIn cx.sc x with
  | none => rw [hk] at h; exact False.elim h
  | some k =>
    rw [hk] at h
    cases k <;> first | exact hp _ h | exact ⟨h.1, hp _ h.2⟩ | exact False.elim h
theorem names_mono : ∀ {es : List Expr} {xs : List AV} {σ : St} {P P' : St → Prop}, (∀ σ, P σ → P' σ) → setNames cx es xs σ P → setNames cx es xs σ P' := by
  intro es
  induction es with
  | nil => intro xs σ P P' hp h; cases xs with
    | nil => exact hp _ h
    | cons => exact False.elim h
  | cons t es ih =>
    intro xs σ P P' hp h
    cases xs with
    | nil => cases t <;> (exact False.elim h)
    | cons x xs =>
      cases t <;> first | (exact False.elim h) | skip
      exact setVar_mono (fun σ h => ih hp h) h
theorem tup_names {m : Nat} {es : List Expr} {k : Nat} {p : Pos} {a : AV} {U : St → Prop} (h₁ : AsnL m cx [.Tuple es k p] a σ U) : ∃ m xs, a = .ref m ∧ σ.hp[m]? = some (.tup xs) ∧ setNames cx es xs σ U := by
  cases m with
  | zero => exact False.elim h₁
  | succ m =>
    cases m with
    | zero => exact False.elim h₁
    | succ m =>
      cases a <;> try exact False.elim h₁
      case ref r =>
      have h₁ : (match σ.hp[r]? with | some (.tup xs) => setNames cx es xs σ fun σ => AsnL (m + 1) cx [] (.ref r) σ U | _ => False) := h₁
      cases e : σ.hp[r]? with
      | none => rw [e] at h₁; exact False.elim h₁
      | some o =>
      rw [e] at h₁
      cases o <;> try exact False.elim h₁
      case tup xs => exact ⟨r, xs, rfl, e, names_mono (fun σ h => h) h₁⟩
theorem asn_one {m : Nat} {y : Str} {py : Pos} {a : AV} {U : St → Prop} (hk : kindIn cx.sc y = some .local) (h : AsnL m cx [.Name y py] a σ U) : U { σ with loc := upd y a σ.loc } := by
  cases m with
  | zero => exact False.elim h
  | succ m =>
  cases m with
  | zero => exact False.elim h
  | succ m => exact set_local hk h
theorem set2 {x1 x2 : Str} {q1 q2 : Pos} (k1 : kindIn cx.sc x1 = some .local) (k2 : kindIn cx.sc x2 = some .local) {xs : List AV} {U : St → Prop} (h : setNames cx [.Name x1 q1, .Name x2 q2] xs σ U) :
    ∃ y1 y2, xs = [y1, y2] ∧ U { σ with loc := upd x2 y2 (upd x1 y1 σ.loc) } := by
  cases xs with
  | nil => exact False.elim h
  | cons y1 xs =>
  have h := set_local k1 h
  cases xs with
  | nil => exact False.elim h
  | cons y2 xs =>
  have h := set_local k2 h
  cases xs with
  | nil => exact ⟨y1, y2, rfl, h⟩
  | cons => exact False.elim h
theorem set3 {x1 x2 x3 : Str} {q1 q2 q3 : Pos} (k1 : kindIn cx.sc x1 = some .local) (k2 : kindIn cx.sc x2 = some .local) (k3 : kindIn cx.sc x3 = some .local) {xs : List AV} {U : St → Prop} (h : setNames cx [.Name x1 q1, .Name x2 q2, .Name x3 q3] xs σ U) :
    ∃ y1 y2 y3, xs = [y1, y2, y3] ∧ U { σ with loc := upd x3 y3 (upd x2 y2 (upd x1 y1 σ.loc)) } := by
  cases xs with
  | nil => exact False.elim h
  | cons y1 xs =>
  have h := set_local k1 h
  obtain ⟨y2, y3, rfl, h'⟩ := set2 k2 k3 h
  exact ⟨y1, y2, y3, rfl, h'⟩
theorem assign_comp {m : Nat} (ih : ∀ k, k ≤ m → AllE w k) {y : Str} {py : Pos} {elt : Expr} {gens : List Comprehension} {scope : Scope} {cpos pos : Pos} {Q : Fl → St → Prop}
    (hs : swapsWith (.ListComp elt gens scope cpos) (some (.Name y py)) pos.line F.env = pure true) (hk : F.env.kindOf y = some .local)
    (h : E m cx (.ListComp elt gens scope cpos) σ fun a σ => AsnL m cx [.Name y py] a σ fun σ => Q .next σ) (G : Good w F cx) (hA : Room m A) (R : Rel F ρ σ s) (tk : 1 ≤ s.toks) :
    wpAny (model pw w) A (exec (.Assign [.Name y py] (.ListComp elt gens scope cpos) pos) F.env) (PX F ρ Q) NoE s := by
  have hk' : kindIn cx.sc y = some .local := (lookup_kind G y).symm.trans hk
  cases m with
  | zero => exact False.elim h
  | succ m =>
  cases gens with
  | nil => exact False.elim h
  | cons g gs =>
  obtain ⟨t, iter, ifs, k⟩ := g
  cases t <;> try exact False.elim h
  case Name x px =>
  cases k with
  | negSucc => exact False.elim h
  | ofNat k =>
  cases k with
  | succ => exact False.elim h
  | zero =>
  cases gs with
  | cons => exact False.elim h
  | nil =>
  have ok := And.left h
  have h := And.right h
  cases m with
  | zero => exact False.elim h
  | succ m' =>
    rw [exec_Assign_Name_used _ _ _ _ hs]
    refine wpAny_bind (wpAny_standAt (wpAny_bind ?_))
    show wpAny _ A (do let _ ← comprehension (.ListComp elt [⟨.Name x px, iter, ifs, 0⟩] scope cpos) scope F.env _ (newList []) false (eval iter F.env) (some (assign (.Name y py) F.env))) _ _ s
    have I := ih (m' + 1) (Nat.le_succ _)
    have I' := ih m' (Nat.le_trans (Nat.le_succ _) (Nat.le_succ _))
    refine wpAny_bind (wpAny_mono (comp_core (use := some (assign (.Name y py) F.env)) (QQ := fun _ s' => PX F ρ Q .next s') I'.ts I'.e G tk (hA.le (Nat.le_trans (Nat.le_succ _) (Nat.le_succ _))) ok (I.e cx _ σ _ h F ρ s A G (hA.le (Nat.le_succ _)) R tk) (notSet h F.env) ?_) (fun _ s' hq => wpAny_pure (wpAny_pure hq)) fun _ _ e => e)
    intro ρ' σ' d a s₅ C tk₅ p₅ R₅ hd hq c ⟨mm, hm⟩
    show wpAny _ A (assign (.Name y py) F.env (.ref a)) _ _ _
    obtain ⟨m₀, h1, _⟩ := R₅.loc
    refine wpAny_assign_Name (wpAny_storeName_local hk h1 (fun h₂ hn₂ hs₂ => ⟨mm, hm.sameBut hs₂ (Ne.symm c.2.2.2), fun h₃ hs₃ => ?_⟩) (by rw [G.ok.kind]; rfl))
    have R₆ := (R₅.setL (t := s₅.toks + 1) hk (av := .ref d) ⟨a, rfl, hd⟩ (fun m' hm' => by rw [Ns_same h1 hm']) hn₂ hs₂).freed (C := C) c hs₃
    exact ⟨ρ', _, .next, p₅, R₆, rfl, asn_one hk' hq⟩
theorem assign_sound_of {m : Nat} (ih : ∀ k, k ≤ m → AllE w k) (hL : ∀ k, k ≤ m → SAsnL w k) {ts : List Expr} {v : Expr} {pos : Pos} {σ : St} {Q : Fl → St → Prop} (hc : swBad cx ts v = false ∧ asnTs ts = true)
    (h : E m cx v σ fun a σ => AsnL m cx ts a σ fun σ => Q .next σ) (G : Good w F cx) (hA : Room m A) (R : Rel F ρ σ s) (tk : 1 ≤ s.toks) : wpAny (model pw w) A (exec (.Assign ts v pos) F.env) (PX F ρ Q) NoE s := by
  obtain ⟨hb, hT⟩ := hc
  unfold asnTs at hT
  rw [Bool.and_eq_true] at hT
  rcases sw_cases ts pos.line F.env (e_noSD h) with hs | ⟨y, py, elt, gens, scope, cpos, rfl, rfl, hs, hk⟩
  · rcases swapped_eq G hT.2 hb with hw | ⟨es, vs, k, k', p, p', rfl, rfl, hw, hcand, hdup⟩
    · refine wpAny_Assign_stores (PE.seq tk ((ih m (Nat.le_refl _)).e cx _ σ _ h F ρ s A G hA R tk) fun ρ₁ σ₁ a u s₁ tk₁ p₁ R₁ c₁ h₁ => ?_) hs hw
      refine PU.seq tk₁ (hL m (Nat.le_refl _) cx ts a σ₁ _ h₁ hT.2 F ρ₁ s₁ A u G hA R₁ tk₁ c₁) fun ρ₂ σ₂ _ s₂ tk₂ p₂ R₂ h₂ => ?_
      exact ⟨ρ₂, σ₂, .next, p₁.trans p₂, R₂, rfl, h₂⟩
    · refine Assign_Tuple_swapped (PE.seq tk ((ih m (Nat.le_refl _)).e cx _ σ _ h F ρ s A G hA R tk) fun ρ₁ σ₁ a u s₁ tk₁ p₁ R₁ c₁ h₁ => ?_) hs hw
      obtain ⟨pl, xs, rfl, e, hq⟩ := tup_names h₁
      obtain ⟨ad, rfl, had⟩ := c₁
      obtain ⟨ws, T, cs⟩ := R₁.tup had e
      have lw := concs_len cs
      simp only [Array.length_toList] at lw
      unfold swCand at hcand
      simp only [Bool.and_eq_true, Bool.or_eq_true, beq_iff_eq] at hcand
      obtain ⟨⟨⟨hl, _⟩, _⟩, hfull⟩ := hcand
      have fm := filterMap_full hfull
      clear hfull h₁ hs hw hT hb h ih hL tk tk₁ had e
      rcases hl with hl | hl
      · match es, hl with
        | [e1, e2], _ =>
          obtain ⟨x1, n1, i1⟩ := fm 0 e1 rfl
          obtain ⟨x2, n2, i2⟩ := fm 1 e2 rfl
          have hnames : [e1, e2].filterMap (nameOn cx (headLine [e1, e2])) = [x1, x2] := by
            rw [List.filterMap_cons, n1, List.filterMap_cons, n2]; rfl
          rw [hnames] at hdup ⊢
          obtain ⟨q1, rfl, k1⟩ := nameOn_some n1
          obtain ⟨q2, rfl, k2⟩ := nameOn_some n2
          have ne : x1 ≠ x2 := by
            have := dups_nodup _ hdup
            simp at this; exact this
          obtain ⟨y1, y2, rfl, hq'⟩ := set2 k1 k2 hq
          obtain ⟨v1, _, hv, d1, v2, _, rfl, d2, rfl⟩ := cs
          have hsz : ([x1, x2] : List Str).length = ws.size := by rw [lw]; rfl
          rw [hsz]
          refine unpackItems_tuple hA.hh T fun h' he => ?_
          have R' := R₁.grow0 (h' := h') (t := s₁.toks) fun b o e => he b o (Nat.ne_of_lt (Heap.lt_size e)) e
          rw [hv]
          show wpAny _ _ (do holding [v1] (bindName F.env x2 v2); assignInOrder [fun v => bindName F.env x1 v] [v1]) _ _ _
          refine wpAny_bind (wpAny_holding (wpAny_bindName (store_local G R' k2 d2 fun s₂ R₂ => ?_)))
          show wpAny _ _ (do holding [] (bindName F.env x1 v1); assignInOrder [] []) _ _ _
          refine wpAny_bind (wpAny_holding (wpAny_bindName (store_local G R₂ k1 d1 fun s₃ R₃ => wpAny_pure ?_)))
          refine ⟨ρ₁, _, .next, p₁, R₃.swap (loc := upd x2 y2 (upd x1 y1 σ₁.loc)) fun z => ?_, rfl, hq'⟩
          rw [lookup_upd, lookup_upd]
          show _ = List.lookup z (upd x1 y1 (upd x2 y2 σ₁.loc))
          rw [lookup_upd, lookup_upd]
          by_cases hz : z = x2
          · subst hz; rw [if_pos rfl, if_neg (Ne.symm ne), if_pos rfl]
          · rw [if_neg hz, if_neg hz]
      · match es, hl with
        | [e1, e2, e3], _ =>
          obtain ⟨x1, n1, i1⟩ := fm 0 e1 rfl
          obtain ⟨x2, n2, i2⟩ := fm 1 e2 rfl
          obtain ⟨x3, n3, i3⟩ := fm 2 e3 rfl
          have hnames : [e1, e2, e3].filterMap (nameOn cx (headLine [e1, e2, e3])) = [x1, x2, x3] := by
            rw [List.filterMap_cons, n1, List.filterMap_cons, n2, List.filterMap_cons, n3]; rfl
          rw [hnames] at hdup ⊢
          obtain ⟨q1, rfl, k1⟩ := nameOn_some n1
          obtain ⟨q2, rfl, k2⟩ := nameOn_some n2
          obtain ⟨q3, rfl, k3⟩ := nameOn_some n3
          have ne : x1 ≠ x2 ∧ x1 ≠ x3 ∧ x2 ≠ x3 := by
            have := dups_nodup _ hdup
            simp at this; exact ⟨this.1.1, this.1.2, this.2⟩
          obtain ⟨y1, y2, y3, rfl, hq'⟩ := set3 k1 k2 k3 hq
          obtain ⟨v1, _, hv, d1, v2, _, rfl, d2, v3, _, rfl, d3, rfl⟩ := cs
          have hsz : ([x1, x2, x3] : List Str).length = ws.size := by rw [lw]; rfl
          rw [hsz]
          refine unpackItems_tuple hA.hh T fun h' he => ?_
          have R' := R₁.grow0 (h' := h') (t := s₁.toks) fun b o e => he b o (Nat.ne_of_lt (Heap.lt_size e)) e
          rw [hv]
          show wpAny _ _ (do holding [v2, v1] (bindName F.env x3 v3); assignInOrder [fun v => bindName F.env x2 v, fun v => bindName F.env x1 v] [v2, v1]) _ _ _
          refine wpAny_bind (wpAny_holding (wpAny_bindName (store_local G R' k3 d3 fun s₂ R₂ => ?_)))
          show wpAny _ _ (do holding [v1] (bindName F.env x2 v2); assignInOrder [fun v => bindName F.env x1 v] [v1]) _ _ _
          refine wpAny_bind (wpAny_holding (wpAny_bindName (store_local G R₂ k2 d2 fun s₃ R₃ => ?_)))
          show wpAny _ _ (do holding [] (bindName F.env x1 v1); assignInOrder [] []) _ _ _
          refine wpAny_bind (wpAny_holding (wpAny_bindName (store_local G R₃ k1 d1 fun s₄ R₄ => wpAny_pure ?_)))
          refine ⟨ρ₁, _, .next, p₁, R₄.swap (loc := upd x3 y3 (upd x2 y2 (upd x1 y1 σ₁.loc))) fun z => ?_, rfl, hq'⟩
          rw [lookup_upd, lookup_upd, lookup_upd]
          show _ = List.lookup z (upd x1 y1 (upd x2 y2 (upd x3 y3 σ₁.loc)))
          rw [lookup_upd, lookup_upd, lookup_upd]
          obtain ⟨a1, a2, a3⟩ := ne
          by_cases hz : z = x3
          · subst hz; rw [if_pos rfl, if_neg (Ne.symm a2), if_neg (Ne.symm a3), if_pos rfl]
          · by_cases hz2 : z = x2
            · subst hz2; rw [if_neg hz, if_pos rfl, if_neg (Ne.symm a1), if_pos rfl]
            · rw [if_neg hz, if_neg hz2, if_neg hz2, if_neg hz]
  · exact assign_comp ih hs hk h G hA R tk
end
end W58
end
section
open PySem PySem.W PyProof.Rows PySem.Calls PySem.Spec PySem.SeqAt PyProof.V
set_option maxRecDepth 100000
namespace W58
section
variable {w : World} {F : Fm} {cx : Cx} {ρ : List Addr} {σ : St} {s : Shared} {A : Around} {n : Nat}
/-- what a turn hands on: the same, or with places forgotten -/
theorem weaken (hz : F.fz ≤ ρ.length) {ρ' : List Addr} {σ'' σ₃ : St} {N : Nat} (hN : N = ρ.length) (p : ρ <+: ρ') (R : Rel F ρ' σ'' s) (h : σ₃ = σ'' ∨ Wk N σ'' σ₃) : ∃ ρ₃, ρ <+: ρ₃ ∧ Rel F ρ₃ σ₃ s := by
  rcases h with rfl | W
  · exact ⟨ρ', p, R⟩
  · exact ⟨_, pre_take p (by rw [← hN]; exact W.lo), R.weak W (by (first | lia | omega))⟩
theorem while_sound (hT : ST w n) (hB : SXS w n) (G : Good w F cx) (hA : Room n A) (R : Rel F ρ σ s) (tk : 1 ≤ s.toks) {t : Expr} {b : List Stmt} {pos : Pos} {Q : Fl → St → Prop}
    (h : ∃ I : Nat → St → Prop, (∃ k, I k σ) ∧ ∀ k σ', I k σ' → W58.T n cx t σ' fun c σ' => (match c with
        | false => Q .next σ'
        | true => XS n cx b σ' fun fl σ'' => (match fl with
          | .brk => Q .next σ''
          | .ret v => Q (.ret v) σ''
          | _ => ∃ m σ₃, m < k ∧ (σ₃ = σ'' ∨ Wk σ.hp.length σ'' σ₃) ∧ I m σ₃))) :
    wpAny (model pw w) A (exec (.While t b [] pos) F.env) (PX F ρ Q) NoE s := by
  obtain ⟨I, ⟨k₀, hk₀⟩, turn⟩ := h
  refine wpAny_While (codeAny_whileLoop (I := fun k s => ∃ ρ' σ', ρ <+: ρ' ∧ Rel F ρ' σ' s ∧ I k σ' ∧ 1 ≤ s.toks) (fun k s₁ ⟨ρ₁, σ₁, p₁, R₁, hI, tk₁⟩ => ?_) k₀ ⟨ρ, σ, List.prefix_rfl, R, hk₀, tk⟩)
  refine PT.seq tk₁ (hT cx t σ₁ _ (turn k σ₁ hI) F ρ₁ s₁ A G hA R₁ tk₁) fun ρ₂ σ₂ c s₂ tk₂ p₂ R₂ h₂ => ?_
  cases c with
  | false => exact wpAny_execs_nil ⟨ρ₂, σ₂, .next, p₁.trans p₂, R₂, rfl, h₂⟩
  | true =>
    rw [if_pos rfl]
    refine PX.seq tk₂ (hB cx b σ₂ _ h₂ F ρ₂ s₂ A G hA R₂ tk₂) fun ρ₃ σ₃ fl f s₃ tk₃ p₃ R₃ c₃ h₃ => ?_
    have pp := p₁.trans (p₂.trans p₃)
    have go : (∃ m σ₄, m < k ∧ (σ₄ = σ₃ ∨ Wk σ.hp.length σ₃ σ₄) ∧ I m σ₄) → ∃ m, m < k ∧ ∃ ρ' σ', ρ <+: ρ' ∧ Rel F ρ' σ' s₃ ∧ I m σ' ∧ 1 ≤ s₃.toks := fun ⟨m, σ₄, hm, hw, hI⟩ => by
      obtain ⟨ρ₄, p₄, R₄⟩ := weaken R.fzl R.len.symm pp R₃ hw
      exact ⟨m, hm, ρ₄, σ₄, p₄, R₄, hI, tk₃⟩
    cases fl with
    | next => cases c₃; exact go h₃
    | cont => cases c₃; exact go h₃
    | brk => cases c₃; exact ⟨ρ₃, σ₃, .next, pp, R₃, rfl, h₃⟩
    | ret v => obtain ⟨u, rfl, cu⟩ := c₃; exact ⟨ρ₃, σ₃, .ret v, pp, R₃, ⟨u, rfl, cu⟩, h₃⟩
theorem for_sound (hE : SE w n) (hB : SXS w n) (G : Good w F cx) (hA : Room n A) (R : Rel F ρ σ s) (tk : 1 ≤ s.toks) {x : Str} {px : Pos} {it : Expr} {b : List Stmt} {pos : Pos} {Q : Fl → St → Prop}
    (h : E n cx it σ fun v σ₁ => mkIter v σ₁ fun j σ₂ => ∃ I : Nat → St → Prop, (∃ k, I k σ₂) ∧ ∀ k σ', I k σ' → (match stepIt σ'.hp j with
        | .no => False
        | .fin => Q .next (σ'.putO j .any)
        | .item v o => setVar cx x v (σ'.putO j o) fun σ' => XS n cx b σ' fun fl σ'' => (match fl with
          | .brk => Q .next σ''
          | .ret v => Q (.ret v) σ''
          | _ => ∃ m σ₃, m < k ∧ (σ₃ = σ'' ∨ Wk σ₂.hp.length σ'' σ₃) ∧ I m σ₃))) :
    wpAny (model pw w) A (exec (.For (.Name x px) it b [] pos) F.env) (PX F ρ Q) NoE s := by
  refine wpAny_For (PE.seq tk (hE cx it σ _ h F ρ s A G hA R tk) fun ρ₁ σ₁ v u s₁ tk₁ p₁ R₁ c₁ h₁ => ?_) (notSet h F.env)
  refine wp_seqT tk₁ (iter_sound R₁ c₁ h₁) fun itv s₂ tk₂ ⟨e1, oi, xi, e2, hl, R₂, h₂⟩ => ?_
  subst e1
  obtain ⟨I, ⟨k₀, hk₀⟩, turn⟩ := h₂
  have l₂ : (ρ₁ ++ [s₁.heap.objs.size]).length = σ₁.hp.length + 1 := by simp [R₁.len]
  have hj : (ρ₁ ++ [s₁.heap.objs.size])[σ₁.hp.length]? = some s₁.heap.objs.size := by rw [List.getElem?_append_right (by rw [R₁.len]; exact Nat.le_refl _), R₁.len]; simp
  have hfz : F.fz ≤ σ₁.hp.length := by have := R₁.fzl; rw [R₁.len] at this; exact this
  refine codeAny_forLoop (I := fun k s => ∃ ρ' σ', (ρ₁ ++ [s₁.heap.objs.size]) <+: ρ' ∧ Rel F ρ' σ' s ∧ I k σ' ∧ 1 ≤ s.toks) (fun k s₃ ⟨ρ₃, σ₃, p₃, R₃, hI, tk₃⟩ => ?_) k₀ ⟨_, _, List.prefix_rfl, R₂, hk₀, tk₂⟩
  have ht := turn k σ₃ hI
  have hn : stepIt σ₃.hp σ₁.hp.length ≠ .no := fun e => by rw [e] at ht; exact ht
  have pp : ρ <+: ρ₃ := p₁.trans ((List.prefix_append _ _).trans p₃)
  refine wp_seqT tk₃ (next_sound hA R₃ (pre_get p₃ hj) hfz hn) fun r s₄ tk₄ hr => ?_
  unfold NextIs at hr
  revert ht hr
  cases stepIt σ₃.hp σ₁.hp.length with
  | no => exact fun h => h.elim
  | fin =>
    intro ht ⟨hr, R₄⟩
    subst hr
    exact wpAny_execs_nil ⟨ρ₃, _, .next, pp, R₄, rfl, ht⟩
  | item v o =>
    intro ht ⟨u', hr, cu, R₄⟩
    subst hr
    refine wpAny_assign_Name (PU.seq tk₄ (set_sound G R₄ cu ht) fun ρ₅ σ₅ _ s₅ tk₅ p₅ R₅ h₅ => ?_)
    refine PX.seq tk₅ (hB cx b σ₅ _ h₅ F ρ₅ s₅ A G hA R₅ tk₅) fun ρ₆ σ₆ fl f s₆ tk₆ p₆ R₆ c₆ h₆ => ?_
    have pq := p₃.trans (p₅.trans p₆)
    have pp' := pp.trans (p₅.trans p₆)
    have go : (∃ m σ₇, m < k ∧ (σ₇ = σ₆ ∨ Wk (σ₁.hp ++ [xi]).length σ₆ σ₇) ∧ I m σ₇) → ∃ m, m < k ∧ ∃ ρ' σ', (ρ₁ ++ [s₁.heap.objs.size]) <+: ρ' ∧ Rel F ρ' σ' s₆ ∧ I m σ' ∧ 1 ≤ s₆.toks := fun ⟨m, σ₇, hm, hw, hI⟩ => by
      obtain ⟨ρ₇, p₇, R₇⟩ := weaken (ρ := ρ₁ ++ [s₁.heap.objs.size]) (by rw [l₂]; (first | lia | omega)) (by rw [l₂]; simp) pq R₆ hw
      exact ⟨m, hm, ρ₇, σ₇, p₇, R₇, hI, tk₆⟩
    cases fl with
    | next => cases c₆; exact go h₆
    | cont => cases c₆; exact go h₆
    | brk => cases c₆; exact ⟨ρ₆, σ₆, .next, pp', R₆, rfl, h₆⟩
    | ret v => obtain ⟨u, rfl, cu⟩ := c₆; exact ⟨ρ₆, σ₆, .ret v, pp', R₆, ⟨u, rfl, cu⟩, h₆⟩
structure AllX (w : World) (n : Nat) : Prop extends AllE w n where
  asn : SAsn w n
  asnL : SAsnL w n
  x : SX w n
  xs : SXS w n
theorem notInt (G : Good w F cx) : interactive F.env = false := by
  unfold interactive
  rw [G.ok.kind]; rfl
theorem plainExpr {e : Expr} (hc : notComp e = true) (h : noSD e = true) {line : Nat} (env : Env) : swapsWith e none line env = pure false := by
  cases e <;> first | rfl | exact Bool.noConfusion hc | exact Bool.noConfusion h
theorem x_sound_of {m : Nat} (ih : ∀ k, k ≤ m → AllX w k) : SX w (m + 1) := by
  intro cx st σ Q h F ρ s A G hA R tk
  have hA' := hA.le (Nat.le_succ m)
  have I := ih m (Nat.le_refl _)
  cases st
  case Assign ts v p =>
    have h : (swBad cx ts v = false ∧ asnTs ts = true) ∧ E m cx v σ fun a σ => AsnL m cx ts a σ fun σ => Q .next σ := h
    exact assign_sound_of (fun k hk => (ih k hk).toAllE) (fun k hk => (ih k hk).asnL) h.1 h.2 G hA' R tk
  case Expr e pos =>
    have h : notComp e = true ∧ E m cx e σ fun v σ => v = .none ∧ Q .next σ := h
    refine wpAny_Expr (PE.seq tk (I.e cx e σ _ h.2 F ρ s A G hA' R tk) fun ρ₁ σ₁ a u s₁ tk₁ p₁ R₁ c₁ h₁ => ?_) (notInt G) (plainExpr h.1 (e_noSD h.2) F.env)
    obtain ⟨rfl, h₁⟩ := h₁
    cases c₁
    exact ⟨ρ₁, σ₁, .next, p₁, R₁, rfl, h₁⟩
  case If t b o p =>
    have h : W58.T m cx t σ fun c σ => (match c with | true => XS m cx b σ Q | false => XS m cx o σ Q) := h
    refine wpAny_If (PT.seq tk (I.t cx _ σ _ h F ρ s A G hA' R tk) fun ρ₁ σ₁ c s₁ tk₁ p₁ R₁ h₁ => ?_)
    cases c with
    | true => rw [if_pos rfl]; exact wp_preX p₁ (I.xs cx _ σ₁ _ h₁ F ρ₁ s₁ A G hA' R₁ tk₁)
    | false => rw [if_neg (by decide)]; exact wp_preX p₁ (I.xs cx _ σ₁ _ h₁ F ρ₁ s₁ A G hA' R₁ tk₁)
  case Try b hs o f p =>
    cases hs with
    | nil => exact False.elim h
    | cons hd hs =>
    cases o with
    | cons => exact False.elim h
    | nil =>
    cases f with
    | cons => exact False.elim h
    | nil =>
    have h : XS m cx b σ Q := h
    refine wpAny_Try_except (PX.seq tk (I.xs cx _ σ _ h F ρ s A G hA' R tk) fun ρ₁ σ₁ fl f s₁ tk₁ p₁ R₁ c₁ h₁ => ?_)
    have z : PX F ρ Q f s₁ := ⟨ρ₁, σ₁, fl, p₁, R₁, c₁, h₁⟩
    cases f <;> first | exact wpAny_execs_nil z | exact z
  case Break p => exact wpAny_Break ⟨ρ, σ, .brk, List.prefix_rfl, R, rfl, h⟩
  case Return v p =>
    cases v with
    | some e =>
      have h : E m cx e σ fun v σ => Q (.ret v) σ := h
      refine wpAny_Return_some (PE.seq tk (I.e cx _ σ _ h F ρ s A G hA' R tk) fun ρ₁ σ₁ a u s₁ tk₁ p₁ R₁ c₁ h₁ => ?_)
      exact ⟨ρ₁, σ₁, .ret a, p₁, R₁, ⟨u, rfl, c₁⟩, h₁⟩
    | none => exact wpAny_Return_none ⟨ρ, σ, .ret .none, List.prefix_rfl, R, ⟨.none, rfl, rfl⟩, h⟩
  case While t b o p =>
    cases o with
    | cons => exact False.elim h
    | nil => exact while_sound I.t I.xs G hA' R tk h
  case For t it b o p =>
    cases t <;> try exact False.elim h
    case Name x px =>
    cases o with
    | cons => exact False.elim h
    | nil => exact for_sound I.e I.xs G hA' R tk h
  all_goals exact False.elim h
theorem xs_sound_of {m : Nat} (hX : SX w m) (hS : SXS w m) : SXS w (m + 1) := by
  intro cx ss σ Q h F ρ s A G hA R tk
  have hA' := hA.le (Nat.le_succ m)
  cases ss with
  | nil => exact wpAny_execs_nil ⟨ρ, σ, .next, List.prefix_rfl, R, rfl, h⟩
  | cons st ss =>
    have h : X m cx st σ fun fl σ => (match fl with | .next => XS m cx ss σ Q | fl => Q fl σ) := h
    refine wpAny_execs_cons (PX.seq tk (hX cx _ σ _ h F ρ s A G hA' R tk) fun ρ₁ σ₁ fl f s₁ tk₁ p₁ R₁ c₁ h₁ => ?_)
    cases fl with
    | next => cases c₁; exact wp_preX p₁ (hS cx _ σ₁ _ h₁ F ρ₁ s₁ A G hA' R₁ tk₁)
    | cont => cases c₁; exact ⟨ρ₁, σ₁, .cont, p₁, R₁, rfl, h₁⟩
    | brk => cases c₁; exact ⟨ρ₁, σ₁, .brk, p₁, R₁, rfl, h₁⟩
    | ret v => obtain ⟨u, rfl, cu⟩ := c₁; exact ⟨ρ₁, σ₁, .ret v, p₁, R₁, ⟨u, rfl, cu⟩, h₁⟩
theorem all_zero : AllX w 0 where
  e := fun _ _ _ _ h => by exact False.elim h
  el := fun _ _ _ _ h => by exact False.elim h
  eo := fun _ _ _ _ h => by exact False.elim h
  t := fun _ _ _ _ h => by exact False.elim h
  tb := fun _ _ _ _ _ h => by exact False.elim h
  eb := fun _ _ _ _ h => by exact False.elim h
  ts := fun _ _ _ _ h => by exact False.elim h
  ap := fun _ _ _ _ h => by exact False.elim h
  apm := fun _ _ _ _ _ h => by exact False.elim h
  asn := fun _ _ _ _ _ h => by exact False.elim h
  asnL := fun _ _ _ _ _ h => by exact False.elim h
  x := fun _ _ _ _ h => by exact False.elim h
  xs := fun _ _ _ _ h => by exact False.elim h
theorem all_sound (w : World) : ∀ n k, k ≤ n → AllX w k
  | 0, k, h => by cases Nat.le_zero.mp h; exact all_zero
  | n + 1, k, h => by
    have ih := all_sound w n
    rcases Nat.lt_or_ge k (n + 1) with h' | h'
    · exact ih k (Nat.le_of_lt_succ h')
    · have : k = n + 1 := Nat.le_antisymm h h'
      subst this
      have I := ih n (Nat.le_refl _)
      exact { e := e_sound_of fun k hk => (ih k hk).toAllE
              el := el_sound_of I.e I.el
              eo := eo_sound_of I.e
              t := t_sound_of I.e I.tb
              tb := tb_sound_of I.t I.tb
              eb := eb_sound_of I.e I.eb
              ts := ts_sound_of I.t
              ap := ap_sound_of I.xs
              apm := apm_sound_of I.ap
              asn := asn_sound_of I.e
              asnL := asnL_sound_of I.asn I.asnL
              x := x_sound_of ih
              xs := xs_sound_of I.x I.xs }
theorem sound_xs (w : World) (n : Nat) : SXS w n := (all_sound w n n (Nat.le_refl _)).xs
theorem sound_e (w : World) (n : Nat) : SE w n := (all_sound w n n (Nat.le_refl _)).e
theorem sound_t (w : World) (n : Nat) : ST w n := (all_sound w n n (Nat.le_refl _)).t
end
end W58
end
section
open PySem PySem.W PyProof.Rows PySem.Calls PyProof.V PySem.Spec
set_option maxRecDepth 100000
namespace W58
noncomputable section
theorem in_of {K : Frag} {P : Params} (e : K.map (fun p => (heapF P).get? p.1) = K.map fun p => some p.2) : K.In (heapF P) := by
  intro a o h
  induction K with
  | nil => cases h
  | cons p r ih =>
    rw [List.map_cons, List.map_cons] at e
    injection e with e1 e2
    rw [List.lookup_cons] at h
    split at h
    · rename_i q; cases h; rw [beq_iff_eq.mp q]; exact e1
    · exact ih e2 h
theorem kf_in (P : Params) : (kf P).In (heapF P) := in_of (by kernel_rfl)
noncomputable def k3 (P : Params) : Frag := [(3, o3_4 P)]
theorem k3_in (P : Params) : (k3 P).In (heapF P) := in_of (by kernel_rfl)
noncomputable def b1Els : List (Int × Value) := [(65024, (.int (65024) 261)), (65025, (.int (65025) 262)), (65026, (.int (65026) 263)), (65027, (.int (65027) 264)), (65028, (.int (65028) 265)), (65029, (.int (65029) 266)), (6150, (.int (6150) 247)), (65030, (.int (65030) 267)), (65031, (.int (65031) 268)), (65032, (.int (65032) 269)), (65033, (.int (65033) 270)), (6155, (.int (6155) 248)), (6156, (.int (6156) 249)), (6157, (.int (6157) 250)), (8203, (.int (8203) 251)), (8204, (.int (8204) 252)), (8205, (.int (8205) 253)), (65034, (.int (65034) 271)), (65035, (.int (65035) 272)), (65036, (.int (65036) 273)), (65037, (.int (65037) 274)), (65038, (.int (65038) 275)), (65039, (.int (65039) 276)), (173, (.int (173) 245)), (847, (.int (847) 246)), (8288, (.int (8288) 254)), (65279, (.int (65279) 255))]
theorem o61_set (w : World) : (heapF w.params).SetOf (intKind pw w) b1At (fun k => decide (k ∈ b1Set)) 27 := by
  refine ⟨o61_2 w.params, _, _, _, by kernel_rfl, ⟨rfl, rfl, rfl⟩, rfl, ?_, fun k => ?_, by decide +kernel, by kernel_rfl, rfl⟩
  · intro e he
    have key : ∀ e ∈ b1Els, (match e with | (h, .int n t) => hashInt n == h && (Value.int n t).scannable | _ => false) = true := by decide +kernel
    have := key e he
    obtain ⟨h, v⟩ := e
    cases v <;> first | cases this; done | skip
    rename_i n t
    rw [Bool.and_eq_true] at this
    exact ⟨⟨n, isInt_self n t, (beq_iff_eq.mp this.1).symm⟩, this.2⟩
  · constructor
    · intro h
      have h := of_decide_eq_true h
      have key : ∀ x ∈ b1Set, b1Els.any (fun e => Value.isInt x e.2) = true := by decide +kernel
      obtain ⟨e, he, q⟩ := List.any_eq_true.mp (key k h)
      exact ⟨e, he, q⟩
    · rintro ⟨e, he, q⟩
      have key : ∀ e ∈ b1Els, (match e.2 with | .int n _ => decide (n ∈ b1Set) | _ => false) = true := by decide +kernel
      have := key e he
      obtain ⟨t, ht⟩ := Value.isInt_shape q
      rw [ht] at this
      exact this
noncomputable def globTop : List (Str × Value) := globTab.take 17
noncomputable def globBlt : List (Str × Value) := globTab.drop 17
theorem lookup_split {α : Type} (x : Str) : ∀ (l r : List (Str × α)), (l ++ r).lookup x = (l.lookup x).or (r.lookup x)
  | [], r => by simp
  | (y, a) :: l, r => by
    rw [List.cons_append, List.lookup_cons, List.lookup_cons]
    split
    · rfl
    · exact lookup_split x l r
theorem glob_top {mg : Str → Option Value} {H : Heap} {P : Params} (X : (k3 P).In H) (G : H.Ns mainGlobals mg) : ∀ p ∈ globTop, mg p.1 = some p.2 := by
  intro p hp
  refine PySem.W.mg_of X G ?_
  have key : globTop.map (fun p => nsIn (k3 P) mainGlobals p.1) = globTop.map fun p => some (some p.2) := by kernel_rfl
  obtain ⟨i, hi, rfl⟩ := List.getElem_of_mem hp
  have := congrArg (·[i]?) key
  simpa [hi] using this
theorem glob_none {mg : Str → Option Value} {H : Heap} {P : Params} (X : (k3 P).In H) (G : H.Ns mainGlobals mg) : ∀ p ∈ globBlt, mg p.1 = none := by
  intro p hp
  refine ns_none_of X G ?_
  have key : globBlt.map (fun p => nsIn (k3 P) mainGlobals p.1) = globBlt.map fun _ => some none := by kernel_rfl
  obtain ⟨i, hi, rfl⟩ := List.getElem_of_mem hp
  have := congrArg (·[i]?) key
  simpa [hi] using this
theorem glob_blt : ∀ p ∈ globBlt, bootBuiltins p.1 = some p.2 ∧ p.1 ≠ "__name__" := by
  intro p hp
  have key : globBlt.map (fun p => bootBuiltins p.1) = globBlt.map fun p => some p.2 := by kernel_rfl
  have key2 : globBlt.all (fun p => p.1 != Str.ofString "__name__") = true := by decide +kernel
  obtain ⟨i, hi, rfl⟩ := List.getElem_of_mem hp
  have := congrArg (·[i]?) key
  refine ⟨by simpa [hi] using this, ?_⟩
  have := List.all_eq_true.mp key2 _ hp
  simpa using this
theorem lookup_mem {α : Type} {x : Str} {v : α} : ∀ {l : List (Str × α)}, l.lookup x = some v → (x, v) ∈ l
  | (y, a) :: l, h => by
    rw [List.lookup_cons] at h
    split at h
    · rename_i q; cases h; rw [beq_iff_eq.mp q]; exact .head _
    · exact .tail _ (lookup_mem h)
theorem stat_of {w : World} {H : Heap} {p : Program} {lo : List Str} {mean : ExcName → Option Value} {mg mb : Str → Option Value} (Y : Kept w.params H) (T : Top p lo mean mg mb H) : Stat w H := by
  have X3 : (k3 w.params).In H := fun a o e => Y a o (k3_in _ a o e)
  refine ⟨?_, T.nolimit, fun a o e => Y a o (kf_in _ a o e), Y _ _ (by kernel_rfl), mg, mb, T.g, T.b, fun x v h => ?_⟩
  · obtain ⟨o, es, ep, t, ho, r⟩ := o61_set w
    exact ⟨o, es, ep, t, Y _ _ ho, r⟩
  · have e : globTab = globTop ++ globBlt := (List.take_append_drop 17 globTab).symm
    unfold glob at h
    rw [e, lookup_split] at h
    cases q : globTop.lookup x with
    | some u =>
      rw [q] at h
      cases h
      exact .inl (glob_top X3 T.g _ (lookup_mem q))
    | none =>
      rw [q] at h
      have m := lookup_mem (show globBlt.lookup x = some v from h)
      exact .inr ⟨glob_none X3 T.g _ m, (T.builtins x (glob_blt _ m).2).trans (glob_blt _ m).1⟩
end
end W58
end
section
open PySem PySem.W PyProof.Rows PySem.Calls PyProof.V PySem.Spec
set_option maxRecDepth 100000
namespace W58
noncomputable section
/-! str() of the text's own exception -/
noncomputable def kE (P : Params) : Frag := [(3, o3_4 P), (30, o30_1 P), (31, o31_1 P), (43, o43_1 P), (44, o44_1 P)]
theorem kE_in (P : Params) : (kE P).In (heapF P) := in_of (by kernel_rfl)
theorem er_str (P : Params) : findIn (kE P) (.ref 44) "__str__" = some (some (.builtin "BaseException.__str__")) := by kernel_rfl
theorem er_exc (P : Params) : excIn (kE P) 44 [.type "Exception", .type "BaseException", .type "object"] "Exception.__new__" = true := by kernel_rfl
section
variable {prog : Program} {w : World} {A : Around} {E : Value → Shared → Prop} {s : Shared} {P : Params}
structure ErAt (h : Heap) (e t0 : Addr) (m : Str) (tk : Tok) : Prop where
  exc : ∃ o vs, h.get? e = some o ∧ o.cls = .ref 44 ∧ o.data = .fields vs ∧ vs[0]? = some (.ref t0)
  tup : h.TupAt t0 [.str m tk]
theorem er_args {M : Model} {e t0 : Addr} {m : Str} {tk : Tok} {Q : Value × List Value → Shared → Prop} (x : ErAt s.heap e t0 m tk) (hq : Q (.ref t0, [.str m tk]) s) :
    wpAny M A (Builtin.BaseException.bexcArgs (.ref e)) Q E s := by
  obtain ⟨⟨o, vs, ho, _, hd, h0⟩, ot, k, hto, _, htd⟩ := x
  unfold Builtin.BaseException.bexcArgs
  exact wpAny_bind (wpAny_field ho hd h0 (wpAny_bind (wpAny_seqItems hto htd (wpAny_pure hq))))
theorem er_sub {M : Model} {Q : Bool → Shared → Prop} (hC : s.heap.get? 44 = some (o44_1 P)) (hq : Q true s) : wpAny M A (isSubtype (.ref 44) (.type "BaseException")) Q E s := by
  obtain ⟨h, g, d, t, os⟩ := s
  exact wpAny_isSubtype_exc (C := 44) (bm := [.ref 31, .type "Exception", .type "BaseException", .type "object"]) hC hq
theorem er_call {e t0 : Addr} {m : Str} {tk : Tok} {R : Result → Shared → Prop} (X : (kE P).In s.heap) (x : ErAt s.heap e t0 m tk) (hq : R (.ok (.ret (.str m tk))) s) :
    codeAny (model prog w) A (.call (.builtin "BaseException.__str__") ⟨[.ref e], []⟩) R s := by
  have hk : builtinKind "BaseException.__str__" = some .slot := by decide +kernel
  have hsplit : splitId "BaseException.__str__" = some ("BaseException", "__str__") := by decide +kernel
  have ha := F.args_bexc_str (.ref e)
  have hC := X 44 _ rfl
  have x' := x
  obtain ⟨⟨o, vs, he, hc, hd, h0⟩, ht⟩ := x
  obtain ⟨hp, g, d, t, os⟩ := s
  refine codeAny_call_builtin (by decide +kernel) F.entry_bexc_str ?_
  simp only [checkBuiltinCall, hk, hsplit]
  refine wpAny_bind ?_
  unfold isInstance
  repeat (any_goals (first | assumption | (with_reducible refine wpAny_loadPart_at he ?_; rw [hc]) | with_reducible refine er_sub hC ?_ | with_reducible refine er_args x' ?_ | wp_step))
theorem er_strOf {e t0 : Addr} {m : Str} {tk : Tok} {Q : Value → Shared → Prop} (X : (kE P).In s.heap) (x : ErAt s.heap e t0 m tk) (hu : A.units < cLine) (hq : Q (.str m tk) s) :
    wpAny (model prog w) A (Builtin.Str.strOf (.ref e)) Q E s := by
  have L : Looks (model prog w) s.heap (typeLookup (.ref 44) "__str__") (some (.builtin "BaseException.__str__")) := looks_findIn X (er_str P)
  have L' : ∀ (A' : Around) (Q' : Option Value → Shared → Prop) (E' : Value → Shared → Prop), Q' (some (.builtin "BaseException.__str__")) s → wpAny (model prog w) A' (typeLookup (.ref 44) (Str.ofString "__str__")) Q' E' s := fun A' Q' E' h => L A' Q' E' s (fun _ _ z => z) h
  clear L
  have hb : bindSpecial (.builtin "BaseException.__str__") (.ref e) = pure (.builtin "BaseException.__str__", [.ref e]) := (ExcStrFacts.str PySem.F.excStr_Exception).bind (.ref e)
  have x' := x
  obtain ⟨⟨o, vs, he, hc, hd, h0⟩, ht⟩ := x
  obtain ⟨hp, g, d, t, os⟩ := s
  unfold Builtin.Str.strOf
  repeat (any_goals (first | assumption | with_reducible refine wpAny_cRoomFor hu ?_ | (with_reducible refine wpAny_loadPart_at he ?_; rw [hc]) | with_reducible refine L' _ _ _ ?_ | ((with_reducible show codeAny _ _ (Code.call (Value.builtin "BaseException.__str__") _) _ _); refine er_call X x' ?_) | wp_step))
theorem er_str_call {e t0 : Addr} {m : Str} {tk : Tok} {Q : Value → Shared → Prop} (X : (kE P).In s.heap) (x : ErAt s.heap e t0 m tk) (hu : A.units + 2 < cLine) (h : Q (.str m tk) s) :
    wpAny (model prog w) A (call (.type "str") [.ref e]) Q E s :=
  callType_new PySem.F.called_str (by decide) (PySem.F.typeCall_str_1 _) (PySem.F.newCall_str_1 _) (fun obj => PySem.F.args_object_init_2 obj _) PySem.F.entry_str_new
    (meets_str_new (S := fun A' R s' => A'.units + 1 < cLine ∧ (kE P).In s'.heap ∧ ErAt s'.heap e t0 m tk ∧ R (.ok (.ret (.str m tk))) s')
      fun _ _ A' _ _ hq => er_strOf (A := A'.in1) hq.2.1 hq.2.2.1 hq.1 hq.2.2.2)
    ⟨(show A.units + 1 + 1 < cLine from hu), X, x, typeIs_str _ _ _, h⟩
end
end
end W58
end
section
open PySem PySem.W PyProof.Rows PySem.Calls
set_option maxRecDepth 100000
namespace W58
/-! One rule a form: how the abstract semantics is walked. -/
noncomputable def Both (a b : Prop) : Prop := a ∧ b
theorem both_i {a b : Prop} (h : a) (k : b) : Both a b := ⟨h, k⟩
/-! What is left to do behind a step, as constants: so a goal stays small. -/
section
variable (n : Nat) (cx : Cx) (Q : AV → St → Prop) (R : Fl → St → Prop) (K : Bool → St → Prop) (U : St → Prop)
noncomputable def kThen (r : List Stmt) : Fl → St → Prop := fun fl σ => (match fl with | .next => XS n cx r σ R | fl => R fl σ)
noncomputable def kNx : St → Prop := fun σ => R .next σ
noncomputable def kAsn (ts : List Expr) : AV → St → Prop := fun a σ => AsnL n cx ts a σ (kNx R)
noncomputable def kExp : AV → St → Prop := fun v σ => v = .none ∧ R .next σ
noncomputable def kIf (b o : List Stmt) : Bool → St → Prop := fun c σ => (match c with | true => XS n cx b σ R | false => XS n cx o σ R)
noncomputable def kRet : AV → St → Prop := fun v σ => R (.ret v) σ
noncomputable def kAL (ts : List Expr) (a : AV) : St → Prop := fun σ => AsnL n cx ts a σ U
noncomputable def kSat (fz : Nat) (name : Str) (a : AV) : AV → St → Prop := fun ov σ => SetAtt fz ov name a σ U
noncomputable def kSsb2 (fz : Nat) (ov a : AV) : AV → St → Prop := fun iv σ => SetSub fz ov iv a σ U
noncomputable def kSsb1 (fz : Nat) (i : Expr) (a : AV) : AV → St → Prop := fun ov σ => E n cx i σ (kSsb2 U fz ov a)
noncomputable def kBin2 (op : Operator) (a : AV) : AV → St → Prop := fun b σ => Bin op a b σ Q
noncomputable def kBin1 (r : Expr) (op : Operator) : AV → St → Prop := fun a σ => E n cx r σ (kBin2 Q op a)
noncomputable def kNeg : AV → St → Prop := fun a σ => (match a with | .int i => Q (.int (-i)) σ | _ => False)
noncomputable def kBool : Bool → St → Prop := fun c σ => Q (.bool c) σ
noncomputable def kCmp2 (op : CmpOp) (a : AV) : AV → St → Prop := fun b σ => Cmp op a b σ fun c => K c σ
noncomputable def kCmp1 (r : Expr) (op : CmpOp) : AV → St → Prop := fun a σ => E n cx r σ (kCmp2 K op a)
noncomputable def kIfe (b o : Expr) : Bool → St → Prop := fun c σ => (match c with | true => E n cx b σ Q | false => E n cx o σ Q)
noncomputable def kLst : List AV → St → Prop := fun vs σ => match σ with | ⟨loc, hp⟩ => Both (vs.length < 2 ^ 20) (Q (.ref hp.length) ⟨loc, hp ++ [.plist vs]⟩)
noncomputable def kTup : List AV → St → Prop := fun vs σ => match σ with | ⟨loc, hp⟩ => Both (vs.length < 2 ^ 20) (Q (.ref hp.length) ⟨loc, hp ++ [.tup vs]⟩)
noncomputable def kApM (fz : Nat) (mk : Mk) : List AV → St → Prop := fun vs σ => ApM n fz mk vs σ Q
noncomputable def kAp (f : AV) : List AV → St → Prop := fun vs σ => Ap n f vs σ Q
noncomputable def kCal (args : List Expr) : AV → St → Prop := fun f σ => EL n cx args σ (kAp n Q f)
noncomputable def kAtt (name : Str) : AV → St → Prop := fun a σ => Att a name σ Q
noncomputable def kSli4 (st : Option Expr) (a lo up : AV) : AV → St → Prop := fun sv σ => SliceGate st a lo up sv σ Q
noncomputable def kSli3 (st : Option Expr) (a lo : AV) : AV → St → Prop := fun up σ => EO n cx st σ (kSli4 Q st a lo up)
noncomputable def kSli2 (up st : Option Expr) (a : AV) : AV → St → Prop := fun lo σ => EO n cx up σ (kSli3 n cx Q st a lo)
noncomputable def kSli1 (lo up st : Option Expr) : AV → St → Prop := fun a σ => EO n cx lo σ (kSli2 n cx Q up st a)
noncomputable def kSub2 (a : AV) : AV → St → Prop := fun i σ => Sub a i σ Q
noncomputable def kSub1 (i : Expr) : AV → St → Prop := fun a σ => E n cx i σ (kSub2 Q a)
noncomputable def kEL2 (Q : List AV → St → Prop) (v : AV) : List AV → St → Prop := fun vs σ => Q (v :: vs) σ
noncomputable def kEL1 (Q : List AV → St → Prop) (es : List Expr) : AV → St → Prop := fun v σ => EL n cx es σ (kEL2 Q v)
noncomputable def kEB (es : List Expr) : AV → St → Prop := fun a σ => (match a with | .bool true => EB n cx es σ Q | .bool false => Q (.bool false) σ | _ => False)
noncomputable def kTat : AV → St → Prop := fun a σ => (match a with | .bool b => K b σ | _ => False)
noncomputable def kTB (op : BoolOp) (es : List Expr) : Bool → St → Prop := fun b σ => (match op, b with | .And, false => K false σ | .Or, true => K true σ | _, _ => TB n cx op es σ K)
end
/-! what is left to do, done -/
section
variable {n : Nat} {cx : Cx} {σ : St} {Q : AV → St → Prop} {R : Fl → St → Prop} {K : Bool → St → Prop} {U : St → Prop} {loc : List (Str × AV)} {hp : List AO}
theorem thn_n {r : List Stmt} (h : XS n cx r σ R) : kThen n cx R r .next σ := h
theorem thn_b {r : List Stmt} (h : R .brk σ) : kThen n cx R r .brk σ := h
theorem thn_r {r : List Stmt} {v : AV} (h : R (.ret v) σ) : kThen n cx R r (.ret v) σ := h
theorem nx_i (h : R .next σ) : kNx R σ := h
theorem asn_i {ts : List Expr} {a : AV} (h : AsnL n cx ts a σ (kNx R)) : kAsn n cx R ts a σ := h
theorem exp_i (h : R .next σ) : kExp R .none σ := ⟨rfl, h⟩
theorem if_t {b o : List Stmt} (h : XS n cx b σ R) : kIf n cx R b o true σ := h
theorem if_f {b o : List Stmt} (h : XS n cx o σ R) : kIf n cx R b o false σ := h
theorem kret_i {v : AV} (h : R (.ret v) σ) : kRet R v σ := h
theorem kal_i {ts : List Expr} {a : AV} (h : AsnL n cx ts a σ U) : kAL n cx U ts a σ := h
theorem sat_i {fz : Nat} {name : Str} {a ov : AV} (h : SetAtt fz ov name a σ U) : kSat U fz name a ov σ := h
theorem ssb2_i {fz : Nat} {ov a iv : AV} (h : SetSub fz ov iv a σ U) : kSsb2 U fz ov a iv σ := h
theorem ssb1_i {fz : Nat} {i : Expr} {a ov : AV} (h : E n cx i σ (kSsb2 U fz ov a)) : kSsb1 n cx U fz i a ov σ := h
theorem bin2_i {op : Operator} {a b : AV} (h : Bin op a b σ Q) : kBin2 Q op a b σ := h
theorem bin1_i {r : Expr} {op : Operator} {a : AV} (h : E n cx r σ (kBin2 Q op a)) : kBin1 n cx Q r op a σ := h
theorem neg_i {i : Int} (h : Q (.int (-i)) σ) : kNeg Q (.int i) σ := h
theorem bool_i {c : Bool} (h : Q (.bool c) σ) : kBool Q c σ := h
theorem cmp2_i {op : CmpOp} {a b : AV} (h : Cmp op a b σ fun c => K c σ) : kCmp2 K op a b σ := h
theorem cmp1_i {r : Expr} {op : CmpOp} {a : AV} (h : E n cx r σ (kCmp2 K op a)) : kCmp1 n cx K r op a σ := h
theorem ife_t {b o : Expr} (h : E n cx b σ Q) : kIfe n cx Q b o true σ := h
theorem ife_f {b o : Expr} (h : E n cx o σ Q) : kIfe n cx Q b o false σ := h
theorem lst_i {vs : List AV} (c : vs.length < 2 ^ 20) (h : Q (.ref hp.length) ⟨loc, hp ++ [.plist vs]⟩) : kLst Q vs ⟨loc, hp⟩ := ⟨c, h⟩
theorem tup_i {vs : List AV} (c : vs.length < 2 ^ 20) (h : Q (.ref hp.length) ⟨loc, hp ++ [.tup vs]⟩) : kTup Q vs ⟨loc, hp⟩ := ⟨c, h⟩
theorem apm_i {fz : Nat} {mk : Mk} {vs : List AV} (h : ApM n fz mk vs σ Q) : kApM n Q fz mk vs σ := h
theorem ap_i {f : AV} {vs : List AV} (h : Ap n f vs σ Q) : kAp n Q f vs σ := h
theorem cal_i {args : List Expr} {f : AV} (h : EL n cx args σ (kAp n Q f)) : kCal n cx Q args f σ := h
theorem att_i {name : Str} {a : AV} (h : Att a name σ Q) : kAtt Q name a σ := h
theorem sli4_i {st : Option Expr} {a lo up sv : AV} (h : SliceGate st a lo up sv σ Q) : kSli4 Q st a lo up sv σ := h
theorem sli3_i {st : Option Expr} {a lo up : AV} (h : EO n cx st σ (kSli4 Q st a lo up)) : kSli3 n cx Q st a lo up σ := h
theorem sli2_i {up st : Option Expr} {a lo : AV} (h : EO n cx up σ (kSli3 n cx Q st a lo)) : kSli2 n cx Q up st a lo σ := h
theorem sli1_i {lo up st : Option Expr} {a : AV} (h : EO n cx lo σ (kSli2 n cx Q up st a)) : kSli1 n cx Q lo up st a σ := h
theorem sub2_i {a i : AV} (h : Sub a i σ Q) : kSub2 Q a i σ := h
theorem sub1_i {i : Expr} {a : AV} (h : E n cx i σ (kSub2 Q a)) : kSub1 n cx Q i a σ := h
theorem el2_i {Q : List AV → St → Prop} {v : AV} {vs : List AV} (h : Q (v :: vs) σ) : kEL2 Q v vs σ := h
theorem el1_i {Q : List AV → St → Prop} {es : List Expr} {v : AV} (h : EL n cx es σ (kEL2 Q v)) : kEL1 n cx Q es v σ := h
theorem eb_t {es : List Expr} (h : EB n cx es σ Q) : kEB n cx Q es (.bool true) σ := h
theorem eb_f {es : List Expr} (h : Q (.bool false) σ) : kEB n cx Q es (.bool false) σ := h
theorem tat_i {b : Bool} (h : K b σ) : kTat K (.bool b) σ := h
theorem tb_af {es : List Expr} (h : K false σ) : kTB n cx K .And es false σ := h
theorem tb_ot {es : List Expr} (h : K true σ) : kTB n cx K .Or es true σ := h
theorem tb_at {es : List Expr} (h : TB n cx .And es σ K) : kTB n cx K .And es true σ := h
theorem if_tn {b o : List Stmt} (h : XS n cx o σ R) : kIf n cx R b o (!true) σ := h
theorem if_fn {b o : List Stmt} (h : XS n cx b σ R) : kIf n cx R b o (!false) σ := h
theorem tb_on {es : List Expr} (h : TB n cx .Or es σ K) : kTB n cx K .Or es (!true) σ := h
theorem tb_op {es : List Expr} (h : K true σ) : kTB n cx K .Or es (!false) σ := h
theorem at_bool {K : Bool → St → Prop} {c d : Bool} (h : c = d) (k : K d σ) : K c σ := h ▸ k
theorem at_nbool {K : Bool → St → Prop} {c d : Bool} (h : c = d) (k : K (!d) σ) : K (!c) σ := h ▸ k
theorem tb_fl {es : List Expr} (h : TB n cx .Or es σ K) : kTB n cx K .Or es false σ := h
end
section
variable {n : Nat} {cx : Cx} {σ : St} {Q : AV → St → Prop} {x : Str} {p : Pos} {k : Nat}
theorem upd_hit {x : Str} {v : AV} {l : List (Str × AV)} : (upd x v l).lookup x = some v := by unfold upd; simp
theorem upd_miss {x y : Str} {u v : AV} {l : List (Str × AV)} (h : (x == y) = false) (k : l.lookup x = some v) : (upd y u l).lookup x = some v := by unfold upd; rw [List.lookup_cons, h]; exact k
theorem con_hit {x : Str} {v : AV} {l : List (Str × AV)} : ((x, v) :: l).lookup x = some v := by simp
theorem con_miss {x y : Str} {u v : AV} {l : List (Str × AV)} (h : (x == y) = false) (k : l.lookup x = some v) : ((y, u) :: l).lookup x = some v := by rw [List.lookup_cons, h]; exact k
theorem drop_keep {x y : Str} {v : AV} : ∀ {l : List (Str × AV)}, (x == y) = false → (x == dotName) = false → l.lookup x = some v → (dropN y l).lookup x = some v
  | [], _, _, e => by cases e
  | (z, a) :: r, h, hd, e => by
    have h1 : x ≠ y := beq_eq_false_iff_ne.mp h
    have h2 : x ≠ dotName := beq_eq_false_iff_ne.mp hd
    rw [List.lookup_cons] at e
    show List.lookup x (List.filter _ ((z, a) :: r)) = _
    rw [List.filter_cons]
    split at e
    · rename_i q
      cases e
      have := beq_iff_eq.mp q
      subst this
      rw [if_pos (by simp [h1, h2])]
      simp
    · rename_i q
      have ih := drop_keep (l := r) h hd e
      split
      · rw [List.lookup_cons, q]; exact ih
      · exact ih
theorem app_here {α : Type} {l : List α} {x : α} : (l ++ [x])[l.length]? = some x := by simp
theorem app_left {α : Type} {l m : List α} {i : Nat} {x : α} (h : l[i]? = some x) : (l ++ m)[i]? = some x := by
  rw [List.getElem?_append_left (List.getElem?_eq_some_iff.mp h).1]; exact h
theorem getV_loc {cx : Cx} {v : AV} (hk : kindIn cx.sc x = some .local) (hv : σ.loc.lookup x = some v) (h : Q v σ) : getVar cx x σ Q := by unfold getVar; rw [hk]; dsimp only; rw [hv]; exact h
theorem getV_cel {cx : Cx} {v : AV} (hk : kindIn cx.sc x = some .cell) (hv : σ.loc.lookup x = some v) (h : Q v σ) : getVar cx x σ Q := by unfold getVar; rw [hk]; dsimp only; rw [hv]; exact h
theorem getV_glo {cx : Cx} {v : Value} (hk : kindIn cx.sc x = some .globalImplicit) (hv : glob x = some v) (h : Q (.con v) σ) : getVar cx x σ Q := by unfold getVar; rw [hk]; dsimp only; rw [hv]; exact h
theorem setV_loc {cx : Cx} {a : AV} {U : St → Prop} (hk : kindIn cx.sc x = some .local) (h : U ⟨upd x a σ.loc, σ.hp⟩) : setVar cx x a σ U := by unfold setVar; rw [hk]; exact h
theorem setV_cel {cx : Cx} {a : AV} {U : St → Prop} (hk : kindIn cx.sc x = some .cell) (ho : cx.own = true) (h : U ⟨upd x a σ.loc, σ.hp⟩) : setVar cx x a σ U := by unfold setVar; rw [hk]; exact ⟨ho, h⟩
theorem E_none (h : Q .none σ) : E (n + 1) cx (.Constant .none k p) σ Q := h
theorem E_bool {b : Bool} (h : Q (.bool b) σ) : E (n + 1) cx (.Constant (.bool b) k p) σ Q := h
theorem E_int {i : Int} (h : Q (.int i) σ) : E (n + 1) cx (.Constant (.int i) k p) σ Q := h
theorem E_str {s : Str} {l : List Nat} (e : s.cps.toList = l) (h : Q (.str l) σ) : E (n + 1) cx (.Constant (.str s) k p) σ Q := by subst e; exact h
theorem E_loc {sc : Scope} {own : Bool} {fz : Nat} {loc : List (Str × AV)} {hp : List AO} {v : AV} (hk : (kindIn sc x == some .local) = true) (hv : loc.lookup x = some v) (hd : (x == debugName) = false) (h : Q v ⟨loc, hp⟩) : E (n + 1) ⟨sc, own, fz⟩ (.Name x p) ⟨loc, hp⟩ Q := by
  exact ⟨beq_eq_false_iff_ne.mp hd, getV_loc (beq_iff_eq.mp hk) hv h⟩
/-- a name that the frame holds: its own or a cell -/
noncomputable def isVar : Option NameKind → Bool
  | some .local => true
  | some .cell => true
  | _ => false
/-- a name that may be stored to here -/
noncomputable def mayStore : Option NameKind → Bool → Bool
  | some .local, _ => true
  | some .cell, own => own
  | _, _ => false
theorem getV_var {cx : Cx} {v : AV} (hk : isVar (kindIn cx.sc x) = true) (hv : σ.loc.lookup x = some v) (h : Q v σ) : getVar cx x σ Q := by
  cases e : kindIn cx.sc x with
  | none => rw [e] at hk; exact Bool.noConfusion hk
  | some k =>
    rw [e] at hk
    cases k <;> first | exact getV_loc e hv h | exact getV_cel e hv h | exact Bool.noConfusion hk
theorem setV_var {cx : Cx} {a : AV} {U : St → Prop} (hk : mayStore (kindIn cx.sc x) cx.own = true) (h : U ⟨upd x a σ.loc, σ.hp⟩) : setVar cx x a σ U := by
  cases e : kindIn cx.sc x with
  | none => rw [e] at hk; exact Bool.noConfusion hk
  | some k =>
    rw [e] at hk
    cases k <;> first | exact setV_loc e h | exact setV_cel e hk h | exact Bool.noConfusion hk
theorem E_var {sc : Scope} {own : Bool} {fz : Nat} {loc : List (Str × AV)} {hp : List AO} {v : AV} (hk : isVar (kindIn sc x) = true) (hv : loc.lookup x = some v) (hd : (x == debugName) = false) (h : Q v ⟨loc, hp⟩) : E (n + 1) ⟨sc, own, fz⟩ (.Name x p) ⟨loc, hp⟩ Q :=
  ⟨beq_eq_false_iff_ne.mp hd, getV_var hk hv h⟩
theorem E_glb {sc : Scope} {own : Bool} {fz : Nat} {v : Value} (hv : glob x = some v) (hk : (kindIn sc x == some .globalImplicit) = true) (hd : (x == debugName) = false) (h : Q (.con v) σ) : E (n + 1) ⟨sc, own, fz⟩ (.Name x p) σ Q :=
  ⟨beq_eq_false_iff_ne.mp hd, getV_glo (beq_iff_eq.mp hk) hv h⟩
theorem E_bin {l r : Expr} {op : Operator} (h : E n cx l σ (kBin1 n cx Q r op)) : E (n + 1) cx (.BinOp l op r p) σ Q := h
theorem E_neg {e : Expr} (h : E n cx e σ (kNeg Q)) : E (n + 1) cx (.UnaryOp .USub e p) σ Q := h
theorem E_cmp {l r : Expr} {op : CmpOp} (hm : behindInMarks op r = false) (h : E n cx l σ (kCmp1 n cx (kBool Q) r op)) : E (n + 1) cx (.Compare l [op] [r] p) σ Q := ⟨hm, h⟩
theorem E_and {es : List Expr} (h : EB n cx es σ Q) : E (n + 1) cx (.BoolOp .And es p) σ Q := h
theorem E_ife {t b o : Expr} (h : T n cx t σ (kIfe n cx Q b o)) : E (n + 1) cx (.IfExp t b o p) σ Q := h
theorem E_lst {es : List Expr} (h : EL n cx es σ (kLst Q)) : E (n + 1) cx (.List es p) σ Q := h
theorem E_tup {es : List Expr} (h : EL n cx es σ (kTup Q)) : E (n + 1) cx (.Tuple es k p) σ Q := h
noncomputable def aM (n : Nat) (cx : Cx) (args : List Expr) (Q : AV → St → Prop) (σ : St) (mk : Mk) : Prop := match Rpl mk args with
          | some (l, p, q) => (p ≠ q ∧ l.length + (l.length + 1) * q.length ≤ 2 ^ 24) ∧ Q (.str (Txt.replace ⟨l.toArray⟩ p q).cps.toList) σ
          | none => EL n cx args σ fun vs σ => ApM n cx.fz mk vs σ Q
noncomputable def kMet (n : Nat) (cx : Cx) (Q : AV → St → Prop) (name : Str) (args : List Expr) : AV → St → Prop := fun a σ => Mth a name σ (aM n cx args Q σ)
theorem met_i {name : Str} {args : List Expr} {a : AV} (h : Mth a name σ (aM n cx args Q σ)) : kMet n cx Q name args a σ := h
theorem aM_none {args : List Expr} {mk : Mk} (e : Rpl mk args = none) (h : EL n cx args σ (kApM n Q cx.fz mk)) : aM n cx args Q σ mk := by unfold aM; rw [e]; exact h
theorem aM_some {args : List Expr} {mk : Mk} {l : List Nat} {p q : Str} (e : Rpl mk args = some (l, p, q)) (c : p ≠ q ∧ l.length + (l.length + 1) * q.length ≤ 2 ^ 24) (h : Q (.str (Txt.replace ⟨l.toArray⟩ p q).cps.toList) σ) : aM n cx args Q σ mk := by unfold aM; rw [e]; exact ⟨c, h⟩
theorem E_met {o : Expr} {name : Str} {apos : Pos} {args : List Expr} (hs : notSuper o = true) (hl : apos.endLine = p.line) (ha : (args.length).blt 30 = true) (hn : args.all noStar = true)
    (h : E n cx o σ (kMet n cx Q name args)) : E (n + 1) cx (.Call (.Attribute o name apos) args [] p) σ Q := by
  exact ⟨⟨hs, hl, Nat.blt_eq.mp ha, hn⟩, h⟩
theorem E_cal {args : List Expr} {q : Pos} (hn : args.all noStar = true) (h : E n cx (.Name x q) σ (kCal n cx Q args)) : E (n + 1) cx (.Call (.Name x q) args [] p) σ Q := ⟨hn, h⟩
theorem E_att {v : Expr} {name : Str} (hs : notSuper v = true) (h : E n cx v σ (kAtt Q name)) : E (n + 1) cx (.Attribute v name p) σ Q := ⟨hs, h⟩
theorem E_sli {v : Expr} {lo up st : Option Expr} {q : Pos} (h : E n cx v σ (kSli1 n cx Q lo up st)) : E (n + 1) cx (.Subscript v (.Slice lo up st q) p) σ Q := h
noncomputable def notSlice : Expr → Bool
  | .Slice .. => false
  | _ => true
theorem E_sub {v i : Expr} (hi : notSlice i = true) (h : E n cx v σ (kSub1 n cx Q i)) : E (n + 1) cx (.Subscript v i p) σ Q := by
  cases i <;> first | exact h | exact Bool.noConfusion hi
theorem E_com {elt iter : Expr} {ifs : List Expr} {scope : Scope} {q : Pos} (hc : compOk cx.sc scope x = true)
    (h : E n cx iter σ fun v σ₁ => mkIter v σ₁ fun j σ₂ => compWp n ⟨relabelA scope, false, j⟩ x elt ifs j σ₂.hp.length σ₂.loc ⟨σ₂.loc, σ₂.hp ++ [.plist []]⟩ Q) : E (n + 1) cx (.ListComp elt [⟨.Name x q, iter, ifs, 0⟩] scope p) σ Q := ⟨hc, h⟩
theorem EL_nil {Q : List AV → St → Prop} (h : Q [] σ) : EL (n + 1) cx [] σ Q := h
theorem EL_con {Q : List AV → St → Prop} {e : Expr} {es : List Expr} (hn : noStar e = true) (h : E n cx e σ (kEL1 n cx Q es)) : EL (n + 1) cx (e :: es) σ Q := ⟨hn, h⟩
theorem EO_non (h : Q .none σ) : EO (n + 1) cx none σ Q := h
theorem EO_som {e : Expr} (h : E n cx e σ Q) : EO (n + 1) cx (some e) σ Q := h
theorem EB_one {e : Expr} (h : E n cx e σ Q) : EB (n + 1) cx [e] σ Q := h
theorem EB_con {e e' : Expr} {es : List Expr} (h : E n cx e σ (kEB n cx Q (e' :: es))) : EB (n + 1) cx (e :: e' :: es) σ Q := h
section
variable {K : Bool → St → Prop}
theorem T_cmp {l r : Expr} {op : CmpOp} (hm : behindInMarks op r = false) (h : E n cx l σ (kCmp1 n cx K r op)) : T (n + 1) cx (.Compare l [op] [r] p) σ K := ⟨hm, h⟩
theorem T_boo {op : BoolOp} {es : List Expr} (h : TB n cx op es σ K) : T (n + 1) cx (.BoolOp op es p) σ K := h
theorem T_att {v : Expr} {name : Str} (h : E n cx (.Attribute v name p) σ (kTat K)) : T (n + 1) cx (.Attribute v name p) σ K := h
theorem TB_nand (h : K true σ) : TB (n + 1) cx .And [] σ K := h
theorem TB_nor (h : K false σ) : TB (n + 1) cx .Or [] σ K := h
theorem TB_con {op : BoolOp} {e : Expr} {es : List Expr} (h : T n cx e σ (kTB n cx K op es)) : TB (n + 1) cx op (e :: es) σ K := h
theorem TS_nil (h : K true σ) : TS (n + 1) cx [] σ K := h
theorem TS_one {e : Expr} (h : T n cx e σ K) : TS (n + 1) cx [e] σ K := h
end
section
variable {U : St → Prop} {v : AV}
theorem A_var {sc : Scope} {own : Bool} {fz : Nat} {loc : List (Str × AV)} {hp : List AO} {a : AV} (hk : mayStore (kindIn sc x) own = true) (h : U ⟨upd x a loc, hp⟩) : Asn (n + 1) ⟨sc, own, fz⟩ (.Name x p) a ⟨loc, hp⟩ U := setV_var (cx := ⟨sc, own, fz⟩) (σ := ⟨loc, hp⟩) hk h
theorem A_loc {sc : Scope} {own : Bool} {fz : Nat} {loc : List (Str × AV)} {hp : List AO} {a : AV} (hk : (kindIn sc x == some .local) = true) (h : U ⟨upd x a loc, hp⟩) : Asn (n + 1) ⟨sc, own, fz⟩ (.Name x p) a ⟨loc, hp⟩ U := setV_loc (cx := ⟨sc, own, fz⟩) (σ := ⟨loc, hp⟩) (beq_iff_eq.mp hk) h
theorem A_att {a : AV} {o : Expr} {name : Str} (h : E n cx o σ (kSat U cx.fz name a)) : Asn (n + 1) cx (.Attribute o name p) a σ U := h
theorem A_sub {a : AV} {o i : Expr} (h : E n cx o σ (kSsb1 n cx U cx.fz i a)) : Asn (n + 1) cx (.Subscript o i p) a σ U := h
theorem A_tup {loc : List (Str × AV)} {hp : List AO} {ts : List Expr} {m : Nat} {xs : List AV} (hm : hp[m]? = some (.tup xs)) (h : setNames cx ts xs ⟨loc, hp⟩ U) : Asn (n + 1) cx (.Tuple ts k p) (.ref m) ⟨loc, hp⟩ U := by
  show (match hp[m]? with | some (.tup xs) => setNames cx ts xs ⟨loc, hp⟩ U | _ => False)
  rw [hm]; exact h
theorem SN_nil (h : U σ) : setNames cx [] [] σ U := h
theorem SN_var {sc : Scope} {own : Bool} {fz : Nat} {loc : List (Str × AV)} {hp : List AO} {a : AV} {ts : List Expr} {vs : List AV} (hk : mayStore (kindIn sc x) own = true) (h : setNames ⟨sc, own, fz⟩ ts vs ⟨upd x a loc, hp⟩ U) : setNames ⟨sc, own, fz⟩ (.Name x p :: ts) (a :: vs) ⟨loc, hp⟩ U := setV_var (cx := ⟨sc, own, fz⟩) (σ := ⟨loc, hp⟩) hk h
theorem AL_nil {a : AV} (h : U σ) : AsnL (n + 1) cx [] a σ U := h
theorem AL_con {a : AV} {t : Expr} {ts : List Expr} (h : Asn n cx t a σ (kAL n cx U ts a)) : AsnL (n + 1) cx (t :: ts) a σ U := h
end
section
variable {R : Fl → St → Prop}
theorem X_asn {ts : List Expr} {v : Expr} (hb : swBad cx ts v = false) (ht : asnTs ts = true) (h : E n cx v σ (kAsn n cx R ts)) : X (n + 1) cx (.Assign ts v p) σ R := ⟨⟨hb, ht⟩, h⟩
theorem X_exp {e : Expr} (hc : notComp e = true) (h : E n cx e σ (kExp R)) : X (n + 1) cx (.Expr e p) σ R := ⟨hc, h⟩
theorem X_if {t : Expr} {b o : List Stmt} (h : T n cx t σ (kIf n cx R b o)) : X (n + 1) cx (.If t b o p) σ R := h
theorem X_try {b : List Stmt} {hd : ExceptHandler} {hs : List ExceptHandler} (h : XS n cx b σ R) : X (n + 1) cx (.Try b (hd :: hs) [] [] p) σ R := h
theorem X_brk (h : R .brk σ) : X (n + 1) cx (.Break p) σ R := h
theorem X_ret {e : Expr} (h : E n cx e σ (kRet R)) : X (n + 1) cx (.Return (some e) p) σ R := h
theorem X_while {t : Expr} {b : List Stmt} (I : Nat → St → Prop) (i : ∃ k, I k σ) (h : ∀ k σ', I k σ' → T n cx t σ' fun c σ' => (match c with
        | false => R .next σ'
        | true => XS n cx b σ' fun fl σ'' => (match fl with
          | .brk => R .next σ''
          | .ret v => R (.ret v) σ''
          | _ => ∃ m σ₃, m < k ∧ (σ₃ = σ'' ∨ Wk σ.hp.length σ'' σ₃) ∧ I m σ₃))) : X (n + 1) cx (.While t b [] p) σ R := ⟨I, i, h⟩
theorem X_for {q : Pos} {it : Expr} {b : List Stmt} (h : E n cx it σ fun v σ₁ => mkIter v σ₁ fun j σ₂ => ∃ I : Nat → St → Prop, (∃ k, I k σ₂) ∧ ∀ k σ', I k σ' → (match stepIt σ'.hp j with
        | .no => False
        | .fin => R .next (σ'.putO j .any)
        | .item v o => setVar cx x v (σ'.putO j o) fun σ' => XS n cx b σ' fun fl σ'' => (match fl with
          | .brk => R .next σ''
          | .ret v => R (.ret v) σ''
          | _ => ∃ m σ₃, m < k ∧ (σ₃ = σ'' ∨ Wk σ₂.hp.length σ'' σ₃) ∧ I m σ₃))) : X (n + 1) cx (.For (.Name x q) it b [] p) σ R := h
theorem XS_nil (h : R .next σ) : XS (n + 1) cx [] σ R := h
theorem XS_con {s : Stmt} {r : List Stmt} (h : X n cx s σ (kThen n cx R r)) : XS (n + 1) cx (s :: r) σ R := h
end
/-- a plain function is called -/
theorem Ap_fn {loc : List (Str × AV)} {hp : List AO} {a : Addr} {st : Stmt} {args : List AV} (hw : (a == wsCls) = false) (hf : fnAt a = some st) (hl : (fArgs st).args.length = args.length) (h : XS n ⟨fScope st, true, hp.length⟩ (fBody st) ⟨((fArgs st).args.map (·.arg)).zip args, hp⟩ (RetK hp.length loc Q)) :
    Ap (n + 1) (.con (.ref a)) args ⟨loc, hp⟩ Q := by unfold Ap; dsimp only; rw [if_neg (beq_eq_false_iff_ne.mp hw), hf]; exact ⟨hl, h⟩
noncomputable def notRef : Value → Bool
  | .ref _ => false
  | _ => true
theorem Ap_blt {f : Value} {args : List AV} (hf : notRef f = true) (h : Blt f args σ Q) : Ap (n + 1) (.con f) args σ Q := by
  cases f <;> first | exact h | exact Bool.noConfusion hf
theorem M_bi {fz : Nat} {f : String} {self : AV} {args : List AV} (h : BltM fz f self args σ Q) : ApM (n + 1) fz (.bi f self) args σ Q := h
theorem M_fn {fz : Nat} {a : Addr} {self : AV} {args : List AV} (h : Ap n (.con (.ref a)) (self :: args) σ Q) : ApM (n + 1) fz (.fn a self) args σ Q := h
theorem ret_keep {N : Nat} {loc : List (Str × AV)} {v : AV} {σ : St} (h : Q v ⟨loc, σ.hp⟩) : RetK N loc Q (.ret v) σ := .inl h
theorem ret_next {N : Nat} {loc : List (Str × AV)} {σ : St} (h : Q .none ⟨loc, σ.hp⟩) : RetK N loc Q .next σ := .inl h
end
end W58
end
section
open PySem PySem.W PyProof.Rows PySem.Calls PySem.Spec PySem.SeqAt PyProof.V
set_option maxRecDepth 100000
namespace W58
/-! Rules for the leaves: operators, comparisons, items, built-ins. -/
theorem intAVs_len (l : List Int) : (intAVs l).length = l.length := by unfold intAVs; simp
theorem ck4 {j : Nat} (h : j < 4) : -(2 ^ 40) < (j : Int) ∧ (j : Int) < 2 ^ 40 := by (first | lia | omega)
theorem ck27 {k : Int} (h : 0 ≤ k ∧ k < 27) : -(2 ^ 40) < k ∧ k < 2 ^ 40 := by (first | lia | omega)
theorem lt5_cases : ∀ i, i < 5 → i ∈ [0, 1, 2, 3, 4] := by decide
theorem rangeList_len (a b : Int) : (rangeList a b).length = (b - a).toNat := by unfold rangeList; simp
section
variable {n : Nat} {cx : Cx} {loc : List (Str × AV)} {hp : List AO} {Q : AV → St → Prop} {fz : Nat}
theorem B_add {x y : Int} (h : Q (.int (x + y)) ⟨loc, hp⟩) : Bin .Add (.int x) (.int y) ⟨loc, hp⟩ Q := .add h
theorem B_sub {x y : Int} (h : Q (.int (x - y)) ⟨loc, hp⟩) : Bin .Sub (.int x) (.int y) ⟨loc, hp⟩ Q := .sub h
theorem B_mul {x y : Int} (c : -(2 ^ 62) < x ∧ x < 2 ^ 62) (h : Q (.int (x * y)) ⟨loc, hp⟩) : Bin .Mult (.int x) (.int y) ⟨loc, hp⟩ Q := .mul ⟨c, h⟩
theorem B_div {x y : Int} (c : 0 < y ∧ y < 2 ^ 62) (h : Q (.int (x / y)) ⟨loc, hp⟩) : Bin .FloorDiv (.int x) (.int y) ⟨loc, hp⟩ Q := .div ⟨c, h⟩
theorem B_mod {x y : Int} (c : 0 < y) (h : Q (.int (x % y)) ⟨loc, hp⟩) : Bin .Mod (.int x) (.int y) ⟨loc, hp⟩ Q := .mod ⟨c, h⟩
theorem B_cat {x y : List Nat} (c : x.length + y.length ≤ 2 ^ 24) (h : Q (.str (x ++ y)) ⟨loc, hp⟩) : Bin .Add (.str x) (.str y) ⟨loc, hp⟩ Q := .cat ⟨c, h⟩
theorem B_rep {x : List Nat} {k : Int} (c : k < 2 ^ 40 ∧ -(2 ^ 40) < k ∧ x.length * k.toNat ≤ 2 ^ 24) (h : Q (.str (rep x k)) ⟨loc, hp⟩) : Bin .Mult (.str x) (.int k) ⟨loc, hp⟩ Q := .rep ⟨c, h⟩
theorem lst_at {hp : List AO} {m : Nat} {o : AO} {xs : List AV} (h : hp[m]? = some o) (e : o.lst? = some xs) : (hp[m]?).bind AO.lst? = some xs := by rw [h]; exact e
theorem B_lst {m k : Nat} {a b : AO} {xs ys : List AV} (h1 : hp[m]? = some a) (e1 : a.lst? = some xs) (h2 : hp[k]? = some b) (e2 : b.lst? = some ys) (c : xs.length + ys.length ≤ 2 ^ 24) (h : Q (.ref hp.length) ⟨loc, hp ++ [.plist (xs ++ ys)]⟩) :
    Bin .Add (.ref m) (.ref k) ⟨loc, hp⟩ Q := .lst (lst_at h1 e1) (lst_at h2 e2) ⟨c, h⟩
theorem B_lrep {m : Nat} {k : Int} {xs : List AV} (h1 : hp[m]? = some (.plist xs)) (c : k < 2 ^ 40 ∧ -(2 ^ 40) < k ∧ xs.length * k.toNat ≤ 2 ^ 24) (h : Q (.ref hp.length) ⟨loc, hp ++ [.plist (List.replicate k.toNat xs).flatten]⟩) :
    Bin .Mult (.ref m) (.int k) ⟨loc, hp⟩ Q := .lrep h1 ⟨c, h⟩
section
variable {K : Bool → Prop}
theorem C_eq {x y : Int} (h : K (decide (x = y))) : Cmp .Eq (.int x) (.int y) ⟨loc, hp⟩ K := .eq h
theorem C_ne {x y : Int} (h : K (!decide (x = y))) : Cmp .NotEq (.int x) (.int y) ⟨loc, hp⟩ K := .ne h
theorem C_lt {x y : Int} (h : K (decide (x < y))) : Cmp .Lt (.int x) (.int y) ⟨loc, hp⟩ K := .lt h
theorem C_le {x y : Int} (h : K (decide (x ≤ y))) : Cmp .LtE (.int x) (.int y) ⟨loc, hp⟩ K := .le h
theorem C_gt {x y : Int} (h : K (decide (y < x))) : Cmp .Gt (.int x) (.int y) ⟨loc, hp⟩ K := .gt h
theorem C_ge {x y : Int} (h : K (decide (y ≤ x))) : Cmp .GtE (.int x) (.int y) ⟨loc, hp⟩ K := .ge h
theorem C_seq {x y : List Nat} (h : K (decide (x = y))) : Cmp .Eq (.str x) (.str y) ⟨loc, hp⟩ K := .seq h
theorem C_sne {x y : List Nat} (h : K (!decide (x = y))) : Cmp .NotEq (.str x) (.str y) ⟨loc, hp⟩ K := .sne h
theorem C_ins {c : Nat} {x : List Nat} (h : K (decide (c ∈ x))) : Cmp .In (.str [c]) (.str x) ⟨loc, hp⟩ K := by
  refine .ins ?_
  rw [show (⟨[c].toArray⟩ : Str) = ⟨#[c]⟩ from rfl, contains_is]; exact h
theorem C_inl {x : Int} {m : Nat} {o : AO} {xs : List AV} {ns : List Int} (h1 : hp[m]? = some o) (e1 : o.lst? = some xs) (e2 : toInts xs = some ns) (h : K (ns.any (· == x))) : Cmp .In (.int x) (.ref m) ⟨loc, hp⟩ K := .inl (by rw [lst_at h1 e1]; exact e2) h
theorem C_nin {x : Int} {m : Nat} {o : AO} {xs : List AV} {ns : List Int} (h1 : hp[m]? = some o) (e1 : o.lst? = some xs) (e2 : toInts xs = some ns) (h : K (!ns.any (· == x))) : Cmp .NotIn (.int x) (.ref m) ⟨loc, hp⟩ K := .nin (by rw [lst_at h1 e1]; exact e2) h
theorem C_b1 {x : Int} (h : K (decide (x ∈ b1Set))) : Cmp .In (.int x) (.con (.ref 61)) ⟨loc, hp⟩ K := .b1 ⟨rfl, h⟩
theorem C_dic {x : List Nat} {m : Nat} {es : List (List Nat × AV)} (h1 : hp[m]? = some (.dict es)) (hs : shortKeys es = true) (h : K (es.lookup x).isSome) : Cmp .In (.str x) (.ref m) ⟨loc, hp⟩ K := .dic h1 ⟨hs, h⟩
theorem C_is {x y : Bool} (h : K (x == y)) : Cmp .Is (.bool x) (.bool y) ⟨loc, hp⟩ K := .is h
theorem C_leq {m k : Nat} {d e : PyData} (h1 : deep2 hp (.ref m) = some d) (h2 : deep2 hp (.ref k) = some e) (c : shaped d = true ∧ shaped e = true ∧ noMix d e = true) (h : K (same d e)) : Cmp .Eq (.ref m) (.ref k) ⟨loc, hp⟩ K := .leq h1 h2 ⟨c, h⟩
theorem C_lne {m k : Nat} {d e : PyData} (h1 : deep2 hp (.ref m) = some d) (h2 : deep2 hp (.ref k) = some e) (c : shaped d = true ∧ shaped e = true ∧ noMix d e = true) (h : K (!same d e)) : Cmp .NotEq (.ref m) (.ref k) ⟨loc, hp⟩ K := .lne h1 h2 ⟨c, h⟩
end
theorem I_lst {m : Nat} {k : Int} {o : AO} {xs : List AV} {v : AV} (h1 : hp[m]? = some o) (e1 : o.lst? = some xs) (ck : -(2 ^ 40) < k ∧ k < 2 ^ 40) (hi : itemAt xs k = some v) (hl : xs.length < 2 ^ 40) (h : Q v ⟨loc, hp⟩) : Sub (.ref m) (.int k) ⟨loc, hp⟩ Q := by
  unfold Sub
  dsimp only
  refine ⟨ck, ?_⟩
  rw [h1]
  cases o <;> dsimp only [AO.lst?] at e1 ⊢ <;> first | (cases e1; done) | skip
  all_goals (cases e1; rw [hi]; exact ⟨hl, h⟩)
theorem I_tup {m : Nat} {k : Int} {xs : List AV} {v : AV} (h1 : hp[m]? = some (.tup xs)) (ck : -(2 ^ 40) < k ∧ k < 2 ^ 40) (hi : itemAt xs k = some v) (hl : xs.length < 2 ^ 40) (h : Q v ⟨loc, hp⟩) : Sub (.ref m) (.int k) ⟨loc, hp⟩ Q := by
  unfold Sub
  dsimp only
  refine ⟨ck, ?_⟩
  rw [h1]
  dsimp only
  rw [hi]; exact ⟨hl, h⟩
theorem I_str {l : List Nat} {k : Int} {c : Nat} (ck : 0 ≤ k ∧ k < 2 ^ 40) (hi : l[k.toNat]? = some c) (h : Q (.str [c]) ⟨loc, hp⟩) : Sub (.str l) (.int k) ⟨loc, hp⟩ Q := by
  unfold Sub; dsimp only; rw [hi]; exact ⟨ck, h⟩
theorem I_dic {m : Nat} {k : List Nat} {es : List (List Nat × AV)} {v : AV} (h1 : hp[m]? = some (.dict es)) (hi : es.lookup k = some v) (h : Q v ⟨loc, hp⟩) : Sub (.ref m) (.str k) ⟨loc, hp⟩ Q := by
  unfold Sub; dsimp only; rw [h1]; dsimp only; rw [hi]; exact h
theorem S_up {l : List Nat} {j : Int} (hl : l.length < 2 ^ 24) (h : Q (.str (cut l none (some j))) ⟨loc, hp⟩) : SliceGate none (.str l) .none (.int j) .none ⟨loc, hp⟩ Q := ⟨hl, h⟩
theorem S_fr {l : List Nat} {i : Int} (hl : l.length < 2 ^ 24) (h : Q (.str (cut l (some i) none)) ⟨loc, hp⟩) : SliceGate none (.str l) (.int i) .none .none ⟨loc, hp⟩ Q := ⟨hl, h⟩
theorem S_mi {l : List Nat} {i j : Int} (hl : l.length < 2 ^ 24) (h : Q (.str (cut l (some i) (some j))) ⟨loc, hp⟩) : SliceGate none (.str l) (.int i) (.int j) .none ⟨loc, hp⟩ Q := ⟨hl, h⟩
theorem S_lst {st : Option Expr} {m : Nat} {lo up k : AV} {o : AO} {xs : List AV} {i j s : Option Int} (h1 : hp[m]? = some o) (e1 : o.lst? = some xs) (ei : optInt lo = some i) (ej : optInt up = some j) (es : optInt k = some s) (hl : xs.length < 2 ^ 24) (hs : s ≠ some 0)
    (h : Q (.ref hp.length) ⟨loc, hp ++ [.plist (pickA xs i j s)]⟩) : SliceGate st (.ref m) lo up k ⟨loc, hp⟩ Q := by
  have z : SliceOf (.ref m) lo up k ⟨loc, hp⟩ Q := by
    unfold SliceOf; dsimp only; rw [lst_at h1 e1, ei, ej, es]; exact ⟨⟨hl, hs⟩, h⟩
  cases st <;> exact z
theorem seq_lst {o : AO} {xs : List AV} (e : o.lst? = some xs) : o.seq? = some xs := by cases o <;> first | (cases e; done) | exact e
theorem F_tlen {m : Nat} {o : AO} {xs : List AV} (h1 : hp[m]? = some o) (e1 : o.seq? = some xs) (c : (xs.length : Int) < 2 ^ 40) (h : Q (.int xs.length) ⟨loc, hp⟩) : Blt (.builtin "len") [.ref m] ⟨loc, hp⟩ Q := .len (by rw [h1]; exact e1) ⟨c, h⟩
theorem F_len {m : Nat} {o : AO} {xs : List AV} (h1 : hp[m]? = some o) (e1 : o.lst? = some xs) (c : (xs.length : Int) < 2 ^ 40) (h : Q (.int xs.length) ⟨loc, hp⟩) : Blt (.builtin "len") [.ref m] ⟨loc, hp⟩ Q := F_tlen h1 (seq_lst e1) c h
theorem F_slen {l : List Nat} (c : (l.length : Int) < 2 ^ 40) (h : Q (.int l.length) ⟨loc, hp⟩) : Blt (.builtin "len") [.str l] ⟨loc, hp⟩ Q := .slen ⟨c, h⟩
theorem F_chr {i : Int} (c : 0 ≤ i ∧ i ≤ 0x10FFFF) (h : Q (.str [i.toNat]) ⟨loc, hp⟩) : Blt (.builtin "chr") [.int i] ⟨loc, hp⟩ Q := .chr ⟨c, h⟩
theorem F_ord {c : Nat} (h : Q (.int c) ⟨loc, hp⟩) : Blt (.builtin "ord") [.str [c]] ⟨loc, hp⟩ Q := .ord h
theorem F_max {a b : Int} (h : Q (.int (if b > a then b else a)) ⟨loc, hp⟩) : Blt (.builtin "max") [.int a, .int b] ⟨loc, hp⟩ Q := .max h
theorem F_sum {m : Nat} {o : AO} {xs : List AV} {ns : List Int} (h1 : hp[m]? = some o) (e1 : o.lst? = some xs) (e2 : toInts xs = some ns) (h : Q (.int ns.sum) ⟨loc, hp⟩) : Blt (.builtin "sum") [.ref m] ⟨loc, hp⟩ Q := .sum (by rw [lst_at h1 e1]; exact e2) h
theorem F_rng1 {b : Int} (c : -(2 ^ 40) < b ∧ b < 2 ^ 40) (h : Q (.ref hp.length) ⟨loc, hp ++ [.range 0 b 1]⟩) : Blt (.type "range") [.int b] ⟨loc, hp⟩ Q := .rng1 ⟨c, h⟩
theorem F_rng2 {a b : Int} (c : -(2 ^ 40) < a ∧ a < 2 ^ 40 ∧ -(2 ^ 40) < b ∧ b < 2 ^ 40) (h : Q (.ref hp.length) ⟨loc, hp ++ [.range a b 1]⟩) : Blt (.type "range") [.int a, .int b] ⟨loc, hp⟩ Q := .rng2 ⟨c, h⟩
theorem F_list {m : Nat} {a b : Int} (h1 : hp[m]? = some (.range a b 1)) (c : -(2 ^ 40) < a ∧ a < 2 ^ 40 ∧ -(2 ^ 40) < b ∧ b < 2 ^ 40 ∧ b - a ≤ 2 ^ 20) (h : Q (.ref hp.length) ⟨loc, hp ++ [.plist (intAVs (rangeList a b))]⟩) : Blt (.type "list") [.ref m] ⟨loc, hp⟩ Q := .list h1 ⟨c, h⟩
theorem F_tuple {m : Nat} {o : AO} {xs : List AV} (h1 : hp[m]? = some o) (e1 : o.lst? = some xs) (c : xs.length ≤ 2 ^ 20) (h : Q (.ref hp.length) ⟨loc, hp ++ [.tup xs]⟩) : Blt (.type "tuple") [.ref m] ⟨loc, hp⟩ Q := .tuple (lst_at h1 e1) ⟨c, h⟩
theorem F_dict {m : Nat} {xs : List AV} {es : List (List Nat × AV)} (h1 : hp[m]? = some (.plist xs)) (e : pairsOf hp xs = some es) (c : (es.map (·.1)).Nodup ∧ es.length ≤ 1000) (h : Q (.ref hp.length) ⟨loc, hp ++ [.dict es]⟩) : Blt (.type "dict") [.ref m] ⟨loc, hp⟩ Q := .dict (by rw [h1]; exact e) ⟨c, h⟩
theorem F_str {i : Int} {l : List Nat} (c : 0 ≤ i ∧ i < 1000) (e : (Str.ofString (toString i)).cps.toList = l) (h : Q (.str l) ⟨loc, hp⟩) : Blt (.type "str") [.int i] ⟨loc, hp⟩ Q := .str ⟨c, by subst e; exact h⟩
section
variable {J : Nat → St → Prop}
theorem it_str {l : List Nat} (h : J hp.length ⟨loc, hp ++ [.siter l 0]⟩) : mkIter (.str l) ⟨loc, hp⟩ J := h
theorem it_rng {m : Nat} {a b : Int} (h1 : hp[m]? = some (.range a b 1)) (c : -(2 ^ 40) < a ∧ a < 2 ^ 40 ∧ -(2 ^ 40) < b ∧ b < 2 ^ 40) (h : J hp.length ⟨loc, hp ++ [.riter a (if a < b then b - a else 0) 1]⟩) : mkIter (.ref m) ⟨loc, hp⟩ J := by
  unfold mkIter; dsimp only; rw [h1]; exact ⟨c, h⟩
theorem it_lst {m : Nat} {o : AO} {xs : List AV} (h1 : hp[m]? = some o) (e1 : o.lst? = some xs) (h : J hp.length ⟨loc, hp ++ [.liter m 0]⟩) : mkIter (.ref m) ⟨loc, hp⟩ J := by
  unfold mkIter; dsimp only; rw [h1]; cases o <;> dsimp only [AO.lst?] at e1 ⊢ <;> first | (cases e1; done) | exact h
end

section
variable {L : Mk → Prop}
theorem M_count {l : List Nat} (h : L (.bi "str.count" (.str l))) : Mth (.str l) (Str.ofString "count") ⟨loc, hp⟩ L := by
  have e : strMeths.lookup (Str.ofString "count") = some "str.count" := by kernel_rfl
  unfold Mth; dsimp only; rw [e]; exact h
theorem M_replace {l : List Nat} (h : L (.bi "str.replace" (.str l))) : Mth (.str l) (Str.ofString "replace") ⟨loc, hp⟩ L := by
  have e : strMeths.lookup (Str.ofString "replace") = some "str.replace" := by kernel_rfl
  unfold Mth; dsimp only; rw [e]; exact h
theorem M_join {l : List Nat} (h : L (.bi "str.join" (.str l))) : Mth (.str l) (Str.ofString "join") ⟨loc, hp⟩ L := by
  have e : strMeths.lookup (Str.ofString "join") = some "str.join" := by kernel_rfl
  unfold Mth; dsimp only; rw [e]; exact h
theorem M_append {m : Nat} {xs : List AV} (h1 : hp[m]? = some (.plist xs)) (h : L (.bi "list.append" (.ref m))) : Mth (.ref m) (Str.ofString "append") ⟨loc, hp⟩ L := by
  have e : listMeths.lookup (Str.ofString "append") = some "list.append" := by kernel_rfl
  unfold Mth; dsimp only; rw [h1]; dsimp only; rw [e]; exact h
theorem M_ws {m d : Nat} {es : List (Str × AV)} {name : Str} {f : Addr} (h1 : hp[m]? = some (.inst wsCls d)) (h2 : hp[d]? = some (.ns es)) (e : wsMeths.lookup name = some f) (hn : es.lookup name = none) (h : L (.fn f (.ref m))) : Mth (.ref m) name ⟨loc, hp⟩ L := by
  unfold Mth; dsimp only; rw [h1]; dsimp only; rw [h2]; dsimp only; rw [e]; exact ⟨⟨rfl, hn⟩, h⟩
end
theorem G_count {l : List Nat} {c : Nat} (h : Q (.int (l.count c : Nat)) ⟨loc, hp⟩) : BltM fz "str.count" (.str l) [.str [c]] ⟨loc, hp⟩ Q := by
  unfold BltM; dsimp only; rw [if_pos rfl]
  rw [show (⟨[c].toArray⟩ : Str) = ⟨#[c]⟩ from rfl, count_is]; exact h
theorem G_join {m : Nat} {o : AO} {xs : List AV} {ss : List (List Nat)} (h1 : hp[m]? = some o) (e1 : o.lst? = some xs) (e2 : toStrs xs = some ss) (c : ss.flatten.length < 2 ^ 24) (h : Q (.str ss.flatten) ⟨loc, hp⟩) : BltM fz "str.join" (.str []) [.ref m] ⟨loc, hp⟩ Q := by
  unfold BltM; dsimp only; rw [if_pos rfl, lst_at h1 e1]; dsimp only [Option.bind]; rw [e2]; exact ⟨⟨rfl, c⟩, h⟩
theorem G_append {m : Nat} {xs : List AV} {v : AV} (h1 : hp[m]? = some (.plist xs)) (hf : fz ≤ m) (c : xs.length < 2 ^ 24) (h : Q .none ⟨loc, hp.set m (.plist (xs ++ [v]))⟩) : BltM fz "list.append" (.ref m) [v] ⟨loc, hp⟩ Q := by
  unfold BltM; dsimp only; rw [if_pos rfl, h1]; exact ⟨⟨hf, c⟩, h⟩
theorem At_get {m d : Nat} {es : List (Str × AV)} {name : Str} {v : AV} (h1 : hp[m]? = some (.inst wsCls d)) (h2 : hp[d]? = some (.ns es)) (e : es.lookup name = some v) (hn : name ∈ wsFields) (hv : v.plain = true) (h : Q v ⟨loc, hp⟩) : Att (.ref m) name ⟨loc, hp⟩ Q := by
  unfold Att; dsimp only; rw [h1]; dsimp only; rw [h2]; dsimp only; rw [e]; exact ⟨⟨rfl, hn, hv⟩, h⟩
theorem At_con {name : Str} {l : List Nat} (e : wsConsts.lookup name = some l) (h : Q (.str l) ⟨loc, hp⟩) : Att (.con (.ref 133)) name ⟨loc, hp⟩ Q := by
  unfold Att; dsimp only; rw [e]; exact ⟨rfl, h⟩
section
variable {U : St → Prop}
theorem At_set {m d : Nat} {es : List (Str × AV)} {name : Str} {v : AV} (h1 : hp[m]? = some (.inst wsCls d)) (h2 : hp[d]? = some (.ns es)) (hf : fz ≤ d) (hn : name ∈ wsFields) (c : es.length ≤ 900) (h : U ⟨loc, hp.set d (.ns (upsert name v es))⟩) : SetAtt fz (.ref m) name v ⟨loc, hp⟩ U := by
  unfold SetAtt; dsimp only; rw [h1]; dsimp only; rw [h2]; exact ⟨⟨rfl, hf, hn, c⟩, h⟩
theorem It_set {m : Nat} {k : Int} {o : AO} {xs : List AV} {v : AV} (h1 : hp[m]? = some o) (e1 : o.lst? = some xs) (hf : fz ≤ m) (ck : 0 ≤ k ∧ k < xs.length) (c : xs.length < 2 ^ 40) (h : U ⟨loc, hp.set m (.list (xs.set k.toNat v))⟩) : SetSub fz (.ref m) (.int k) v ⟨loc, hp⟩ U := by
  unfold SetSub; dsimp only; rw [lst_at h1 e1]; exact ⟨⟨hf, ck.1, ck.2, c⟩, h⟩
end
end
theorem gl_error_reply : glob (Str.ofString "error_reply") = some (.ref 44) := by kernel_rfl
theorem gl_parse257 : glob (Str.ofString "parse257") = some (.ref 53) := by kernel_rfl
theorem gl_b1_set : glob (Str.ofString "b1_set") = some (.ref 61) := by kernel_rfl
theorem gl_in_table_b1 : glob (Str.ofString "in_table_b1") = some (.ref 71) := by kernel_rfl
theorem gl_Whitespace : glob (Str.ofString "Whitespace") = some (.ref 133) := by kernel_rfl
theorem gl_escape_cdata : glob (Str.ofString "_escape_cdata") = some (.ref 151) := by kernel_rfl
theorem gl_escape_attrib : glob (Str.ofString "_escape_attrib") = some (.ref 158) := by kernel_rfl
theorem gl_escape_attrib_html : glob (Str.ofString "_escape_attrib_html") = some (.ref 165) := by kernel_rfl
theorem gl_escape_cdata_c14n : glob (Str.ofString "_escape_cdata_c14n") = some (.ref 172) := by kernel_rfl
theorem gl_escape_attrib_c14n : glob (Str.ofString "_escape_attrib_c14n") = some (.ref 179) := by kernel_rfl
theorem gl_law_hands : glob (Str.ofString "_law_hands") = some (.ref 186) := by kernel_rfl
theorem gl_law_unseen : glob (Str.ofString "_law_unseen") = some (.ref 193) := by kernel_rfl
theorem gl_law_beside : glob (Str.ofString "_law_beside") = some (.ref 200) := by kernel_rfl
theorem gl_law_written : glob (Str.ofString "_law_written") = some (.ref 207) := by kernel_rfl
theorem gl_law_spelled : glob (Str.ofString "_law_spelled") = some (.ref 214) := by kernel_rfl
theorem gl_law_free : glob (Str.ofString "_law_free") = some (.ref 219) := by kernel_rfl
theorem gl_law_lead : glob (Str.ofString "_law_lead") = some (.ref 224) := by kernel_rfl
theorem gl_len : glob (Str.ofString "len") = some (.builtin "len") := by kernel_rfl
theorem gl_chr : glob (Str.ofString "chr") = some (.builtin "chr") := by kernel_rfl
theorem gl_ord : glob (Str.ofString "ord") = some (.builtin "ord") := by kernel_rfl
theorem gl_sum : glob (Str.ofString "sum") = some (.builtin "sum") := by kernel_rfl
theorem gl_max : glob (Str.ofString "max") = some (.builtin "max") := by kernel_rfl
theorem gl_str : glob (Str.ofString "str") = some (.type "str") := by kernel_rfl
theorem gl_range : glob (Str.ofString "range") = some (.type "range") := by kernel_rfl
theorem gl_list : glob (Str.ofString "list") = some (.type "list") := by kernel_rfl
theorem gl_dict : glob (Str.ofString "dict") = some (.type "dict") := by kernel_rfl
theorem gl_tuple : glob (Str.ofString "tuple") = some (.type "tuple") := by kernel_rfl
noncomputable def Ext (h h' : List AO) : Prop := ∀ (m : Nat) (o : AO), h[m]? = some o → h'[m]? = some o
theorem Ext.refl (h : List AO) : Ext h h := fun _ _ e => e
theorem Ext.trans {a b c : List AO} (x : Ext a b) (y : Ext b c) : Ext a c := fun m o e => y m o (x m o e)
theorem Ext.at {h h' : List AO} {m : Nat} {o : AO} (e : Ext h h') (k : h[m]? = some o) : h'[m]? = some o := e m o k
theorem Ext.app (h t : List AO) : Ext h (h ++ t) := fun _ _ e => app_left e
end W58
end
section
open PySem PySem.W PyProof.Rows PySem.Calls PyProof.V PySem.Spec
set_option maxRecDepth 100000
namespace W58
noncomputable section
theorem lit_257 : (Str.ofString "257").cps.toList = [50, 53, 55] := by decide +kernel
theorem parse_shape : ∃ t np rp cp p ip rest, fBody (cell 4) = .If t [.Raise (some (.Call (.Name (Str.ofString "error_reply") np) [.Name (Str.ofString "resp") rp] [] cp)) none p] [] ip :: rest ∧
    ∀ (l : List Nat) (hp : List AO) (fz : Nat) (K : Bool → St → Prop), l.length < 2 ^ 24 → K (!decide (cut l none (some 3) = [50, 53, 55])) ⟨[(Str.ofString "resp", .str l)], hp⟩ → W58.T 10 ⟨fScope (cell 4), true, fz⟩ t ⟨[(Str.ofString "resp", .str l)], hp⟩ K := by
  refine ⟨_, _, _, _, _, _, _, rfl, ?_⟩
  intro l hp fz K hl h
  refine T_cmp (by kernel_rfl) (E_sli (E_loc (by kernel_rfl) con_hit (by kernel_rfl) (EO_non (EO_som (E_int (EO_non (S_up hl (E_str lit_257 (C_sne h)))))))))
section
variable {w : World} {F : Fm} {cx : Cx} {ρ : List Addr} {σ : St} {s : Shared} {A : Around} {n : Nat} {E : Value → Shared → Prop}
theorem name_glo (G : Good w F cx) (kp : ∀ b o, F.H.get? b = some o → s.heap.get? b = some o) {x : Str} {v : Value} {pos : Pos} {Q : Value → Shared → Prop} (hk : kindIn cx.sc x = some .globalImplicit) (ev : glob x = some v) (hd : (x == debugName) = false) (h : Q v s) :
    wpAny (model pw w) A (eval (.Name x pos) F.env) Q E s := by
  obtain ⟨mg, mb, g1, g2, g3⟩ := G.stat.globs
  refine Name_function_global G.ok.kind ((lookup_kind G x).trans hk) ?_ hd
  rcases g3 x v ev with q | ⟨q1, q2⟩
  · exact loadGlobal_global (by rw [G.ok.glob]; exact g1.keeps kp) q h
  · exact loadGlobal_builtin (by rw [G.ok.glob]; exact g1.keeps kp) q1 (by rw [G.ok.blt]; exact g2.keeps kp) q2 h
theorem name_loc (G : Good w F cx) {x : Str} {v : Value} {pos : Pos} {m : Str → Option Value} {Q : Value → Shared → Prop} (hk : kindIn cx.sc x = some .local) (hm : s.heap.Ns F.env.locals m) (hv : m x = some v) (hd : (x == debugName) = false) (h : Q v s) :
    wpAny (model pw w) A (eval (.Name x pos) F.env) Q E s :=
  wpAny_Name (wpAny_loadName_local G.ok.kind ((lookup_kind G x).trans hk) hm hv h) hd
theorem Rel.cong (R : Rel F ρ σ s) {s' : Shared} (h : s'.heap = s.heap) (g : s'.gens = s.gens) (o : s'.os = s.os) : Rel F ρ σ s' := by
  obtain ⟨h1, g1, d1, t1, o1⟩ := s
  obtain ⟨h2, g2, d2, t2, o2⟩ := s'
  cases h; cases g; cases o
  exact ⟨R.stat, R.keep, R.gens, R.os, R.loc, R.cel, R.cap, R.cown, R.len, R.nodup, R.objs, R.fresh, R.offL, R.L0, R.above, R.fzl, R.low⟩
theorem er_obj {P : Params} {h : Heap} (X : (kE P).In h) : ∃ nm qn bs hdct sn sub ab col dd k0 k1 k2 k3 k5 mN, h.get? 44 = some (excClassObj nm qn 44 43 bs [.ref 31, .type "Exception", .type "BaseException", .type "object"] hdct sn sub ab col dd k0 k1 k2 k3 k5 "Exception.__new__") ∧ h.Ns 43 mN ∧ mN "__init__" = none ∧
    OwnTail h [.type "Exception", .type "BaseException", .type "object"] [.ref 31, .type "Exception", .type "BaseException", .type "object"] := by
  refine ⟨_, _, _, _, _, _, _, _, _, _, _, _, _, _, _, X 44 _ rfl, .of_isNs (isNs_of_in X (by kernel_rfl)), nsMap_none_of_in X (by kernel_rfl) (by kernel_rfl), tail_of_in X (by kernel_rfl)⟩
theorem Rel.hop (R : Rel F ρ σ s) {h' : Heap} {t : Nat} {x : Str} (hx : σ.loc.lookup x = none) {m m' : Str → Option Value} (k : ∀ b o, b ≠ F.env.locals → s.heap.get? b = some o → h'.get? b = some o) (hm : s.heap.Ns F.env.locals m) (hm' : h'.Ns F.env.locals m')
    (e : ∀ y, y ≠ x → m' y = m y) : Rel F ρ σ { s with heap := h', toks := t } where
  stat := R.stat
  keep := fun b o q => k b o (fun z => by have := R.L0; rw [← z, q] at this; cases this) (R.keep b o q)
  gens := R.gens
  os := R.os
  loc := ⟨m', hm', fun y av q c => by
    obtain ⟨m0, h0, hv⟩ := R.loc
    have := Ns_same h0 hm
    subst this
    obtain ⟨v, a, b⟩ := hv y av q c
    exact ⟨v, (e y fun z => by rw [z, hx] at q; cases q).trans a, b⟩⟩
  cel := fun y av q c => by
    obtain ⟨cc, o, v, h1, h2, h3, h4⟩ := R.cel y av q c
    exact ⟨cc, o, v, h1, k _ _ (R.cap y cc h1).2.1 h2, h3, h4⟩
  cap := fun y cc q => by
    obtain ⟨h2, h3, o, v, h4, h5⟩ := R.cap y cc q
    exact ⟨h2, h3, o, v, k _ _ h3 h4, h5⟩
  cown := R.cown
  len := R.len
  nodup := R.nodup
  objs := fun i a x h1 h2 => (R.objs i a x h1 h2).map fun hl o ho hx => ⟨o, k _ _ (fun q => R.offL (q ▸ ⟨i, x, h1, h2, hl⟩)) ho, hx⟩
  fresh := R.fresh
  offL := R.offL
  L0 := R.L0
  above := R.above
  fzl := R.fzl
  low := R.low
theorem raise_sound (G : Good w F cx) (R : Rel F ρ σ s) (tk : 1 ≤ s.toks) (hA : Room 60 A) (hfr : A.frames = some [F.env]) (hlf : F.env.frame = some F.env.locals) (X : (kE w.params).In F.H)
    (kr : kindIn cx.sc (Str.ofString "reply") = some .local) (kp : kindIn cx.sc (Str.ofString "parse257") = some .globalImplicit)
    {l : List Nat} (hl : σ.loc.lookup (Str.ofString "reply") = some (.str l)) (hlen : l.length < 2 ^ 24) (h3 : cut l none (some 3) ≠ [50, 53, 55]) {p1 p2 p3 : Pos} {Q : Value → Shared → Prop}
    (k : ∀ e t t0 s', s'.gens = s.gens → s'.os = s.os → Heap.FlyingW (hideAll s.heap [F.env.locals]) [F.env] e (.ref 44) (.ref t) s'.heap → s'.heap.TupAt t [.str ⟨l.toArray⟩ t0] → (∀ mm, s.heap.Ns F.env.locals mm → s'.heap.Ns F.env.locals mm) → E (.ref e) s') :
    wpAny (model pw w) A (eval (.Call (.Name (Str.ofString "parse257") p1) [.Name (Str.ofString "reply") p2] [] p3) F.env) Q E s := by
  have kpH : ∀ b o, F.H.get? b = some o → s.heap.get? b = some o := fun b o e => R.keep b o (R.stat b o e)
  have Xs : (kE w.params).In s.heap := X.keeps kpH
  have Xk := (G.kin R).keeps R.keep
  obtain ⟨m, hm, hmv⟩ := R.loc
  obtain ⟨rv, hrv, t0, rfl⟩ := hmv _ _ hl ((lookup_kind G _).trans kr)
  refine Call_Name rfl (name_glo (v := .ref 53) G kpH kp (by kernel_rfl) (by kernel_rfl) ?_)
  refine callWith_of (P := fun h => Keeps1 w h (.ref 53)) rfl (fun _ x => x) (evalArgs_any rfl (spliced_cons (name_loc G kr hm hrv (by kernel_rfl) (spliced_nil ⟨?_, ?_⟩))))
  · exact keep_fn Xk (kf_53 w.params).keep
  have K := kf_53 w.params
  obtain ⟨o, ho, hd⟩ := K.obj
  have ho' := Xk _ _ ho
  show wpAny _ _ (call (.ref 53) [.str ⟨l.toArray⟩ t0]) _ _ _
  refine wpAny_call (codeAny_call_function (by have := hA.depth; (first | lia | omega)) ho' hd (by rw [K.scope]; exact K.plain.1) (by rw [K.scope]; exact K.plain.2.1) K.body (codeRec_of Xk K.cod) ?_)
  rw [show bindArgs (fdOf (o53_1 w.params)) ⟨[.str ⟨l.toArray⟩ t0], []⟩ = pure [(Str.ofString "resp", .str ⟨l.toArray⟩ t0)] by rw [K.bind [_] (by rfl)]; rfl, K.clo]
  refine wpAny_pure (wpAny_with_toks (n := s.toks) (Nat.le_refl _) (wpAny_newFunctionEnv_cells (by rw [K.scope]; exact K.plain.2.2) (fun x hx => ?_) fun env he s₁ XC htk => ?_))
  · rw [List.mem_singleton] at hx
    subst hx
    exact .inl (by rw [K.scope]; kernel_rfl)
  obtain rfl : env = callEnvC (fdOf (o53_1 w.params)) s.heap.objs.size 53 := he
  refine ⟨(G.stat.lim.keeps kpH).keeps XC.toInCall.keep, codeAny_func ?_⟩
  generalize hfd : fdOf (o53_1 w.params) = fd at K XC ⊢
  have G' : Good w ⟨F.H, s.heap, callEnvC fd s.heap.objs.size 53, ρ.length, fun i => ∃ x, σ.hp[i]? = some x ∧ x.live = true, true, F.g₀, F.os, F.hf⟩ ⟨fScope (cell 4), true, σ.hp.length⟩ :=
    ⟨env_ok K XC.apart, K.scope, rfl, R.len, G.stat, G.hf⟩
  have R₁ := R.enter (fz := ρ.length) (loc := [(Str.ofString "resp", .str l)]) kpH (fun _ _ e => e) (fun i a x h1 _ _ h4 => absurd (List.getElem?_eq_some_iff.mp h1).1 (Nat.not_lt.mpr h4)) (Nat.le_refl _) (Nat.le_refl _) XC (fun x av e => by
    have b := bind_get (ρ := ρ) (callEnvC fd s.heap.objs.size 53).kindOf (ns := [Str.ofString "resp"]) (avs := [.str l]) (vals := [.str ⟨l.toArray⟩ t0]) (fun _ => none) (by decide +kernel) rfl ⟨_, [], rfl, ⟨t0, rfl⟩, rfl⟩ e
    refine ⟨b.1, fun hk => ⟨Option.isSome_iff_exists.mp (cellsFrom_some fd.scope.names (s.heap.objs.size + 1) [] (.inl hk)), b.2 (by rw [hk]; decide)⟩⟩)
  have hroom : Room 20 (A.deeper (callEnvC fd s.heap.objs.size 53)) := ⟨hA.hh, by show A.depth + 1 + 20 < _; have := hA.depth; (first | lia | omega), by show A.units + 3 + 10 * 20 + 100 < _; have := hA.units; (first | lia | omega)⟩
  have tk₁ : 1 ≤ s₁.toks := Nat.le_trans tk htk
  obtain ⟨t, np, rp, cp, rpos, ip, rest, hb, hT⟩ := parse_shape
  rw [hb]
  have hT' := hT l σ.hp σ.hp.length (fun b σ' => b = true ∧ σ' = ⟨[(Str.ofString "resp", .str l)], σ.hp⟩) hlen ⟨by rw [decide_eq_false h3]; rfl, rfl⟩
  refine wpAny_execs_cons (wpAny_If (PT.seq tk₁ (sound_t w 10 _ _ _ _ hT' _ ρ s₁ _ G' (hroom.le (by decide)) R₁ tk₁) fun ρ₂ σ₂ b s₂ tk₂ p₂ R₂ ⟨hbt, hσ⟩ => ?_))
  subst hbt hσ
  rw [if_pos rfl]
  have kp₂ : ∀ b o, F.H.get? b = some o → s₂.heap.get? b = some o := fun b o e => R₂.keep b o (R₂.stat b o e)
  have X₂ : (kE w.params).In s₂.heap := X.keeps kp₂
  obtain ⟨nm, qn, bs, hdct, sn, sub, ab, col, dd, k0, k1, k2, k3, k5, mN, hC, hN, hni, TL⟩ := er_obj X₂
  obtain ⟨m₂, hm₂, hmv₂⟩ := R₂.loc
  have kl : kindIn (fScope (cell 4)) (Str.ofString "resp") = some .local := by kernel_rfl
  obtain ⟨rv₂, hrv₂, t2, rfl⟩ := hmv₂ _ _ (con_hit) ((lookup_kind G' _).trans kl)
  refine wpAny_execs_cons (wpAny_Raise_call_subT (C := 44) (nm := nm) (q := qn) (N := 43) (bs := bs) (hdct := hdct) (sn := sn) (sub := sub) (ab := ab) (col := col) (dd := dd) (k0 := k0) (k1 := k1) (k2 := k2) (k3 := k3) (k5 := k5) (bm := [.ref 31, .type "Exception", .type "BaseException", .type "object"]) (mN := mN) PySem.F.excBase_Exception (by decide +kernel) hroom.hh rfl hni (name_glo (v := .ref 44) G' kp₂ (by kernel_rfl) (by kernel_rfl) (by kernel_rfl) ⟨rfl, ?_⟩))
  refine evalArgs_any rfl (spliced_cons (name_loc G' kl hm₂ hrv₂ (by kernel_rfl) (spliced_nil ⟨rfl, by rw [sizeLine_eq]; simp, hC, hN, TL, fun h₃ e hx => ?_⟩)))
  have hL' : F.env.locals < s.heap.objs.size := by obtain ⟨o, ho⟩ := R.locals_some; exact Heap.lt_size ho
  have hLn : (hideAll s.heap [F.env.locals]).get? F.env.locals = none := hideAll_none _ (.head _)
  have st : (hideAll s.heap [F.env.locals]).StaysIn s₂.heap := fun b o q => R₂.keep b o (of_hideAll _ q)
  refine wpAny_leaves_madeW (base := hideAll s.heap [F.env.locals]) (h := s₂.heap) (outer := [F.env]) (L := s.heap.objs.size) (Around.frames_deeper hfr) rfl st ?_ hx fun h₅ t5 fl ht5 htn sl => ?_
  · refine Heap.FunFrames.cons (by show fd.scope.kind ≠ .module; rw [K.scope, K.plain.2.2]; decide) rfl hm₂ ?_ (Heap.FunFrames.cons (by rw [G.ok.kind]; decide) hlf (hm.keeps R₂.keep) hLn trivial)
    cases q : (hideAll s.heap [F.env.locals]).get? s.heap.objs.size with
    | none => rfl
    | some o => exact absurd (Heap.lt_size (of_hideAll _ q)) (Nat.lt_irrefl _)
  · refine k e t5 t2 _ ?_ ?_ fl ht5 fun mm hmm => sl.ns ((hmm.keeps R₂.keep).keeps hx.keeps)
    · show s₂.gens = _; rw [R₂.gens]; exact R.gens.symm
    · show s₂.os = _; rw [R₂.os]; exact R.os.symm
/-- the law's try: parse257 refuses the reply, and its words are the reply's -/
theorem try_sound (G : Good w F cx) (R : Rel F ρ σ s) (tk : 1 ≤ s.toks) (hA : Room 60 A) (hfr : A.frames = some [F.env]) (hlf : F.env.frame = some F.env.locals) (X : (kE w.params).In F.H)
    (kr : kindIn cx.sc (Str.ofString "reply") = some .local) (kc : kindIn cx.sc (Str.ofString "caught") = some .local) (kp : kindIn cx.sc (Str.ofString "parse257") = some .globalImplicit) (ke : kindIn cx.sc (Str.ofString "error_reply") = some .globalImplicit) (ks : kindIn cx.sc (Str.ofString "str") = some .globalImplicit)
    {l : List Nat} (hl : σ.loc.lookup (Str.ofString "reply") = some (.str l)) (hlen : l.length < 2 ^ 24) (h3 : cut l none (some 3) ≠ [50, 53, 55]) (hc : σ.loc.lookup (Str.ofString "caught") = none)
    {p1 p2 p3 p4 p5 p6 p7 p8 p9 p10 p11 p12 p13 : Pos} {r1 b1 : Stmt} :
    wpAny (model pw w) A (exec (.Try [.Expr (.Call (.Name (Str.ofString "parse257") p1) [.Name (Str.ofString "reply") p2] [] p3) p4, r1]
      [.ExceptHandler (some (.Name (Str.ofString "error_reply") p5)) (some (Str.ofString "caught")) [.If (.Compare (.Call (.Name (Str.ofString "str") p6) [.Name (Str.ofString "caught") p7] [] p8) [.NotEq] [.Name (Str.ofString "reply") p9] p10) [b1] [] p11] p12] [] [] p13) F.env)
      (fun f s' => f = .next ∧ Rel F ρ σ s') NoE s := by
  have kpH : ∀ b o, F.H.get? b = some o → s.heap.get? b = some o := fun b o e => R.keep b o (R.stat b o e)
  have Xs : (kE w.params).In s.heap := X.keeps kpH
  obtain ⟨m, hm, hmv⟩ := R.loc
  obtain ⟨rv, hrv, t0, rfl⟩ := hmv _ _ hl ((lookup_kind G _).trans kr)
  have kcl : F.env.kindOf (Str.ofString "caught") = some .local := (lookup_kind G _).trans kc
  have hfn : (F.env.scope.kind == .class || (F.env.scope.kind == .module && F.env.locals != F.env.globals)) = false := by rw [G.ok.kind]; rfl
  refine wpAny_Try_except (wpAny_execs_cons (wpAny_Expr ?_ (notInt G) rfl))
  refine raise_sound G R tk hA hfr hlf X kr kp hl hlen h3 fun e t t1 s₁ hg₁ ho₁ fl₁ tu₁ ns₁ => ?_
  have hLn : (hideAll s.heap [F.env.locals]).get? F.env.locals = none := hideAll_none _ (.head _)
  have back : ∀ {h' : Heap}, (hideAll s.heap [F.env.locals]).StaysIn h' → ∀ b o, b ≠ F.env.locals → s.heap.get? b = some o → h'.get? b = some o := fun st b o hb q => st b o (hideAll_get _ q fun hmem => hb (List.mem_singleton.mp hmem))
  refine wpAny_looks_onW hfr hlf fl₁ fun h₂ held₂ sl₂ => wpAny_landsW held₂ fun h₃ fl₃ sl₃ => ?_
  have ns₃ : ∀ mm, s.heap.Ns F.env.locals mm → h₃.Ns F.env.locals mm := fun mm x => sl₃.ns (sl₂.ns (ns₁ mm x))
  have hLH : ∀ b o, F.H.get? b = some o → b ≠ F.env.locals := fun b o q z => by
    have h0 := R.stat b o q
    rw [z, R.L0] at h0; cases h0
  have kp₃ : ∀ b o, F.H.get? b = some o → h₃.get? b = some o := fun b o q => back fl₃.1 b o (hLH b o q) (kpH b o q)
  have X₃ : (kE w.params).In h₃ := X.keeps kp₃
  obtain ⟨nm, qn, bs, hdct, sn, sub, ab, col, dd, k0, k1, k2, k3, k5, mN, hC, hN, hni, TL⟩ := er_obj X₃
  obtain ⟨ob, hob, hobc⟩ := fl₃.there
  refine wpAny_handleBy_cons (codeAny_handlers_test (name_glo (v := .ref 44) G (s := { s₁ with heap := h₃ }) kp₃ ke (by kernel_rfl) (by kernel_rfl) ?_)) (by intro q; cases q)
  obtain ⟨hh1, hg1, hd1, ht1, ho1⟩ := s₁
  refine wpAny_excMatches_sub_self hC hob hobc (by decide +kernel) (codeAny_handlers_suite_as ?_)
  refine lands_againW fl₃ fun h₄ fl₄ sl₄ => ?_
  have ns₄ : ∀ mm, s.heap.Ns F.env.locals mm → h₄.Ns F.env.locals mm := fun mm x => sl₄.ns (ns₃ mm x)
  have m₄ := ns₄ m hm
  refine wpAny_storeName_local kcl m₄ (fun h₅ hn₅ hs₅ => ?_) hfn
  obtain ⟨oe, ws, hoe, hoec, hoed, hoe0⟩ := fl₄.first
  have tu₄ := ((tu₁.of_slots sl₂).of_slots sl₃).of_slots sl₄
  have neL : ∀ b o, h₄.get? b = some o → (∀ es ep, o.data ≠ .dict es ep) → b ≠ F.env.locals := fun b o q nd z => by
    obtain ⟨oL, es, ep, hoL, hdL, _⟩ := m₄
    rw [z, hoL] at q; cases q
    exact nd es ep hdL
  have kp₅ : ∀ b o, F.H.get? b = some o → h₅.get? b = some o := fun b o q => (hs₅.2 b (hLH b o q)).trans (back fl₄.1 b o (hLH b o q) (kpH b o q))
  have er₅ : ErAt h₅ e t ⟨l.toArray⟩ t1 := by
    refine ⟨⟨oe, ws, (hs₅.2 e (neL e oe hoe fun es ep q => by rw [hoed] at q; cases q)).trans hoe, hoec, hoed, hoe0⟩, ?_⟩
    obtain ⟨ot, nt, hot, hotc, hotd⟩ := tu₄
    exact ⟨ot, nt, (hs₅.2 t (neL t ot hot fun es ep q => by rw [hotd] at q; cases q)).trans hot, hotc, hotd⟩
  have hu := hA.units
  refine wpAny_execs_cons (wpAny_If (wpAny_isTrue_Compare1 ?_))
  refine Call_Name rfl (name_glo (v := .type "str") G kp₅ ks (by kernel_rfl) (by kernel_rfl) ?_)
  refine callWith_of (P := fun h => Keeps1 w h (.type "str")) rfl (fun _ x => x) (evalArgs_any rfl (spliced_cons (name_loc G kc hn₅ (if_pos rfl) (by kernel_rfl) (spliced_nil ⟨keep_type _, ?_⟩))))
  refine er_str_call (X.keeps kp₅) er₅ (by show A.units + 2 < _; (first | lia | omega)) ?_
  refine name_loc G kr hn₅ (v := .str ⟨l.toArray⟩ t0) ((if_neg (by decide +kernel)).trans hrv) (by kernel_rfl) ?_
  refine P.ne_str (wpAny_truthy_bool ?_)
  rw [show ((⟨l.toArray⟩ : Str).cps.toList != (⟨l.toArray⟩ : Str).cps.toList) = false by simp, if_neg (by decide)]
  refine wpAny_execs_nil ?_
  refine wpAny_execs_nil ?_
  refine wpAny_nameGoes_keeps kcl hn₅ hfn fun h₆ v hn₆ hs₆ => ⟨rfl, ?_⟩
  have R₆ := R.hop (t := ht1 + 1 + 1) hc (h' := h₆) (fun b o hb q => (hs₆.2 b hb).trans ((hs₅.2 b hb).trans (back fl₄.1 b o hb q))) hm hn₆ (fun y hy => by simp [hy])
  exact R₆.cong rfl hg₁ ho₁
end
end
end W58
end
section
open PySem PySem.W PyProof.Rows PySem.Calls PyProof.V PySem.Spec
set_option maxRecDepth 100000
namespace W58
noncomputable section
/-! The law's call, down to the abstract side. -/
noncomputable def lawPre : List Stmt := ((fBody (cell 25)).drop 1).take 4
noncomputable def lawPost : List Stmt := (fBody (cell 25)).drop 6
noncomputable def lawCx : Cx := ⟨fScope (cell 25), true, 1⟩
noncomputable def firstInts : List Int := [332, 24, 38, 16, 1194, 30]
noncomputable def st₁ (ns : List Int) : St := ⟨[(Str.ofString "first", .ref 1), (Str.ofString "script", .ref 0)], [.list (intAVs ns), .plist (intAVs firstInts)]⟩
noncomputable def LawOk (ns : List Int) : Prop := XS 60 lawCx lawPre (st₁ ns) fun fl σ => fl = .next ∧ ∃ l, σ.loc.lookup (Str.ofString "reply") = some (.str l) ∧ l.length < 2 ^ 24 ∧ cut l none (some 3) ≠ [50, 53, 55] ∧ σ.loc.lookup (Str.ofString "caught") = none ∧
  XS 300 lawCx lawPost σ fun fl _ => fl = .ret (.bool true)
theorem law_shape : ∃ p0 q0 e1 e2 e3 e4 e5 e6, ∃ k1 k2 k3 k4 k5 k6, ∃ p1 p2 p3 p4 p5 p6 p7 p8 p9 p10 p11 p12 p13 r1 b1, ∃ lp, fBody (cell 25) = .Assign [.Name (Str.ofString "first") p0] (.List [.Constant (.int 332) k1 e1, .Constant (.int 24) k2 e2, .Constant (.int 38) k3 e3, .Constant (.int 16) k4 e4, .Constant (.int 1194) k5 e5, .Constant (.int 30) k6 e6] lp) q0 :: (lawPre ++
    .Try [.Expr (.Call (.Name (Str.ofString "parse257") p1) [.Name (Str.ofString "reply") p2] [] p3) p4, r1]
      [.ExceptHandler (some (.Name (Str.ofString "error_reply") p5)) (some (Str.ofString "caught")) [.If (.Compare (.Call (.Name (Str.ofString "str") p6) [.Name (Str.ofString "caught") p7] [] p8) [.NotEq] [.Name (Str.ofString "reply") p9] p10) [b1] [] p11] p12] [] [] p13 :: lawPost) :=
  ⟨_, _, _, _, _, _, _, _, _, _, _, _, _, _, _, _, _, _, _, _, _, _, _, _, _, _, _, _, _, _, rfl⟩
section
variable {w : World} {F : Fm} {cx : Cx} {ρ : List Addr} {σ : St} {s : Shared} {A : Around} {n : Nat} {E : Value → Shared → Prop}
/-- statements one behind the other -/
theorem execs_then {ss : List Stmt} : ∀ {n : Nat} {σ : St} {ρ : List Addr} {s : Shared} {P : Fl → St → Prop} {post : List Stmt} {Q : Flow → Shared → Prop}, XS n cx ss σ P → Good w F cx → Room n A → Rel F ρ σ s → 1 ≤ s.toks → (∀ fl σ, P fl σ → fl = .next) →
    (∀ ρ' σ' s', ρ <+: ρ' → Rel F ρ' σ' s' → 1 ≤ s'.toks → P .next σ' → wpAny (model pw w) A (execs post F.env) Q E s') → wpAny (model pw w) A (execs (ss ++ post) F.env) Q E s := by
  induction ss with
  | nil =>
    intro n σ ρ s P post Q h G hA R tk hn k
    cases n with
    | zero => exact False.elim h
    | succ n => exact k ρ σ s List.prefix_rfl R tk h
  | cons st ss ih =>
    intro n σ ρ s P post Q h G hA R tk hn k
    cases n with
    | zero => exact False.elim h
    | succ n =>
      have h : X n cx st σ fun fl σ => (match fl with | .next => XS n cx ss σ P | fl => P fl σ) := h
      have hA' := hA.le (Nat.le_succ n)
      refine wpAny_execs_cons (PX.seq tk ((all_sound w n n (Nat.le_refl _)).x cx st σ _ h F ρ s A G hA' R tk) fun ρ₁ σ₁ fl f s₁ tk₁ p₁ R₁ c₁ h₁ => ?_)
      cases fl with
      | next => cases c₁; exact ih h₁ G hA' R₁ tk₁ hn fun ρ' σ' s' p R' tk' hp => k ρ' σ' s' (p₁.trans p) R' tk' hp
      | brk => cases hn _ _ h₁
      | cont => cases hn _ _ h₁
      | ret v => cases hn _ _ h₁
/-- the first statement, where no token need have been given out yet -/
theorem first_sound (G : Good w F cx) (hA : Room 60 A) (R : Rel F ρ σ s) {x : Str} {p0 e1 e2 e3 e4 e5 e6 lp q0 : Pos} {i1 i2 i3 i4 i5 i6 : Int} {k1 k2 k3 k4 k5 k6 : Nat} {U : St → Prop}
    (h : setVar cx x (.ref σ.hp.length) { σ with hp := σ.hp ++ [.plist (intAVs [i1, i2, i3, i4, i5, i6])] } U) :
    wpAny (model pw w) A (exec (.Assign [.Name x p0] (.List [.Constant (.int i1) k1 e1, .Constant (.int i2) k2 e2, .Constant (.int i3) k3 e3, .Constant (.int i4) k4 e4, .Constant (.int i5) k5 e5, .Constant (.int i6) k6 e6] lp) q0) F.env)
      (fun f s' => f = .next ∧ 1 ≤ s'.toks ∧ ∃ ρ' σ', ρ <+: ρ' ∧ Rel F ρ' σ' s' ∧ U σ') NoE s := by
  refine wpAny_Assign_Name (List_ (spliced_cons (wpAny_Constant_int (k := k1) (pos := e1) (spliced_cons (wpAny_Constant_int (k := k2) (pos := e2) (spliced_cons (wpAny_Constant_int (k := k3) (pos := e3) (spliced_cons (wpAny_Constant_int (k := k4) (pos := e4) (spliced_cons (wpAny_Constant_int (k := k5) (pos := e5) (spliced_cons (wpAny_Constant_int (k := k6) (pos := e6) (spliced_nil ?_))))))))))))))
  have tk : 1 ≤ s.toks + 1 + 1 + 1 + 1 + 1 + 1 := by (first | lia | omega)
  refine PE.seq (Q := fun v s₁ => wpAny (model pw w) A (storeName F.env x v) _ NoE s₁) tk (list_sound (xs := intAVs [i1, i2, i3, i4, i5, i6]) (Q := fun av σ' => av = .ref σ.hp.length ∧ σ' = { σ with hp := σ.hp ++ [.plist (intAVs [i1, i2, i3, i4, i5, i6])] }) (R.tok _) ?_ ⟨by simp [intAVs], rfl, rfl⟩) fun ρ₁ σ₁ av v s₁ tk₁ p₁ R₁ c₁ ⟨h1, h2⟩ => ?_
  · exact ⟨_, _, rfl, ⟨_, rfl⟩, _, _, rfl, ⟨_, rfl⟩, _, _, rfl, ⟨_, rfl⟩, _, _, rfl, ⟨_, rfl⟩, _, _, rfl, ⟨_, rfl⟩, _, _, rfl, ⟨_, rfl⟩, rfl⟩
  · subst h1 h2
    exact PU.seq tk₁ (set_sound G R₁ c₁ h) fun ρ₂ σ₂ _ s₂ tk₂ p₂ R₂ h₂ => ⟨rfl, tk₂, ρ₂, σ₂, p₁.trans p₂, R₂, h₂⟩
end
end
end W58
end
section
open PySem PySem.W PyProof.Rows PySem.Calls PyProof.V PySem.Spec
set_option maxRecDepth 100000
namespace W58
noncomputable section
theorem ints_conc {ρ : List Addr} : ∀ {vs : List Value} {ns : List Int}, IntsAre vs ns → concs ρ (intAVs ns) vs
  | _, _, .nil => rfl
  | _, _, .cons i t h => ⟨_, _, rfl, ⟨t, rfl⟩, ints_conc h⟩
/-- the law's frame, entered from the module -/
theorem law_enter {w : World} {s s₂ : Shared} {env : Env} {L : Addr} {ns : List Int} {vs : List Value} {m cm : Str → Option Value} (hl : s.heap.IsList L vs.toArray) (hi : IntsAre vs ns)
    (XC : InCallC s env.locals m env.cells cm s₂) (hk : env.kindOf (Str.ofString "script") = some .cell) (hcl : ∃ c, env.cells.lookup (Str.ofString "script") = some c) (hcm : cm (Str.ofString "script") = some (.ref L)) :
    Rel ⟨s.heap, s.heap, env, 1, fun _ => True, true, s.gens, s.os, hashStr w⟩ [L] ⟨[(Str.ofString "script", .ref 0)], [.list (intAVs ns)]⟩ s₂ := by
  obtain ⟨h', tk, e, kp⟩ := XC.done
  have fr := XC.toInCall.fresh
  obtain ⟨ol, hol, holc, oln, hold⟩ := hl
  have cellAt : ∀ x c, env.cells.lookup x = some c → env.locals < c := fun x c h => XC.above x c (mem_of_lookup h)
  have lv : ∀ a, Live [L] ⟨[(Str.ofString "script", .ref 0)], [.list (intAVs ns)]⟩ a → a = L := fun a ⟨i, x, h1, h2, h3⟩ => by
    cases i with
    | zero => exact (Option.some.inj h1).symm
    | succ i => simp at h1
  have big : ∀ c, s.heap.objs.size ≤ c → ¬ Live [L] ⟨[(Str.ofString "script", .ref 0)], [.list (intAVs ns)]⟩ c := fun c h q => by
    have := lv c q; subst this; exact absurd (Heap.lt_size hol) (Nat.not_lt.mpr h)
  have none_of : ∀ c, s.heap.objs.size ≤ c → s.heap.get? c = none := fun c h => Heap.get?_none_of_le h
  refine ⟨fun _ _ q => q, fun b o q => XC.toInCall.keep b o q, by rw [e], by rw [e], ⟨m, XC.toInCall.ns, fun x av q1 q2 => ?_⟩, fun x av q1 q2 => ?_, fun x c q => ?_, fun _ x c q => none_of c (Nat.le_of_lt (Nat.lt_of_le_of_lt fr (cellAt x c q))),
    rfl, fun i j a x y h1 h2 _ _ _ _ => ?_, fun i a x h1 h2 => ?_, fun i a x h1 _ _ h4 => ?_, big _ fr, none_of _ fr, fr, Nat.le_refl _, fun _ _ _ _ _ => trivial⟩
  · rw [List.lookup_cons] at q1
    split at q1
    · rename_i q; rw [beq_iff_eq.mp q] at q2; rw [hk] at q2; cases q2
    · cases q1
  · rw [List.lookup_cons] at q1
    split at q1
    · rename_i q
      cases q1
      rw [beq_iff_eq.mp q]
      obtain ⟨c, hc⟩ := hcl
      obtain ⟨o, ho, hd⟩ := XC.cell _ c hc
      exact ⟨c, o, .ref L, hc, ho, by rw [hd, hcm], L, rfl, rfl⟩
    · cases q1
  · obtain ⟨o, ho, hd⟩ := XC.cell x c q
    have hlt := cellAt x c q
    exact ⟨big c (Nat.le_of_lt (Nat.lt_of_le_of_lt fr hlt)), Nat.ne_of_gt hlt, o, _, ho, hd⟩
  · have a1 : i = 0 := by have := (List.getElem?_eq_some_iff.mp h1).1; simp at this; exact this
    have a2 : j = 0 := by have := (List.getElem?_eq_some_iff.mp h2).1; simp at this; exact this
    rw [a1, a2]
  · cases i with
    | zero =>
      cases h1; cases h2
      exact ⟨ol, XC.toInCall.keep _ _ hol, holc, _, oln, hold, by simpa using ints_conc hi⟩
    | succ i => simp at h1
  · cases i with
    | zero => exact absurd h4 (Nat.not_succ_le_zero 0)
    | succ i => simp at h1
noncomputable def lawFd (pm cd doc : Value) : FuncData := { docDef lawD.name lawD.params lawD.body lawD.scope pm cd doc with defaults := .none, kwdefaults := .none }
structure LawEnv (env : Env) : Prop where
  scope : env.scope = fScope (cell 25)
  glob : env.globals = mainGlobals
  blt : env.builtins = builtinsNs
  frame : env.frame = some env.locals
theorem lawEnv (pm cd doc : Value) (L a : Addr) : LawEnv (callEnvC (lawFd pm cd doc) L a) := ⟨rfl, rfl, rfl, rfl⟩
theorem roomL (env : Env) {n : Nat} (hn : n ≤ 400) : Room n (callerA.deeper env) := by
  refine ⟨rfl, ?_, ?_⟩
  · have h : 1 + claimMargin + 1 + 400 < recursionLimit := by decide +kernel
    exact Nat.lt_of_le_of_lt (Nat.add_le_add_left hn (1 + claimMargin + 1)) h
  · have h : 4 + 3 + 10 * 400 + 100 < cLine := by decide +kernel
    show 4 + 3 + 10 * n + 100 < cLine
    (first | lia | omega)
/-- the law's body in its frame -/
theorem law_body {w : World} {s₁ s₂ : Shared} {env : Env} {L : Addr} {ns : List Int} {vs : List Value} {m cm : Str → Option Value} (H : LawOk ns) (St : Stat w s₁.heap) (KE : (kE w.params).In s₁.heap) (V : LawEnv env) (hL : s₁.heap.IsList L vs.toArray) (hI : IntsAre vs ns)
    (XC : InCallC s₁ env.locals m env.cells cm s₂) (hcl : ∀ x, env.kindOf x = some .cell → ∃ c, env.cells.lookup x = some c) (hcm : cm (Str.ofString "script") = some (.ref L)) {E : Value → Shared → Prop} {Q : Flow → Shared → Prop}
    (k : ∀ s', (∀ b o, s₁.heap.get? b = some o → s'.heap.get? b = some o) → s'.gens = s₁.gens → s'.os = s₁.os → (∃ m, s'.heap.Ns env.locals m) → Q (.ret (.bool true)) s') :
    wpAny (model pw w) (callerA.deeper env) (execs (fBody (cell 25)) env) Q E s₂ := by
  have hk : env.scope.kind = .function := by rw [V.scope]; kernel_rfl
  have hks : env.kindOf (Str.ofString "script") = some .cell := by unfold Env.kindOf; rw [V.scope]; kernel_rfl
  have R := law_enter (w := w) hL hI XC hks (hcl _ hks) hcm
  generalize hF : (⟨s₁.heap, s₁.heap, env, 1, fun _ => True, true, s₁.gens, s₁.os, hashStr w⟩ : Fm) = F at R
  have e1 : F.env = env := by rw [← hF]
  subst e1
  have hA : ∀ n, n ≤ 400 → Room n (callerA.deeper F.env) := fun n hn => roomL F.env hn
  have G : Good w F lawCx := by
    rw [← hF]
    exact ⟨⟨V.glob, V.blt, hk, hcl, fun _ x y c h1 h2 => congrArg Prod.fst (pw_inj XC.apart (mem_of_lookup h1) (mem_of_lookup h2) rfl)⟩, V.scope, rfl, rfl, St, rfl⟩
  have hfr : (callerA.deeper F.env).frames = some [F.env] := rfl
  have hlf : F.env.frame = some F.env.locals := V.frame
  have X : (kE w.params).In F.H := by rw [← hF]; exact KE
  obtain ⟨p0, q0, e1', e2, e3, e4, e5, e6, k1, k2, k3, k4, k5, k6, p1, p2, p3, p4, p5, p6, p7, p8, p9, p10, p11, p12, p13, r1, b1, lp, hb⟩ := law_shape
  rw [hb]
  refine wpAny_execs_cons (wp_seq (first_sound G (hA 60 (by decide)) R (U := fun σ => σ = st₁ ns) ?_) fun f s₃ ⟨hf, tk₃, ρ₃, σ₃, p₃, R₃, hσ⟩ => ?_)
  · have kf : kindIn lawCx.sc (Str.ofString "first") = some .cell := by kernel_rfl
    unfold setVar
    rw [kf]
    exact ⟨rfl, rfl⟩
  subst hf hσ
  refine execs_then H G (hA 60 (by decide)) R₃ tk₃ (fun fl σ h => h.1) fun ρ₄ σ₄ s₄ p₄ R₄ tk₄ ⟨_, l, h1, h2, h3, h4, h5⟩ => ?_
  refine wpAny_execs_cons (wp_seqT tk₄ (try_sound G R₄ tk₄ (hA 60 (by decide)) hfr hlf X (by kernel_rfl) (by kernel_rfl) (by kernel_rfl) (by kernel_rfl) (by kernel_rfl) h1 h2 h3 h4) fun f s₅ tk₅ ⟨hf, R₅⟩ => ?_)
  subst hf
  refine PX.seq (tk₅) (sound_xs w 300 _ _ _ _ h5 F ρ₄ s₅ _ G (hA 300 (by decide)) R₅ (tk₅)) fun ρ₆ σ₆ fl f s₆ tk₆ p₆ R₆ c₆ h₆ => ?_
  subst h₆
  obtain ⟨v, rfl, cv⟩ := c₆
  cases cv
  refine k s₆ ?_ ?_ ?_ ?_
  · intro b o q; have := R₆.keep b o; rw [← hF] at this; exact this q
  · have := R₆.gens; rw [← hF] at this; exact this
  · have := R₆.os; rw [← hF] at this; exact this
  · obtain ⟨m, hm, _⟩ := R₆.loc; exact ⟨m, hm⟩
theorem law_walk (H : ∀ ns : List Int, ns.length ≤ 63 → LawOk ns) : WalkO view loose (fun _ _ => True) (fun w h => Kept w.params h) PySem.Challenge.rw_wo0058_01.row.toRowW lawD [] fun f vs => PySem.call f vs := by
  intro w s₀ s₁ mg mb G Y fa o pm cd doc dV kV ho hd hcd hD hmg hg args vals as hpre hlay hrd hwl hlo
  refine Ground.open G ?_
  intro T B D TE TW
  have hdv : dV = .none := hD.none (by kernel_rfl)
  have hkv : kV = .none := hD.noKw
  subst hdv hkv
  wrow_args hpre hlay hrd hwl hlo
  rename_i ns hs hlay0 hL1 hr1 hl2 as' as'' L vs as3 hL ra w1 r0 hI hr hcond hcond'
  have hlen : ns.length ≤ 63 := by (first | lia | omega)
  have St := stat_of Y T
  have KE : (kE w.params).In s₁.heap := fun a o e => Y a o (kE_in _ a o e)
  have hd' : o.data = .func (lawFd pm cd doc) := hd
  refine wpAny_call (codeAny_call_function (by show 1 + claimMargin < recursionLimit; decide +kernel) ho hd' (by kernel_rfl) (by kernel_rfl) rfl hcd ?_)
  rw [show bindArgs (lawFd pm cd doc) ⟨[.ref L], []⟩ = pure [(Str.ofString "script", .ref L)] by kernel_rfl, show (lawFd pm cd doc).closure = [] from rfl]
  refine wpAny_pure (wpAny_with_toks (n := s₁.toks) (Nat.le_refl _) (wpAny_newFunctionEnv_cells (by kernel_rfl) (fun x hx => ?_) fun env he s₂ XC htk => ?_))
  · rw [List.mem_singleton] at hx
    subst hx
    have kc : (lawFd pm cd doc).scope.names.lookup (Str.ofString "script") = some .cell := by kernel_rfl
    exact .inr ⟨kc, cellsFrom_some _ _ _ (.inl kc)⟩
  · obtain rfl : env = callEnvC (lawFd pm cd doc) s₁.heap.objs.size fa := he
    refine ⟨T.nolimit.keeps XC.toInCall.keep, codeAny_func ?_⟩
    have V := lawEnv pm cd doc s₁.heap.objs.size fa
    refine law_body (H ns hlen) St KE V hL hI XC (fun x h => ?_) ?_ fun s' k1 k2 k3 ⟨m, hm⟩ => ?_
    · exact Option.isSome_iff_exists.mp (cellsFrom_some (lawFd pm cd doc).scope.names (s₁.heap.objs.size + 1) [] (.inl h))
    · have kc : (callEnvC (lawFd pm cd doc) s₁.heap.objs.size fa).kindOf (Str.ofString "script") = some .cell := by kernel_rfl
      have hkk : ∀ (kf : Str → Option NameKind) (x : Str) (v : Value), kf x = some .cell → bindC kf [(x, v)] (fun _ => none) x = some v := fun kf x v h => by
        show (if kf x = some .local then (fun _ => none) else fun y => if y = x then some v else none) x = some v
        rw [if_neg (by rw [h]; decide), if_pos rfl]
      exact hkk _ _ _ kc
    · exact GoodW.toG (goodW_bool ⟨hm, k1, Nat.le_refl _⟩ (k2.trans hg) (fun _ => rfl) (by kernel_rfl) k3)
end
end W58
end
section
open PySem PySem.W PyProof.Rows PySem.Calls PySem.Spec PySem.SeqAt PyProof.V
set_option maxRecDepth 100000
set_option maxHeartbeats 2000000
namespace W58
local macro_rules | `(tactic| walk_at "gl") => `(tactic| with_reducible first | exact gl_error_reply | exact gl_parse257 | exact gl_b1_set | exact gl_in_table_b1 | exact gl_Whitespace | exact gl_escape_cdata | exact gl_escape_attrib | exact gl_escape_attrib_html | exact gl_escape_cdata_c14n | exact gl_escape_attrib_c14n | exact gl_law_hands | exact gl_law_unseen | exact gl_law_beside | exact gl_law_written | exact gl_law_spelled | exact gl_law_free | exact gl_law_lead | exact gl_len | exact gl_chr | exact gl_ord | exact gl_sum | exact gl_max | exact gl_str | exact gl_range | exact gl_list | exact gl_dict | exact gl_tuple)
local macro_rules | `(tactic| walk_at "lk") => `(tactic| with_reducible first | assumption | exact upd_hit | exact con_hit | (apply upd_miss; (· kernel_rfl); (· walk_at "lk")) | (apply con_miss; (· kernel_rfl); (· walk_at "lk")) | (apply drop_keep; (· kernel_rfl); (· kernel_rfl); (· walk_at "lk")))
local macro_rules | `(tactic| walk_at "hp") => `(tactic| with_reducible first | assumption | exact app_here | (apply app_left; walk_at "hp") | (apply Ext.at; (· assumption); (· walk_at "hp")))
local macro_rules | `(tactic| walk_at "sd") => `(tactic| first | with_reducible assumption | (first | lia | omega) | decide | (simp only [List.length_append, List.length_cons, List.length_nil]; (first | lia | omega)) | (simp only [List.length_append, List.length_cons, List.length_nil, intAVs_len, rangeList_len]; (first | lia | omega)) | (simp; done) | (simp; (first | lia | omega)))
local macro_rules | `(tactic| walk_at "lit") => `(tactic| fail)
local macro_rules | `(tactic| walk_at "e") => `(tactic| with_reducible first
  | (show E _ _ _ _ _; first | refine E_var (by decide +kernel) (by walk_at "lk") (by kernel_rfl) ?_ | apply E_int | apply E_sli | refine E_sub (by kernel_rfl) ?_ | refine E_cal (by kernel_rfl) ?_ | refine E_met (by kernel_rfl) (by kernel_rfl) (by kernel_rfl) (by kernel_rfl) ?_ | apply E_bin | refine E_cmp (by kernel_rfl) ?_ | apply E_lst | apply E_tup | refine E_att (by kernel_rfl) ?_ | apply E_and | apply E_ife | apply E_neg | apply E_bool | apply E_none | refine E_str (by walk_at "lit") ?_ | refine E_glb (by walk_at "gl") (by decide +kernel) (by kernel_rfl) ?_)
  | refine EL_con (by kernel_rfl) ?_ | apply EL_nil | apply el1_i | apply el2_i | apply ap_i | apply cal_i | apply asn_i | refine A_var (by decide +kernel) ?_ | apply AL_con | apply AL_nil | apply kal_i | apply nx_i | apply thn_n | apply XS_con | refine X_asn (by kernel_rfl) (by kernel_rfl) ?_
  | apply sub1_i | apply sub2_i | apply bin1_i | apply bin2_i | apply cmp1_i | apply cmp2_i | apply met_i | apply att_i | apply apm_i | apply B_add | apply B_sub | apply C_eq | apply C_ne | apply C_lt | apply C_le | apply C_gt | apply C_ge | apply C_seq | apply C_sne | apply C_ins | apply C_is
  | apply EO_non | apply EO_som | apply sli1_i | apply sli2_i | apply sli3_i | apply sli4_i | apply EB_one | apply EB_con | refine T_cmp (by kernel_rfl) ?_ | apply T_boo | apply T_att | apply TB_con | apply TB_nand | apply TB_nor | apply TS_nil | apply TS_one
  | apply X_if | apply X_try | refine X_exp (by kernel_rfl) ?_ | apply A_att | apply A_sub | apply SN_nil | refine SN_var (by decide +kernel) ?_ | apply XS_nil | apply X_ret | apply X_brk
  | apply thn_b | apply thn_r | apply exp_i | apply if_t | apply if_f | apply kret_i | apply sat_i | apply ssb2_i | apply ssb1_i | apply neg_i | apply bool_i | apply ife_t | apply ife_f
  | apply eb_t | apply eb_f | apply tat_i | apply tb_af | apply tb_ot | apply tb_at | apply tb_fl | apply if_tn | apply if_fn | apply tb_on | apply tb_op)
local macro_rules | `(tactic| walk_at "l") => `(tactic| first
  | ((with_reducible refine B_cat ?_ ?_); (· walk_at "sd")) | ((with_reducible refine B_mul ?_ ?_); (· walk_at "sd")) | ((with_reducible refine B_div ?_ ?_); (· walk_at "sd")) | ((with_reducible refine B_mod ?_ ?_); (· walk_at "sd"))
  | ((with_reducible refine S_up ?_ ?_); (· walk_at "sd")) | ((with_reducible refine S_fr ?_ ?_); (· walk_at "sd")) | ((with_reducible refine S_mi ?_ ?_); (· walk_at "sd"))
  | ((with_reducible refine both_i ?_ ?_); (· walk_at "sd")) | ((with_reducible refine lst_i ?_ ?_); (· walk_at "sd")) | ((with_reducible refine tup_i ?_ ?_); (· walk_at "sd")) | ((with_reducible refine Ap_blt ?_ ?_); (· decide)) | ((with_reducible refine F_slen ?_ ?_); (· walk_at "sd")) | with_reducible apply F_ord | with_reducible apply F_max
  | ((with_reducible apply B_lst); (· walk_at "hp"); (· rfl); (· walk_at "hp"); (· rfl); (· walk_at "sd"))
  | ((with_reducible refine F_rng1 ?_ ?_); (· walk_at "sd")) | ((with_reducible refine F_rng2 ?_ ?_); (· walk_at "sd")) | ((with_reducible apply F_list); (· walk_at "hp"); (· walk_at "sd"))
  | ((with_reducible apply I_tup); (· walk_at "hp"); (· (first | lia | omega)); (· rfl); (· walk_at "sd")) | ((with_reducible apply I_lst); (· walk_at "hp"); (· rfl); (· (first | lia | omega)); (· rfl); (· walk_at "sd"))
  | with_reducible apply M_count | with_reducible apply M_replace | with_reducible apply M_join | ((with_reducible apply M_append); (· walk_at "hp"))
  | ((with_reducible refine aM_none ?_ ?_); (· rfl)) | with_reducible apply M_bi | with_reducible apply M_fn | with_reducible apply G_count
  | ((with_reducible apply F_len); (· walk_at "hp"); (· rfl); (· walk_at "sd")))
local macro_rules | `(tactic| walk_at "go") => `(tactic| repeat (first | walk_at "e" | walk_at "l"))
local macro_rules | `(tactic| walk_at "in") => `(tactic| repeat ((fail_if_success (with_reducible apply XS_con)); (first | walk_at "e" | walk_at "l")))
section
/-! Heaps that keep what they hold; comprehensions and loops by what is looked up. -/
theorem at_lt {h : List AO} {m : Nat} {o : AO} (e : h[m]? = some o) : m < h.length := (List.getElem?_eq_some_iff.mp e).1
theorem set_same {h : List AO} {m : Nat} {o x : AO} (e : h[m]? = some o) : (h.set m x)[m]? = some x := by rw [List.getElem?_set_self (at_lt e)]
theorem set_ne {h : List AO} {m d : Nat} {o x : AO} (ne : d ≠ m) (e : h[m]? = some o) : (h.set d x)[m]? = some o := by rw [List.getElem?_set_ne ne]; exact e
theorem set_other {h : List AO} {m d : Nat} {o o' x : AO} (e : h[m]? = some o) (e' : h[d]? = some o') (ne : o ≠ o') : (h.set d x)[m]? = some o := set_ne (fun q => by subst q; rw [e] at e'; exact ne (Option.some.inj e')) e
noncomputable def ysOf (f : Nat → Option AV) (i : Nat) : List AV := (List.range i).filterMap f
theorem ysOf_succ (f : Nat → Option AV) (i : Nat) : ysOf f (i + 1) = ysOf f i ++ (match f i with | none => [] | some y => [y]) := by
  unfold ysOf
  rw [List.range_succ, List.filterMap_append]
  congr 1
  rw [List.filterMap_cons]
  cases f i <;> rfl
theorem ysOf_len (f : Nat → Option AV) (i : Nat) : (ysOf f i).length ≤ i := by
  unfold ysOf
  exact Nat.le_trans (List.length_filterMap_le _ _) (by simp)
/-- what an iterator does -/
structure Iter (hp : List AO) (len : Nat) (it : Nat → AO) (item : Nat → AV) : Prop where
  step : ∀ i, i < len → ∀ (h : List AO) (j : Nat), Ext hp h → h[j]? = some (it i) → stepIt h j = .item (item i) (it (i + 1))
  fin : ∀ (h : List AO) (j : Nat), Ext hp h → h[j]? = some (it len) → stepIt h j = .fin
theorem iter_str (hp : List AO) (l : List Nat) : Iter hp l.length (.siter l) (fun i => .str [l.getD i 0]) where
  step := fun i hi h j _ e => by
    unfold stepIt
    rw [e]
    try dsimp only
    rw [List.getElem?_eq_getElem hi]
    try dsimp only
    rw [List.getD_eq_getElem?_getD, List.getElem?_eq_getElem hi]; rfl
  fin := fun h j _ e => by
    unfold stepIt
    rw [e]
    try dsimp only
    rw [List.getElem?_eq_none (Nat.le_refl _)]
theorem iter_lst {hp : List AO} {m : Nat} {o : AO} {xs : List AV} (hm : hp[m]? = some o) (ho : o.lst? = some xs) : Iter hp xs.length (.liter m) (fun i => xs.getD i .none) where
  step := fun i hi h j x e => by
    unfold stepIt
    rw [e]
    try dsimp only
    rw [lst_at (x m o hm) ho]
    try dsimp only
    rw [List.getElem?_eq_getElem hi]
    try dsimp only
    rw [List.getD_eq_getElem?_getD, List.getElem?_eq_getElem hi]; rfl
  fin := fun h j x e => by
    unfold stepIt
    rw [e]
    try dsimp only
    rw [lst_at (x m o hm) ho]
    try dsimp only
    rw [List.getElem?_eq_none (Nat.le_refl _)]
theorem iter_rng (hp : List AO) (a : Int) (len : Nat) : Iter hp len (fun i => .riter (a + i) ((len : Int) - i) 1) (fun i => .int (a + i)) where
  step := fun i hi h j _ e => by
    unfold stepIt
    rw [e]
    try dsimp only
    rw [if_pos (by (first | lia | omega))]
    congr 2 <;> (first | lia | omega)
  fin := fun h j _ e => by
    unfold stepIt
    rw [e]
    try dsimp only
    rw [if_neg (by (first | lia | omega))]
theorem mid_at {hp t : List AO} {x : AO} : (hp ++ x :: t)[hp.length]? = some x := by simp
theorem mid_set {hp t : List AO} {x y : AO} : (hp ++ x :: t).set hp.length y = hp ++ y :: t := by simp
theorem mid2_at {hp t : List AO} {x z : AO} : (hp ++ x :: z :: t)[hp.length + 1]? = some z := by simp
theorem mid2_set {hp t : List AO} {x y z : AO} : (hp ++ x :: z :: t).set (hp.length + 1) y = hp ++ x :: y :: t := by simp
/-- a comprehension without a test -/
theorem comp_no {n : Nat} {sc : Scope} {x : Str} {elt : Expr} {loc : List (Str × AV)} {hp : List AO} {Q : AV → St → Prop} {it0 : AO} (len : Nat) (it : Nat → AO) (item : Nat → AV) (f : Nat → AV) (I : Iter hp len it item) (h0 : it0 = it 0) (hlen : len < 2 ^ 24)
    (turn : ∀ i, i < len → ∀ hp', Ext hp hp' → hp.length ≤ hp'.length → ∀ K : AV → St → Prop, (∀ g loc', K (f i) ⟨loc', hp' ++ g⟩) → E (n + 1) ⟨sc, false, hp.length⟩ elt ⟨upd x (item i) (dropN x loc), hp'⟩ K)
    (h : ∀ hp' r, Ext hp hp' → hp'[r]? = some (.plist ((List.range len).map f)) → hp.length ≤ r → Q (.ref r) ⟨loc, hp'⟩) :
    compWp (n + 2) ⟨sc, false, hp.length⟩ x elt [] hp.length (hp ++ [it0]).length loc ⟨loc, hp ++ [it0] ++ [.plist []]⟩ Q := by
  subst h0
  rw [show (hp ++ [it 0]).length = hp.length + 1 by simp, show hp ++ [it 0] ++ [AO.plist []] = hp ++ it 0 :: .plist [] :: [] by simp]
  unfold compWp
  refine ⟨fun k h => ∃ i g, i ≤ len ∧ k = len - i ∧ h = hp ++ it i :: .plist ((List.range i).map f) :: g, ⟨len, 0, [], Nat.zero_le _, rfl, rfl⟩, ?_⟩
  rintro k _ ⟨i, g, hi, hk, rfl⟩
  have e0 : Ext hp (hp ++ it i :: .plist ((List.range i).map f) :: g) := Ext.app _ _
  rcases Nat.lt_or_ge i len with hlt | hge
  · rw [I.step i hlt _ _ e0 mid_at]
    try dsimp only
    rw [mid_set]
    refine TS_nil ?_
    try dsimp only
    refine turn i hlt _ (Ext.app _ _) (by simp) _ fun g' loc' => ?_
    have e1 : (hp ++ it (i + 1) :: .plist ((List.range i).map f) :: g ++ g')[hp.length + 1]? = some (.plist ((List.range i).map f)) := app_left mid2_at
    try dsimp only
    rw [e1]
    refine ⟨by simp; (first | lia | omega), len - (i + 1), _, by (first | lia | omega), .inl rfl, i + 1, g ++ g', hlt, rfl, ?_⟩
    rw [List.append_assoc, List.cons_append, List.cons_append, mid2_set, List.range_succ, List.map_append]
    rfl
  · have : i = len := by (first | lia | omega)
    subst this
    rw [I.fin _ _ e0 mid_at]
    try dsimp only
    rw [mid_set]
    exact h _ _ (Ext.app _ _) mid2_at (Nat.le_succ _)
/-- a comprehension with one test -/
theorem comp_if {n : Nat} {sc : Scope} {x : Str} {elt t : Expr} {loc : List (Str × AV)} {hp : List AO} {Q : AV → St → Prop} {it0 : AO} (len : Nat) (it : Nat → AO) (item : Nat → AV) (f : Nat → Option AV) (I : Iter hp len it item) (h0 : it0 = it 0) (hlen : len < 2 ^ 24)
    (turn : ∀ i, i < len → ∀ hp', Ext hp hp' → hp.length ≤ hp'.length → ∀ K : Bool → St → Prop, (f i = none → ∀ g loc', K false ⟨loc', hp' ++ g⟩) →
      (∀ g loc', (∀ K' : AV → St → Prop, (∀ y g' loc'', f i = some y → K' y ⟨loc'', hp' ++ g ++ g'⟩) → E (n + 1) ⟨sc, false, hp.length⟩ elt ⟨loc', hp' ++ g⟩ K') → K true ⟨loc', hp' ++ g⟩) →
      T n ⟨sc, false, hp.length⟩ t ⟨upd x (item i) (dropN x loc), hp'⟩ K)
    (h : ∀ hp' r, Ext hp hp' → hp'[r]? = some (.plist (ysOf f len)) → hp.length ≤ r → Q (.ref r) ⟨loc, hp'⟩) :
    compWp (n + 2) ⟨sc, false, hp.length⟩ x elt [t] hp.length (hp ++ [it0]).length loc ⟨loc, hp ++ [it0] ++ [.plist []]⟩ Q := by
  subst h0
  rw [show (hp ++ [it 0]).length = hp.length + 1 by simp, show hp ++ [it 0] ++ [AO.plist []] = hp ++ it 0 :: .plist [] :: [] by simp]
  unfold compWp
  refine ⟨fun k h => ∃ i g, i ≤ len ∧ k = len - i ∧ h = hp ++ it i :: .plist (ysOf f i) :: g, ⟨len, 0, [], Nat.zero_le _, rfl, rfl⟩, ?_⟩
  rintro k _ ⟨i, g, hi, hk, rfl⟩
  have e0 : Ext hp (hp ++ it i :: .plist (ysOf f i) :: g) := Ext.app _ _
  have hyl := ysOf_len f i
  rcases Nat.lt_or_ge i len with hlt | hge
  · rw [I.step i hlt _ _ e0 mid_at]
    try dsimp only
    rw [mid_set]
    refine TS_one ?_
    refine turn i hlt _ (Ext.app _ _) (by simp) _ (fun hf g' loc' => ?_) fun g' loc' hE => ?_
    · try dsimp only
      refine ⟨len - (i + 1), _, by (first | lia | omega), .inl rfl, i + 1, g ++ g', hlt, rfl, ?_⟩
      rw [ysOf_succ, hf, List.append_nil, List.append_assoc]; rfl
    · try dsimp only
      refine hE _ fun y g'' loc'' hf => ?_
      have e1 : (hp ++ it (i + 1) :: .plist (ysOf f i) :: g ++ g' ++ g'')[hp.length + 1]? = some (.plist (ysOf f i)) := app_left (app_left mid2_at)
      try dsimp only
      rw [e1]
      refine ⟨by (first | lia | omega), len - (i + 1), _, by (first | lia | omega), .inl rfl, i + 1, g ++ g' ++ g'', hlt, rfl, ?_⟩
      rw [List.append_assoc, List.append_assoc, List.cons_append, List.cons_append, mid2_set, ysOf_succ, hf, List.append_assoc]
  · have : i = len := by (first | lia | omega)
    subst this
    rw [I.fin _ _ e0 mid_at]
    try dsimp only
    rw [mid_set]
    exact h _ _ (Ext.app _ _) mid2_at (Nat.le_succ _)
noncomputable def ForRun (n : Nat) (cx : Cx) (x : Str) (b : List Stmt) (R : Fl → St → Prop) (j : Nat) (σ₂ : St) : Prop := ∃ I : Nat → St → Prop, (∃ k, I k σ₂) ∧ ∀ k σ', I k σ' → (match stepIt σ'.hp j with
        | .no => False
        | .fin => R .next (σ'.putO j .any)
        | .item v o => setVar cx x v (σ'.putO j o) fun σ' => XS n cx b σ' fun fl σ'' => (match fl with
          | .brk => R .next σ''
          | .ret v => R (.ret v) σ''
          | _ => ∃ m σ₃, m < k ∧ (σ₃ = σ'' ∨ Wk σ₂.hp.length σ'' σ₃) ∧ I m σ₃))
theorem X_fo {n : Nat} {cx : Cx} {σ : St} {x : Str} {p q : Pos} {it : Expr} {b : List Stmt} {R : Fl → St → Prop} (h : E n cx it σ fun v σ₁ => mkIter v σ₁ fun j σ₂ => ForRun n cx x b R j σ₂) : X (n + 1) cx (.For (.Name x q) it b [] p) σ R := X_for h
noncomputable def LoopK (len : Nat) (it : Nat → AO) (Inv : Nat → List (Str × AV) → List AO → Prop) (R : Fl → St → Prop) (j N i : Nat) : Fl → St → Prop := fun fl σ => (match fl with
      | .brk => R .next σ
      | .ret v => R (.ret v) σ
      | _ => ∃ m σ₃, m < len - i ∧ (σ₃ = σ ∨ Wk N σ σ₃) ∧ ∃ i', i' ≤ len ∧ m = len - i' ∧ σ₃.hp[j]? = some (it i') ∧ Inv i' σ₃.loc σ₃.hp)
theorem loop_next {len : Nat} {it : Nat → AO} {Inv : Nat → List (Str × AV) → List AO → Prop} {R : Fl → St → Prop} {j N i : Nat} {loc : List (Str × AV)} {hp : List AO} (hi : i < len) (hit : hp[j]? = some (it (i + 1))) (inv : Inv (i + 1) loc hp) : LoopK len it Inv R j N i .next ⟨loc, hp⟩ :=
  ⟨len - (i + 1), ⟨loc, hp⟩, by (first | lia | omega), .inl rfl, i + 1, hi, rfl, hit, inv⟩
/-- a for loop: what holds between the turns, by look-ups -/
theorem for_any {n : Nat} {sc : Scope} {own : Bool} {fz : Nat} {x : Str} {b : List Stmt} {R : Fl → St → Prop} {loc₀ : List (Str × AV)} {hp₀ : List AO} {it0 : AO} (len : Nat) (it : Nat → AO) (item : Nat → AV) (Inv : Nat → List (Str × AV) → List AO → Prop)
    (hk : (kindIn sc x == some .local) = true ∨ ((kindIn sc x == some .cell) = true ∧ own = true)) (h0 : it0 = it 0)
    (hI : ∀ i loc hp, Inv i loc hp → Iter hp len it item)
    (hstab : ∀ i loc hp o o', Inv i loc hp → hp[hp₀.length]? = some o → (∃ k, o = it k) → Inv i loc (hp.set hp₀.length o'))
    (start : Inv 0 loc₀ (hp₀ ++ [it 0]))
    (turn : ∀ i, i < len → ∀ loc hp, Inv i loc hp → hp[hp₀.length]? = some (it (i + 1)) → XS n ⟨sc, own, fz⟩ b ⟨upd x (item i) loc, hp⟩ (LoopK len it Inv R hp₀.length (hp₀ ++ [it0]).length i))
    (fin : ∀ loc hp, Inv len loc hp → R .next ⟨loc, hp⟩) :
    ForRun n ⟨sc, own, fz⟩ x b R hp₀.length ⟨loc₀, hp₀ ++ [it0]⟩ := by
  refine ⟨fun k σ => ∃ i, i ≤ len ∧ k = len - i ∧ σ.hp[hp₀.length]? = some (it i) ∧ Inv i σ.loc σ.hp, ⟨len, 0, Nat.zero_le _, rfl, by subst h0; exact app_here, by subst h0; exact start⟩, ?_⟩
  rintro k ⟨loc, hp⟩ ⟨i, hi, hk', hat, hinv⟩
  dsimp only at hat hinv ⊢
  have II := hI i loc hp hinv
  rcases Nat.lt_or_ge i len with hlt | hge
  · rw [II.step i hlt hp _ (Ext.refl _) hat]
    dsimp only [St.putO]
    have t := turn i hlt loc (hp.set hp₀.length (it (i + 1))) (hstab i loc hp _ _ hinv hat ⟨i, rfl⟩) (set_same hat)
    subst hk'
    unfold setVar
    rcases hk with hk | ⟨hk, ho⟩
    · rw [beq_iff_eq.mp hk]; exact t
    · rw [beq_iff_eq.mp hk]; exact ⟨ho, t⟩
  · have : i = len := by (first | lia | omega)
    subst this
    rw [II.fin hp _ (Ext.refl _) hat]
    exact fin loc _ (hstab i loc hp _ _ hinv hat ⟨i, rfl⟩)
end
section
/-! parse257 -/
noncomputable def scan : List Nat → List Nat
  | [] => []
  | c :: r => if c = 34 then (match r with
      | [] => []
      | d :: r' => if d = 34 then 34 :: scan r' else []) else c :: scan r
noncomputable def p257 (l : List Nat) : List Nat := if (l.drop 3).take 2 = [32, 34] then scan (l.drop 5) else []
theorem lit_e : (Str.ofString "").cps.toList = [] := by decide +kernel
theorem lit_sq : (Str.ofString " \"").cps.toList = [32, 34] := by decide +kernel
theorem lit_q : (Str.ofString "\"").cps.toList = [34] := by decide +kernel
local macro_rules | `(tactic| walk_at "lit") => `(tactic| with_reducible first | exact lit_257 | exact lit_e | exact lit_sq | exact lit_q)
theorem scan_eq (c : Nat) (r : List Nat) : scan (c :: r) = if c = 34 then (match r with
      | [] => []
      | d :: r' => if d = 34 then 34 :: scan r' else []) else c :: scan r := by
  conv => lhs; unfold scan
structure PInv (l : List Nat) (d : List Nat) (i : Nat) (loc : List (Str × AV)) : Prop where
  resp : loc.lookup (Str.ofString "resp") = some (.str l)
  dir : loc.lookup (Str.ofString "dirname") = some (.str d)
  idx : loc.lookup (Str.ofString "i") = some (.int i)
  len : loc.lookup (Str.ofString "n") = some (.int l.length)
theorem drop_at {α : Type} {l : List α} {i : Nat} (h : i < l.length) : l.drop i = l[i] :: l.drop (i + 1) := List.drop_eq_getElem_cons h
theorem parse_body {l : List Nat} {hp : List AO} {n fz : Nat} {R : Fl → St → Prop} (hl : l.length < 2 ^ 24) (h3 : l.take 3 = [50, 53, 55]) (hR : ∀ loc, R (.ret (.str (p257 l))) ⟨loc, hp⟩) :
    XS (n + 40) ⟨fScope (cell 4), true, fz⟩ (fBody (cell 4)) ⟨[(Str.ofString "resp", .str l)], hp⟩ R := by
  have hl3 : 3 ≤ l.length := by
    have := congrArg List.length h3
    simp at this; (first | lia | omega)
  conv => arg 3; whnf
  walk_at "go"
  rw [show cut l none (some 3) = l.take 3 from cut_up l 3, h3]
  simp only [decide_true, Bool.not_true]
  walk_at "go"
  rw [show cut l (some 3) (some 5) = (l.drop 3).take 2 from cut_mid l 3 5 (by decide)]
  by_cases hq : (l.drop 3).take 2 = [32, 34]
  · rw [hq]
    simp only [decide_true, Bool.not_true]
    have hl5 : 5 ≤ l.length := by
      have := congrArg List.length hq
      simp at this; (first | lia | omega)
    have hp257 : p257 l = scan (l.drop 5) := if_pos hq
    rw [hp257] at hR
    walk_at "go"
    refine X_while (fun k σ => ∃ d i, PInv l d i σ.loc ∧ σ.hp = hp ∧ 5 ≤ i ∧ i ≤ l.length ∧ k = l.length - i ∧ d ++ scan (l.drop i) = scan (l.drop 5) ∧ d.length ≤ i) ?_ ?_
    · exact ⟨_, [], 5, ⟨by walk_at "lk", by walk_at "lk", (by show _ = some (AV.int 5); walk_at "lk"), by walk_at "lk"⟩, rfl, Nat.le_refl _, hl5, rfl, rfl, Nat.zero_le _⟩
    rintro k ⟨loc, hp'⟩ ⟨d, i, ⟨i1, i2, i3, i4⟩, rfl, h5, hi, hk, hd, hdl⟩
    dsimp only at i1 i2 i3 i4
    walk_at "go"
    by_cases hlt : i < l.length
    · rw [decide_eq_true (show (i : Int) < l.length by (first | lia | omega))]
      try dsimp only
      walk_at "go"
      refine I_str (c := l[i]) (by (first | lia | omega)) (by simp [hlt]) ?_
      walk_at "go"
      have hdr := drop_at hlt
      by_cases hc : [l[i]] = [34]
      · have hc' : l[i] = 34 := by simpa using hc
        rw [decide_eq_true hc]
        try dsimp only
        walk_at "go"
        by_cases hn : i + 1 < l.length
        · rw [decide_eq_false (show ¬ (l.length : Int) ≤ (i : Int) + 1 by (first | lia | omega))]
          try dsimp only
          walk_at "go"
          refine I_str (c := l[i + 1]) (by (first | lia | omega)) (by rw [show ((i : Int) + 1).toNat = i + 1 by (first | lia | omega)]; simp [hn]) ?_
          walk_at "go"
          have hdr2 := drop_at hn
          by_cases hc2 : [l[i + 1]] = [34]
          · have hc2' : l[i + 1] = 34 := by simpa using hc2
            rw [decide_eq_true hc2]
            simp only [Bool.not_true]
            walk_at "go"
            refine ⟨l.length - (i + 2), _, by (first | lia | omega), .inl rfl, d ++ [l[i]], i + 2, ⟨by walk_at "lk", by walk_at "lk", ?_, by walk_at "lk"⟩, rfl, by (first | lia | omega), by (first | lia | omega), rfl, ?_, by simp; (first | lia | omega)⟩
            · rw [show ((i + 2 : Nat) : Int) = (i : Int) + 1 + 1 by (first | lia | omega)]; walk_at "lk"
            · rw [← hd, hdr, hdr2, hc', hc2', scan_eq]; simp
          · have hc2' : l[i + 1] ≠ 34 := by simpa using hc2
            rw [decide_eq_false hc2]
            simp only [Bool.not_false]
            walk_at "go"
            have : scan (l.drop 5) = d := by rw [← hd, hdr, hdr2, hc', scan_eq]; simp [hc2']
            rw [this] at hR
            exact hR _
        · rw [decide_eq_true (show (l.length : Int) ≤ (i : Int) + 1 by (first | lia | omega))]
          try dsimp only
          walk_at "go"
          have hdr2 : l.drop (i + 1) = [] := List.drop_eq_nil_of_le (by (first | lia | omega))
          have : scan (l.drop 5) = d := by rw [← hd, hdr, hdr2, hc', scan_eq]; simp
          rw [this] at hR
          exact hR _
      · have hc' : l[i] ≠ 34 := by simpa using hc
        rw [decide_eq_false hc]
        try dsimp only
        walk_at "go"
        refine ⟨l.length - (i + 1), _, by (first | lia | omega), .inl rfl, d ++ [l[i]], i + 1, ⟨by walk_at "lk", by walk_at "lk", ?_, by walk_at "lk"⟩, rfl, by (first | lia | omega), by (first | lia | omega), rfl, ?_, by simp; (first | lia | omega)⟩
        · rw [show ((i + 1 : Nat) : Int) = (i : Int) + 1 by (first | lia | omega)]; walk_at "lk"
        · rw [← hd, hdr, scan_eq]; simp [hc']
    · rw [decide_eq_false (show ¬ (i : Int) < l.length by (first | lia | omega))]
      try dsimp only
      walk_at "go"
      have : scan (l.drop 5) = d := by rw [← hd, List.drop_eq_nil_of_le (by (first | lia | omega))]; simp [scan]
      rw [this] at hR
      exact hR _
  · rw [decide_eq_false hq]
    simp only [Bool.not_false]
    walk_at "go"
    have : p257 l = [] := if_neg hq
    rw [this] at hR
    exact hR _
theorem parse_spec {l : List Nat} {loc : List (Str × AV)} {hp : List AO} {n : Nat} {Q : AV → St → Prop} (hl : l.length < 2 ^ 24) (h3 : l.take 3 = [50, 53, 55]) (h : Q (.str (p257 l)) ⟨loc, hp⟩) : Ap (n + 41) (.con (.ref 53)) [.str l] ⟨loc, hp⟩ Q :=
  Ap_fn (st := cell 4) (by kernel_rfl) (by kernel_rfl) (by kernel_rfl) (parse_body hl h3 fun _ => ret_keep h)
end
section
/-! in_table_b1, the two tables, the spelling -/
theorem b1_spec {c : Nat} {loc : List (Str × AV)} {hp : List AO} {n : Nat} {Q : AV → St → Prop} (h : Q (.bool (decide ((c : Int) ∈ b1Set))) ⟨loc, hp⟩) : Ap (n + 40) (.con (.ref 71)) [.str [c]] ⟨loc, hp⟩ Q := by
  refine Ap_fn (st := cell 7) (by kernel_rfl) (by kernel_rfl) (by kernel_rfl) ?_
  show XS _ _ _ ⟨[(Str.ofString "code", .str [c])], hp⟩ _
  conv => arg 3; whnf
  walk_at "go"
  refine C_b1 ?_
  exact ret_keep h
noncomputable def unseenL : List Int := [173, 847, 6150, 6155, 6156, 6157, 8203, 8204, 8205, 8288] ++ rangeList 65024 65040 ++ [65279]
noncomputable def besideL : List Int := [172, 174, 846, 848, 6149, 6151, 6154, 6158, 8202, 8206, 8287, 8289, 65023, 65040, 65278, 65280]
theorem unseen_spec {loc : List (Str × AV)} {hp : List AO} {n : Nat} {Q : AV → St → Prop} (h : ∀ hp' r, Ext hp hp' → hp'[r]? = some (.plist (intAVs unseenL)) → hp.length ≤ r → Q (.ref r) ⟨loc, hp'⟩) : Ap (n + 40) (.con (.ref 193)) [] ⟨loc, hp⟩ Q := by
  refine Ap_fn (st := cell 19) (by kernel_rfl) (by kernel_rfl) (by kernel_rfl) ?_
  show XS _ _ _ ⟨[], hp⟩ _
  conv => arg 3; whnf
  walk_at "go"
  refine ret_keep (h _ _ ?_ ?_ ?_)
  · exact ((((Ext.app _ _).trans (Ext.app _ _)).trans (Ext.app _ _)).trans (Ext.app _ _)).trans ((Ext.app _ _).trans (Ext.app _ _))
  · exact app_here
  · simp
theorem beside_spec {loc : List (Str × AV)} {hp : List AO} {n : Nat} {Q : AV → St → Prop} (h : ∀ hp' r, Ext hp hp' → hp'[r]? = some (.plist (intAVs besideL)) → hp.length ≤ r → Q (.ref r) ⟨loc, hp'⟩) : Ap (n + 40) (.con (.ref 200)) [] ⟨loc, hp⟩ Q := by
  refine Ap_fn (st := cell 20) (by kernel_rfl) (by kernel_rfl) (by kernel_rfl) ?_
  show XS _ _ _ ⟨[], hp⟩ _
  conv => arg 3; whnf
  walk_at "go"
  exact ret_keep (h _ _ (Ext.app _ _) app_here (Nat.le_refl _))
end
section
/-! the five hands -/
noncomputable def pAmp : Nat × List Nat := (38, [97, 109, 112])
noncomputable def pLt : Nat × List Nat := (60, [108, 116])
noncomputable def pGt : Nat × List Nat := (62, [103, 116])
noncomputable def pQuot : Nat × List Nat := (34, [113, 117, 111, 116])
noncomputable def hnd : Nat → List (Nat × List Nat)
  | 0 => [pAmp, pLt, pGt]
  | 1 => [pAmp, pLt, pGt, (13, [35, 120, 68])]
  | 2 => [pAmp, pLt, pGt, pQuot, (13, [35, 49, 51]), (10, [35, 49, 48]), (9, [35, 48, 57])]
  | 3 => [pAmp, pGt, pQuot]
  | _ => [pAmp, pLt, pQuot, (9, [35, 120, 57]), (10, [35, 120, 65]), (13, [35, 120, 68])]
noncomputable def hAddr : Nat → Addr
  | 0 => 151
  | 1 => 172
  | 2 => 158
  | 3 => 165
  | _ => 179
noncomputable def esc (i : Nat) (l : List Nat) : List Nat := (hnd i).foldl (fun l p => sub1 p.1 (38 :: p.2 ++ [59]) l) l
theorem sub1_len {c : Nat} {z : List Nat} {m : Nat} (hz : z.length ≤ m) (h1 : 1 ≤ m) : ∀ l : List Nat, (sub1 c z l).length ≤ l.length * m
  | [] => by simp [sub1]
  | a :: l => by
    have e : sub1 c z (a :: l) = (if a = c then z else [a]) ++ sub1 c z l := rfl
    rw [e, List.length_append, List.length_cons, Nat.add_mul]
    have := sub1_len (c := c) hz h1 l
    split
    · (first | lia | omega)
    · simp; (first | lia | omega)
/-- one test and its writing -/
theorem X_esc {n : Nat} {sc : Scope} {own : Bool} {fz : Nat} {loc : List (Str × AV)} {hp : List AO} {xt s1 s2 : Str} {l z : List Nat} {c k1 k7 k8 : Nat} {N m : Nat} {p1 p2 p3 p4 p5 p6 p7 p8 p9 p10 p11 : Pos} {R : Fl → St → Prop}
    (hk : (kindIn sc xt == some .local) = true) (hd : (xt == debugName) = false) (e1 : s1.cps.toList = [c]) (e2 : s2.cps.toList = z) (ne : z ≠ [c]) (hpos : p6.endLine = p9.line) (hl : loc.lookup xt = some (.str l)) (hlen : l.length ≤ N) (hz : z.length = m) (h1 : 1 ≤ m) (hb : N + (N + 1) * m ≤ 2 ^ 24)
    (h : ∀ loc', loc'.lookup xt = some (.str (sub1 c z l)) → (sub1 c z l).length ≤ N * m → R .next ⟨loc', hp⟩) :
    X (n + 12) ⟨sc, own, fz⟩ (.If (.Compare (.Constant (.str s1) k1 p1) [.In] [.Name xt p2] p3) [.Assign [.Name xt p4] (.Call (.Attribute (.Name xt p5) (Str.ofString "replace") p6) [.Constant (.str s1) k7 p7, .Constant (.str s2) k8 p8] [] p9) p10] [] p11) ⟨loc, hp⟩ R := by
  have es1 : s1 = ⟨#[c]⟩ := by
    obtain ⟨a⟩ := s1
    have : a.toList = [c] := e1
    have : a = #[c] := by apply Array.ext'; rw [this]
    rw [this]
  have hne : s1 ≠ s2 := fun q => ne (by rw [← e2, ← q, e1])
  have hs : (sub1 c z l).length ≤ N * m := Nat.le_trans (sub1_len (Nat.le_of_eq hz) h1 l) (Nat.mul_le_mul_right _ hlen)
  refine X_if (T_cmp rfl (E_str e1 (E_loc hk hl hd (C_ins ?_))))
  by_cases hm : c ∈ l
  · rw [decide_eq_true hm]
    refine if_t (XS_con (X_asn rfl rfl (E_met rfl hpos rfl rfl (E_loc hk hl hd (M_replace (aM_some (l := l) (p := s1) (q := s2) rfl ⟨hne, ?_⟩ (AL_con (A_loc hk (AL_nil (nx_i (thn_n (XS_nil (h _ ?_ hs)))))))))))))
    · have : s2.length = z.length := by rw [← e2]; simp [Str.length]
      rw [this, hz]; exact Nat.le_trans (Nat.add_le_add hlen (Nat.mul_le_mul_right _ (Nat.succ_le_succ hlen))) hb
    · rw [es1, replace_is, e2]; exact upd_hit
  · rw [decide_eq_false hm]
    refine if_f (XS_nil (h loc ?_ hs))
    rw [sub1_free c z l hm]; exact hl
theorem lt_amp : (Str.ofString "&").cps.toList = [38] := by decide +kernel
theorem lt_lt : (Str.ofString "<").cps.toList = [60] := by decide +kernel
theorem lt_gt : (Str.ofString ">").cps.toList = [62] := by decide +kernel
theorem lt_cr : (Str.ofString "\r").cps.toList = [13] := by decide +kernel
theorem lt_nl : (Str.ofString "\n").cps.toList = [10] := by decide +kernel
theorem lt_tab : (Str.ofString "\t").cps.toList = [9] := by decide +kernel
theorem lt_amp2 : (Str.ofString "&amp;").cps.toList = 38 :: pAmp.2 ++ [59] := by decide +kernel
theorem lt_lt2 : (Str.ofString "&lt;").cps.toList = 38 :: pLt.2 ++ [59] := by decide +kernel
theorem lt_gt2 : (Str.ofString "&gt;").cps.toList = 38 :: pGt.2 ++ [59] := by decide +kernel
theorem lt_quot2 : (Str.ofString "&quot;").cps.toList = 38 :: pQuot.2 ++ [59] := by decide +kernel
theorem lt_xD : (Str.ofString "&#xD;").cps.toList = 38 :: [35, 120, 68] ++ [59] := by decide +kernel
theorem lt_13 : (Str.ofString "&#13;").cps.toList = 38 :: [35, 49, 51] ++ [59] := by decide +kernel
theorem lt_10 : (Str.ofString "&#10;").cps.toList = 38 :: [35, 49, 48] ++ [59] := by decide +kernel
theorem lt_09 : (Str.ofString "&#09;").cps.toList = 38 :: [35, 48, 57] ++ [59] := by decide +kernel
theorem lt_x9 : (Str.ofString "&#x9;").cps.toList = 38 :: [35, 120, 57] ++ [59] := by decide +kernel
theorem lt_xA : (Str.ofString "&#xA;").cps.toList = 38 :: [35, 120, 65] ++ [59] := by decide +kernel
local macro_rules | `(tactic| walk_at "lit") => `(tactic| with_reducible first | exact lt_amp | exact lt_lt | exact lt_gt | exact lt_cr | exact lt_nl | exact lt_tab | exact lit_q | exact lt_amp2 | exact lt_lt2 | exact lt_gt2 | exact lt_quot2 | exact lt_xD | exact lt_13 | exact lt_10 | exact lt_09 | exact lt_x9 | exact lt_xA)
theorem esc_fin {l : List Nat} {loc' : List (Str × AV)} {hp : List AO} {n : Nat} {sc : Scope} {fz : Nat} {p p' : Pos} {R : Fl → St → Prop} (hk : (kindIn sc (Str.ofString "text") == some .local) = true) (hl : loc'.lookup (Str.ofString "text") = some (.str l)) (h : R (.ret (.str l)) ⟨loc', hp⟩) :
    XS (n + 4) ⟨sc, true, fz⟩ [.Return (some (.Name (Str.ofString "text") p)) p'] ⟨loc', hp⟩ R :=
  XS_con (X_ret (E_loc hk hl rfl h))
theorem esc_0 {l : List Nat} {loc : List (Str × AV)} {hp : List AO} {n : Nat} {Q : AV → St → Prop} (hl : l.length ≤ 200) (h : Q (.str (esc 0 l)) ⟨loc, hp⟩) : Ap (n + 60) (.con (.ref 151)) [.str l] ⟨loc, hp⟩ Q := by
  refine Ap_fn (st := cell 12) (by kernel_rfl) (by kernel_rfl) (by kernel_rfl) ?_
  show XS _ _ _ ⟨[(Str.ofString "text", .str l)], hp⟩ _
  conv => arg 3; whnf
  refine XS_con (X_try (XS_con ?_))
  refine X_esc (by decide +kernel) (by kernel_rfl) (by walk_at "lit") (by walk_at "lit") (by decide) (by decide) con_hit hl (m := 5) (by decide) (by decide) (by decide) fun loc1 h1 l1 => XS_con ?_
  refine X_esc (by decide +kernel) (by kernel_rfl) (by walk_at "lit") (by walk_at "lit") (by decide) (by decide) h1 l1 (m := 4) (by decide) (by decide) (by decide) fun loc2 h2 l2 => XS_con ?_
  refine X_esc (by decide +kernel) (by kernel_rfl) (by walk_at "lit") (by walk_at "lit") (by decide) (by decide) h2 l2 (m := 4) (by decide) (by decide) (by decide) fun loc3 h3 l3 => ?_
  exact thn_n (esc_fin (by decide +kernel) h3 (thn_r (ret_keep h)))
theorem esc_1 {l : List Nat} {loc : List (Str × AV)} {hp : List AO} {n : Nat} {Q : AV → St → Prop} (hl : l.length ≤ 200) (h : Q (.str (esc 1 l)) ⟨loc, hp⟩) : Ap (n + 60) (.con (.ref 172)) [.str l] ⟨loc, hp⟩ Q := by
  refine Ap_fn (st := cell 15) (by kernel_rfl) (by kernel_rfl) (by kernel_rfl) ?_
  show XS _ _ _ ⟨[(Str.ofString "text", .str l)], hp⟩ _
  conv => arg 3; whnf
  refine XS_con (X_try (XS_con ?_))
  refine X_esc (by decide +kernel) (by kernel_rfl) (by walk_at "lit") (by walk_at "lit") (by decide) (by decide) con_hit hl (m := 5) (by decide) (by decide) (by decide) fun loc1 h1 l1 => XS_con ?_
  refine X_esc (by decide +kernel) (by kernel_rfl) (by walk_at "lit") (by walk_at "lit") (by decide) (by decide) h1 l1 (m := 4) (by decide) (by decide) (by decide) fun loc2 h2 l2 => XS_con ?_
  refine X_esc (by decide +kernel) (by kernel_rfl) (by walk_at "lit") (by walk_at "lit") (by decide) (by decide) h2 l2 (m := 4) (by decide) (by decide) (by decide) fun loc3 h3 l3 => XS_con ?_
  refine X_esc (by decide +kernel) (by kernel_rfl) (by walk_at "lit") (by walk_at "lit") (by decide) (by decide) h3 l3 (m := 5) (by decide) (by decide) (by decide) fun loc4 h4 l4 => ?_
  exact thn_n (esc_fin (by decide +kernel) h4 (thn_r (ret_keep h)))
theorem esc_2 {l : List Nat} {loc : List (Str × AV)} {hp : List AO} {n : Nat} {Q : AV → St → Prop} (hl : l.length ≤ 200) (h : Q (.str (esc 2 l)) ⟨loc, hp⟩) : Ap (n + 60) (.con (.ref 158)) [.str l] ⟨loc, hp⟩ Q := by
  refine Ap_fn (st := cell 13) (by kernel_rfl) (by kernel_rfl) (by kernel_rfl) ?_
  show XS _ _ _ ⟨[(Str.ofString "text", .str l)], hp⟩ _
  conv => arg 3; whnf
  refine XS_con (X_try (XS_con ?_))
  refine X_esc (by decide +kernel) (by kernel_rfl) (by walk_at "lit") (by walk_at "lit") (by decide) (by decide) con_hit hl (m := 5) (by decide) (by decide) (by decide) fun loc1 h1 l1 => XS_con ?_
  refine X_esc (by decide +kernel) (by kernel_rfl) (by walk_at "lit") (by walk_at "lit") (by decide) (by decide) h1 l1 (m := 4) (by decide) (by decide) (by decide) fun loc2 h2 l2 => XS_con ?_
  refine X_esc (by decide +kernel) (by kernel_rfl) (by walk_at "lit") (by walk_at "lit") (by decide) (by decide) h2 l2 (m := 4) (by decide) (by decide) (by decide) fun loc3 h3 l3 => XS_con ?_
  refine X_esc (by decide +kernel) (by kernel_rfl) (by walk_at "lit") (by walk_at "lit") (by decide) (by decide) h3 l3 (m := 6) (by decide) (by decide) (by decide) fun loc4 h4 l4 => XS_con ?_
  refine X_esc (by decide +kernel) (by kernel_rfl) (by walk_at "lit") (by walk_at "lit") (by decide) (by decide) h4 l4 (m := 5) (by decide) (by decide) (by decide) fun loc5 h5 l5 => XS_con ?_
  refine X_esc (by decide +kernel) (by kernel_rfl) (by walk_at "lit") (by walk_at "lit") (by decide) (by decide) h5 l5 (m := 5) (by decide) (by decide) (by decide) fun loc6 h6 l6 => XS_con ?_
  refine X_esc (by decide +kernel) (by kernel_rfl) (by walk_at "lit") (by walk_at "lit") (by decide) (by decide) h6 l6 (m := 5) (by decide) (by decide) (by decide) fun loc7 h7 l7 => ?_
  exact thn_n (esc_fin (by decide +kernel) h7 (thn_r (ret_keep h)))
theorem esc_3 {l : List Nat} {loc : List (Str × AV)} {hp : List AO} {n : Nat} {Q : AV → St → Prop} (hl : l.length ≤ 200) (h : Q (.str (esc 3 l)) ⟨loc, hp⟩) : Ap (n + 60) (.con (.ref 165)) [.str l] ⟨loc, hp⟩ Q := by
  refine Ap_fn (st := cell 14) (by kernel_rfl) (by kernel_rfl) (by kernel_rfl) ?_
  show XS _ _ _ ⟨[(Str.ofString "text", .str l)], hp⟩ _
  conv => arg 3; whnf
  refine XS_con (X_try (XS_con ?_))
  refine X_esc (by decide +kernel) (by kernel_rfl) (by walk_at "lit") (by walk_at "lit") (by decide) (by decide) con_hit hl (m := 5) (by decide) (by decide) (by decide) fun loc1 h1 l1 => XS_con ?_
  refine X_esc (by decide +kernel) (by kernel_rfl) (by walk_at "lit") (by walk_at "lit") (by decide) (by decide) h1 l1 (m := 4) (by decide) (by decide) (by decide) fun loc2 h2 l2 => XS_con ?_
  refine X_esc (by decide +kernel) (by kernel_rfl) (by walk_at "lit") (by walk_at "lit") (by decide) (by decide) h2 l2 (m := 6) (by decide) (by decide) (by decide) fun loc3 h3 l3 => ?_
  exact thn_n (esc_fin (by decide +kernel) h3 (thn_r (ret_keep h)))
theorem esc_4 {l : List Nat} {loc : List (Str × AV)} {hp : List AO} {n : Nat} {Q : AV → St → Prop} (hl : l.length ≤ 200) (h : Q (.str (esc 4 l)) ⟨loc, hp⟩) : Ap (n + 60) (.con (.ref 179)) [.str l] ⟨loc, hp⟩ Q := by
  refine Ap_fn (st := cell 16) (by kernel_rfl) (by kernel_rfl) (by kernel_rfl) ?_
  show XS _ _ _ ⟨[(Str.ofString "text", .str l)], hp⟩ _
  conv => arg 3; whnf
  refine XS_con (X_try (XS_con ?_))
  refine X_esc (by decide +kernel) (by kernel_rfl) (by walk_at "lit") (by walk_at "lit") (by decide) (by decide) con_hit hl (m := 5) (by decide) (by decide) (by decide) fun loc1 h1 l1 => XS_con ?_
  refine X_esc (by decide +kernel) (by kernel_rfl) (by walk_at "lit") (by walk_at "lit") (by decide) (by decide) h1 l1 (m := 4) (by decide) (by decide) (by decide) fun loc2 h2 l2 => XS_con ?_
  refine X_esc (by decide +kernel) (by kernel_rfl) (by walk_at "lit") (by walk_at "lit") (by decide) (by decide) h2 l2 (m := 6) (by decide) (by decide) (by decide) fun loc3 h3 l3 => XS_con ?_
  refine X_esc (by decide +kernel) (by kernel_rfl) (by walk_at "lit") (by walk_at "lit") (by decide) (by decide) h3 l3 (m := 5) (by decide) (by decide) (by decide) fun loc4 h4 l4 => XS_con ?_
  refine X_esc (by decide +kernel) (by kernel_rfl) (by walk_at "lit") (by walk_at "lit") (by decide) (by decide) h4 l4 (m := 5) (by decide) (by decide) (by decide) fun loc5 h5 l5 => XS_con ?_
  refine X_esc (by decide +kernel) (by kernel_rfl) (by walk_at "lit") (by walk_at "lit") (by decide) (by decide) h5 l5 (m := 5) (by decide) (by decide) (by decide) fun loc6 h6 l6 => ?_
  exact thn_n (esc_fin (by decide +kernel) h6 (thn_r (ret_keep h)))
theorem esc_spec {i : Nat} {l : List Nat} {loc : List (Str × AV)} {hp : List AO} {n : Nat} {Q : AV → St → Prop} (hi : i < 5) (hl : l.length ≤ 200) (h : Q (.str (esc i l)) ⟨loc, hp⟩) : Ap (n + 60) (.con (.ref (hAddr i))) [.str l] ⟨loc, hp⟩ Q := by
  match i, hi with
  | 0, _ => exact esc_0 hl h
  | 1, _ => exact esc_1 hl h
  | 2, _ => exact esc_2 hl h
  | 3, _ => exact esc_3 hl h
  | 4, _ => exact esc_4 hl h
end
section
/-! a sign under so many layers; written, spelled -/
noncomputable def sp (s : Nat) (nm : List Nat) : Nat → List Nat
  | 0 => [s]
  | k + 1 => 38 :: (rep [97, 109, 112, 59] k ++ nm ++ [59])
noncomputable def others : List Nat := [60, 62, 34, 13, 10, 9]
theorem rep_succ (l : List Nat) (k : Nat) : rep l ((k + 1 : Nat) : Int) = l ++ rep l (k : Int) := by
  unfold rep
  rw [show ((k + 1 : Nat) : Int).toNat = k + 1 by (first | lia | omega), show ((k : Nat) : Int).toNat = k by (first | lia | omega), List.replicate_succ]; rfl
theorem rep_free {c : Nat} (h : c ∉ [97, 109, 112, 59]) : ∀ k : Nat, c ∉ rep [97, 109, 112, 59] k
  | 0 => by simp [rep]
  | k + 1 => by rw [rep_succ, List.mem_append]; exact fun o => o.elim h (rep_free h k)
theorem rep_len (l : List Nat) : ∀ k : Nat, (rep l k).length = l.length * k
  | 0 => by simp [rep]
  | k + 1 => by rw [rep_succ, List.length_append, rep_len l k, Nat.mul_succ]; (first | lia | omega)
theorem rep_count : ∀ k : Nat, (rep [97, 109, 112, 59] k).count 59 = k
  | 0 => by simp [rep]
  | k + 1 => by
    rw [rep_succ, List.count_append, rep_count k]
    have : [97, 109, 112, 59].count 59 = 1 := by decide
    (first | lia | omega)
noncomputable def okPair (p : Nat × List Nat) : Bool := (p.1 ≠ 59) && p.2.length ≤ 4 && p.2.all fun c => !(c ∈ (38 :: others)) && c ≠ 59 && c != 59
theorem fold_free : ∀ (ps : List (Nat × List Nat)) (l : List Nat), (∀ p ∈ ps, p.1 ∉ l) → ps.foldl (fun l p => sub1 p.1 (38 :: p.2 ++ [59]) l) l = l
  | [], _, _ => rfl
  | p :: ps, l, h => by
    rw [List.foldl_cons, sub1_free _ _ _ (h p (.head _))]
    exact fold_free ps l fun q m => h q (.tail _ m)
theorem hnd_shape (i : Nat) : ∃ t, hnd i = pAmp :: t ∧ ∀ p ∈ t, p.1 ∈ others := by
  match i with
  | 0 => exact ⟨_, rfl, by decide⟩
  | 1 => exact ⟨_, rfl, by decide⟩
  | 2 => exact ⟨_, rfl, by decide⟩
  | 3 => exact ⟨_, rfl, by decide⟩
  | n + 4 => exact ⟨_, rfl, by decide⟩
theorem esc_zero {i : Nat} (hi : i < 5) : ∀ p ∈ hnd i, esc i [p.1] = sp p.1 p.2 1 := by
  match i, hi with
  | 0, _ => decide
  | 1, _ => decide
  | 2, _ => decide
  | 3, _ => decide
  | 4, _ => decide
theorem hnd_ok {i : Nat} (hi : i < 5) : ∀ p ∈ hnd i, okPair p = true := by
  match i, hi with
  | 0, _ => decide
  | 1, _ => decide
  | 2, _ => decide
  | 3, _ => decide
  | 4, _ => decide
theorem ok_free {p : Nat × List Nat} (h : okPair p = true) {c : Nat} (hc : c ∈ 38 :: others) (k : Nat) : c ∉ rep [97, 109, 112, 59] k ++ p.2 ++ [59] := by
  have h4 : c ∉ [97, 109, 112, 59] := by
    rcases List.mem_cons.mp hc with rfl | m
    · decide
    · unfold others at m; intro o; simp at m o; (first | lia | omega)
  have h5 : c ∉ p.2 := by
    intro m
    unfold okPair at h
    rw [Bool.and_eq_true, Bool.and_eq_true, List.all_eq_true] at h
    have := h.2 c m
    simp [hc] at this
  intro m
  rcases List.mem_append.mp m with m | m
  · rcases List.mem_append.mp m with m | m
    · exact rep_free h4 k m
    · exact h5 m
  · exact h4 (by have := List.mem_singleton.mp m; subst this; decide)
theorem esc_sp {i : Nat} (hi : i < 5) {p : Nat × List Nat} (hp : p ∈ hnd i) : ∀ k, esc i (sp p.1 p.2 k) = sp p.1 p.2 (k + 1)
  | 0 => esc_zero hi p hp
  | k + 1 => by
    have hok := hnd_ok hi p hp
    obtain ⟨t, ht, hm⟩ := hnd_shape i
    unfold esc
    rw [ht, List.foldl_cons]
    have e1 : sub1 pAmp.1 (38 :: pAmp.2 ++ [59]) (sp p.1 p.2 (k + 1)) = sp p.1 p.2 (k + 2) := by
      show (if 38 = 38 then _ else _) ++ sub1 38 _ (rep [97, 109, 112, 59] k ++ p.2 ++ [59]) = 38 :: (rep [97, 109, 112, 59] ((k + 1 : Nat) : Int) ++ p.2 ++ [59])
      rw [if_pos rfl, sub1_free _ _ _ (ok_free hok (.head _) k), rep_succ]
      simp [pAmp]
    rw [e1]
    refine fold_free t _ fun q hq => ?_
    show q.1 ∉ 38 :: (rep [97, 109, 112, 59] ((k + 1 : Nat) : Int) ++ p.2 ++ [59])
    have hq' := hm q hq
    rw [List.mem_cons]
    exact fun o => o.elim (fun e => by rw [e] at hq'; revert hq'; decide) (ok_free hok (.tail _ hq') (k + 1))
theorem sp_count {i : Nat} (hi : i < 5) {p : Nat × List Nat} (hp : p ∈ hnd i) (k : Nat) : (sp p.1 p.2 k).count 59 = k := by
  have hok := hnd_ok hi p hp
  unfold okPair at hok
  rw [Bool.and_eq_true, Bool.and_eq_true, List.all_eq_true] at hok
  have hs : p.1 ≠ 59 := by simpa using hok.1.1
  have hn : 59 ∉ p.2 := fun m => by have := hok.2 59 m; simp at this
  cases k with
  | zero => simp [sp, hs]
  | succ k =>
    show (38 :: (rep [97, 109, 112, 59] k ++ p.2 ++ [59])).count 59 = k + 1
    rw [List.count_cons, List.count_append, List.count_append, rep_count, List.count_eq_zero.mpr hn]
    simp
theorem sp_len {i : Nat} (hi : i < 5) {p : Nat × List Nat} (hp : p ∈ hnd i) (k : Nat) : (sp p.1 p.2 k).length ≤ 4 * k + 6 := by
  have hok := hnd_ok hi p hp
  unfold okPair at hok
  rw [Bool.and_eq_true, Bool.and_eq_true] at hok
  have : p.2.length ≤ 4 := by simpa using hok.1.2
  cases k with
  | zero => simp [sp]
  | succ k =>
    show (38 :: (rep [97, 109, 112, 59] k ++ p.2 ++ [59])).length ≤ _
    rw [List.length_cons, List.length_append, List.length_append, rep_len]
    simp; (first | lia | omega)
theorem Ext.set {h h' : List AO} {d : Nat} {o : AO} (e : Ext h h') (l : h.length ≤ d) : Ext h (h'.set d o) := fun m x k => set_ne (fun q => by subst q; exact absurd (at_lt k) (by (first | lia | omega))) (e m x k)
theorem Ext.len {h h' : List AO} (e : Ext h h') : h.length ≤ h'.length := by
  cases hh : h.length with
  | zero => (first | lia | omega)
  | succ n =>
    have : h[n]? = some (h[n]'(by (first | lia | omega))) := List.getElem?_eq_getElem (by (first | lia | omega))
    have := at_lt (e _ _ this)
    (first | lia | omega)
/-- _law_written -/
structure WInv (i s : Nat) (nm : List Nat) (k t j : Nat) (hp₀ : List AO) (loc : List (Str × AV)) (hp : List AO) : Prop where
  hand : loc.lookup (Str.ofString "hand") = some (.con (.ref (hAddr i)))
  page : loc.lookup (Str.ofString "page") = some (.str (sp s nm (k + j)))
  ext : Ext hp₀ hp
theorem written_spec {i : Nat} (hi : i < 5) {p : Nat × List Nat} (hm : p ∈ hnd i) {k t : Nat} (ht : k + t ≤ 40) {loc : List (Str × AV)} {hp : List AO} {n : Nat} {Q : AV → St → Prop} (h : ∀ hp', Ext hp hp' → Q (.str (sp p.1 p.2 (k + t))) ⟨loc, hp'⟩) :
    Ap (n + 80) (.con (.ref 207)) [.con (.ref (hAddr i)), .str (sp p.1 p.2 k), .int t] ⟨loc, hp⟩ Q := by
  refine Ap_fn (st := cell 21) (by kernel_rfl) (by kernel_rfl) (by kernel_rfl) ?_
  show XS _ _ _ ⟨[(Str.ofString "hand", .con (.ref (hAddr i))), (Str.ofString "page", .str (sp p.1 p.2 k)), (Str.ofString "times", .int t)], hp⟩ _
  conv => arg 3; whnf
  refine XS_con (X_fo ?_)
  walk_at "go"
  refine it_rng app_here (by (first | lia | omega)) ?_
  have e : (if (0 : Int) < t then (t : Int) - 0 else 0) = ((t : Nat) : Int) - ((0 : Nat) : Int) := by split <;> (first | lia | omega)
  rw [e]
  refine for_any t (fun i => .riter (0 + (i : Int)) ((t : Int) - i) 1) (fun i => .int (0 + (i : Int))) (WInv i p.1 p.2 k t · hp) ?_ ?_ (fun _ _ _ _ => iter_rng _ 0 t) ?_ ?_ (fun j hj loc' hp' I hit => ?_) fun loc' hp' I => ?_
  · exact .inl (by decide +kernel)
  · rfl
  · exact fun j loc hp' o o' I _ _ => ⟨I.hand, I.page, I.ext.set (by simp)⟩
  · exact ⟨by walk_at "lk", (by show _ = some (AV.str (sp p.1 p.2 k)); walk_at "lk"), (Ext.app _ _).trans (Ext.app _ _)⟩
  · have i1 := I.hand
    have i2 := I.page
    have i3 := I.ext
    walk_at "go"
    refine esc_spec hi ?_ ?_
    · exact Nat.le_trans (sp_len hi hm _) (by (first | lia | omega))
    rw [esc_sp hi hm]
    walk_at "go"
    refine loop_next (by (first | lia | omega)) hit ⟨?_, ?_, i3⟩
    · walk_at "lk"
    · show _ = some (AV.str (sp p.1 p.2 (k + j + 1)))
      walk_at "lk"
  · have i2 := I.page
    have i3 := I.ext
    walk_at "go"
    exact ret_keep (h _ i3)
theorem lt_a : (Str.ofString "amp;").cps.toList = [97, 109, 112, 59] := by decide +kernel
theorem lt_semi : (Str.ofString ";").cps.toList = [59] := by decide +kernel
local macro_rules | `(tactic| walk_at "lit") => `(tactic| with_reducible first | exact lt_amp | exact lt_a | exact lt_semi)
theorem spelled_spec {s : Nat} {nm : List Nat} {k : Nat} (hk : k ≤ 40) (hn : nm.length ≤ 4) {loc : List (Str × AV)} {hp : List AO} {n : Nat} {Q : AV → St → Prop} (h : Q (.str (sp s nm k)) ⟨loc, hp⟩) :
    Ap (n + 40) (.con (.ref 214)) [.str [s], .str nm, .int k] ⟨loc, hp⟩ Q := by
  refine Ap_fn (st := cell 22) (by kernel_rfl) (by kernel_rfl) (by kernel_rfl) ?_
  show XS _ _ _ ⟨[(Str.ofString "sign", .str [s]), (Str.ofString "name", .str nm), (Str.ofString "layers", .int k)], hp⟩ _
  conv => arg 3; whnf
  walk_at "go"
  cases k with
  | zero =>
    rw [decide_eq_false (by decide)]
    try dsimp only
    walk_at "go"
    exact ret_keep h
  | succ k =>
    rw [decide_eq_true (show (0 : Int) < ((k + 1 : Nat) : Int) by (first | lia | omega))]
    try dsimp only
    walk_at "go"
    have e : ((k + 1 : Nat) : Int) - 1 = (k : Int) := by (first | lia | omega)
    rw [e]
    refine B_rep ⟨by (first | lia | omega), by (first | lia | omega), ?_⟩ ?_
    · simp; (first | lia | omega)
    have hl : (rep [97, 109, 112, 59] k).length = 4 * k := rep_len _ k
    walk_at "go"
    exact ret_keep h
/-- _law_hands -/
noncomputable def IsPair (hp : List AO) (r : Nat) (p : Nat × List Nat) : Prop := hp[r]? = some (.tup [.str [p.1], .str p.2])
noncomputable def Pairs (hp : List AO) (m : Nat) (ps : List (Nat × List Nat)) : Prop := ∃ rs : List Nat, rs.length = ps.length ∧ hp[m]? = some (.plist (rs.map .ref)) ∧ ∀ (j r : Nat) (p : Nat × List Nat), rs[j]? = some r → ps[j]? = some p → IsPair hp r p
noncomputable def Hands (hp : List AO) (m : Nat) : Prop := ∃ ts : List Nat, ts.length = 5 ∧ hp[m]? = some (.plist (ts.map .ref)) ∧ ∀ i t : Nat, i < 5 → ts[i]? = some t → ∃ l, hp[t]? = some (.tup [.con (.ref (hAddr i)), .ref l]) ∧ Pairs hp l (hnd i)
theorem ln_amp : (Str.ofString "amp").cps.toList = [97, 109, 112] := by decide +kernel
theorem ln_lt : (Str.ofString "lt").cps.toList = [108, 116] := by decide +kernel
theorem ln_gt : (Str.ofString "gt").cps.toList = [103, 116] := by decide +kernel
theorem ln_quot : (Str.ofString "quot").cps.toList = [113, 117, 111, 116] := by decide +kernel
theorem ln_xD : (Str.ofString "#xD").cps.toList = [35, 120, 68] := by decide +kernel
theorem ln_13 : (Str.ofString "#13").cps.toList = [35, 49, 51] := by decide +kernel
theorem ln_10 : (Str.ofString "#10").cps.toList = [35, 49, 48] := by decide +kernel
theorem ln_09 : (Str.ofString "#09").cps.toList = [35, 48, 57] := by decide +kernel
theorem ln_x9 : (Str.ofString "#x9").cps.toList = [35, 120, 57] := by decide +kernel
theorem ln_xA : (Str.ofString "#xA").cps.toList = [35, 120, 65] := by decide +kernel
local macro_rules | `(tactic| walk_at "lit") => `(tactic| with_reducible first | exact lt_amp | exact lt_lt | exact lt_gt | exact lt_cr | exact lt_nl | exact lt_tab | exact lit_q | exact ln_amp | exact ln_lt | exact ln_gt | exact ln_quot | exact ln_xD | exact ln_13 | exact ln_10 | exact ln_09 | exact ln_x9 | exact ln_xA)
theorem at_off {α : Type} {h t : List α} {k : Nat} : (h ++ t)[h.length + k]? = t[k]? := by
  rw [List.getElem?_append_right (by (first | lia | omega)), Nat.add_sub_cancel_left]
theorem at_off0 {α : Type} {h t : List α} : (h ++ t)[h.length]? = t[0]? := at_off (k := 0)
theorem pairs_mk {hp : List AO} {m : Nat} {ps : List (Nat × List Nat)} (rs : List Nat) (hl : rs.length = ps.length) (hm : hp[m]? = some (.plist (rs.map .ref))) (h : ∀ q ∈ rs.zip ps, IsPair hp q.1 q.2) : Pairs hp m ps := by
  refine ⟨rs, hl, hm, fun j r p h1 h2 => h (r, p) ?_⟩
  exact List.mem_of_getElem? (i := j) (by rw [List.getElem?_zip_eq_some]; exact ⟨h1, h2⟩)
theorem hands_spec {loc : List (Str × AV)} {hp : List AO} {n : Nat} {Q : AV → St → Prop} (h : ∀ hp' m, Ext hp hp' → Hands hp' m → Q (.ref m) ⟨loc, hp'⟩) : Ap (n + 60) (.con (.ref 186)) [] ⟨loc, hp⟩ Q := by
  refine Ap_fn (st := cell 18) (by kernel_rfl) (by kernel_rfl) (by kernel_rfl) ?_
  show XS _ _ _ ⟨[], hp⟩ _
  conv => arg 3; whnf
  walk_at "go"
  refine A_tup app_here ?_
  walk_at "go"
  refine ret_keep ?_
  simp only [List.append_assoc, List.cons_append, List.nil_append, List.length_append, List.length_cons, List.length_nil, Nat.reduceAdd, Nat.zero_add, Nat.add_assoc]
  refine h _ _ (Ext.app _ _) ⟨[hp.length + 6, hp.length + 9, hp.length + 14, hp.length + 16, hp.length + 21], rfl, at_off.trans rfl, ?_⟩
  intro i t hi ht
  match i, hi with
  | 0, _ =>
    cases ht
    refine ⟨_, at_off.trans rfl, pairs_mk [hp.length, hp.length + 1, hp.length + 2] rfl (at_off.trans rfl) ?_⟩
    simp only [List.zip_cons_cons, List.zip_nil_left, List.forall_mem_cons, hnd]
    exact ⟨at_off0.trans rfl, at_off.trans rfl, at_off.trans rfl, nofun⟩
  | 1, _ =>
    cases ht
    refine ⟨_, at_off.trans rfl, pairs_mk [hp.length, hp.length + 1, hp.length + 2, hp.length + 7] rfl (at_off.trans rfl) ?_⟩
    simp only [List.zip_cons_cons, List.zip_nil_left, List.forall_mem_cons, hnd]
    exact ⟨at_off0.trans rfl, at_off.trans rfl, at_off.trans rfl, at_off.trans rfl, nofun⟩
  | 2, _ =>
    cases ht
    refine ⟨_, at_off.trans rfl, pairs_mk [hp.length, hp.length + 1, hp.length + 2, hp.length + 3, hp.length + 10, hp.length + 11, hp.length + 12] rfl (at_off.trans rfl) ?_⟩
    simp only [List.zip_cons_cons, List.zip_nil_left, List.forall_mem_cons, hnd]
    exact ⟨at_off0.trans rfl, at_off.trans rfl, at_off.trans rfl, at_off.trans rfl, at_off.trans rfl, at_off.trans rfl, at_off.trans rfl, nofun⟩
  | 3, _ =>
    cases ht
    refine ⟨_, at_off.trans rfl, pairs_mk [hp.length, hp.length + 2, hp.length + 3] rfl (at_off.trans rfl) ?_⟩
    simp only [List.zip_cons_cons, List.zip_nil_left, List.forall_mem_cons, hnd]
    exact ⟨at_off0.trans rfl, at_off.trans rfl, at_off.trans rfl, nofun⟩
  | 4, _ =>
    cases ht
    refine ⟨_, at_off.trans rfl, pairs_mk [hp.length, hp.length + 1, hp.length + 3, hp.length + 17, hp.length + 18, hp.length + 19] rfl (at_off.trans rfl) ?_⟩
    simp only [List.zip_cons_cons, List.zip_nil_left, List.forall_mem_cons, hnd]
    exact ⟨at_off0.trans rfl, at_off.trans rfl, at_off.trans rfl, at_off.trans rfl, at_off.trans rfl, at_off.trans rfl, nofun⟩
end
section
/-! Whitespace -/
structure Cnt where
  n : Nat
  nt : Nat
  cs : List Int
  b : Nat
noncomputable def bump (cs : List Int) (b : Nat) : List Int := (cs ++ List.replicate (b - cs.length + 1) 0).set b ((cs ++ List.replicate (b - cs.length + 1) 0).getD b 0 + 1)
noncomputable def bump' (cs : List Int) (b : Nat) : List Int := if cs.length ≤ b then bump cs b else cs.set b (cs.getD b 0 + 1)
noncomputable def wsRun : List Nat → Cnt → Cnt
  | [], c => c
  | a :: l, c => if a = 32 then wsRun l ⟨c.n + 1, c.nt, c.cs, c.b + 1⟩ else if a = 9 then wsRun l ⟨c.n + 1, c.nt + 1, bump' c.cs c.b, 0⟩ else c
noncomputable def wsOf (l : List Nat) : Cnt := wsRun l ⟨0, 0, [], 0⟩
noncomputable def fN : Str := Str.ofString "n"
noncomputable def fNt : Str := Str.ofString "nt"
noncomputable def fNorm : Str := Str.ofString "norm"
noncomputable def fSimple : Str := Str.ofString "is_simple"
/-- an object that holds such counts -/
noncomputable def IsWs (hp : List AO) (m : Nat) (c : Cnt) : Prop := ∃ d es r t, hp[m]? = some (.inst wsCls d) ∧ hp[d]? = some (.ns es) ∧
  es.lookup fN = some (.int c.n) ∧ es.lookup fNt = some (.int c.nt) ∧ es.lookup fNorm = some (.ref r) ∧ es.lookup fSimple = some (.bool (decide (c.cs.length ≤ 1))) ∧
  (∀ p ∈ wsMeths, es.lookup p.1 = none) ∧ hp[r]? = some (.tup [.ref t, .int c.b]) ∧ hp[t]? = some (.tup (intAVs c.cs)) ∧ c.cs.length ≤ 1000
theorem IsWs.ext {hp hp' : List AO} {m : Nat} {c : Cnt} (h : IsWs hp m c) (e : Ext hp hp') : IsWs hp' m c := by
  obtain ⟨d, es, r, t, h1, h2, h3, h4, h5, h6, h7, h8, h9, h10⟩ := h
  exact ⟨d, es, r, t, e.at h1, e.at h2, h3, h4, h5, h6, h7, e.at h8, e.at h9, h10⟩
theorem cutR {n : Nat} {cx : Cx} {x : Str} {b : List Stmt} {j : Nat} {σ : St} {R : Fl → St → Prop} (P : List (Str × AV) → List AO → Prop) (post : ∀ loc hp, P loc hp → R .next ⟨loc, hp⟩) (k : (∀ loc hp, P loc hp → R .next ⟨loc, hp⟩) → ForRun n cx x b R j σ) : ForRun n cx x b R j σ := k post
structure WsInv (l : List Nat) (hp₀ : List AO) (c : Cnt) (m : Nat) (o : AO) (loc : List (Str × AV)) (hp : List AO) : Prop where
  self : loc.lookup (Str.ofString "self") = some (.ref (hp₀.length + 1))
  S : loc.lookup (Str.ofString "S") = some (.str [32])
  T : loc.lookup (Str.ofString "T") = some (.str [9])
  count : loc.lookup (Str.ofString "count") = some (.ref m)
  b : loc.lookup (Str.ofString "b") = some (.int c.b)
  n : loc.lookup (Str.ofString "n") = some (.int c.n)
  nt : loc.lookup (Str.ofString "nt") = some (.int c.nt)
  at_ : hp[m]? = some o
  lst : o.lst? = some (intAVs c.cs)
  fz : hp₀.length ≤ m
  ns : hp[hp₀.length]? = some (.ns [(Str.ofString "raw", .str l)])
  inst : hp[hp₀.length + 1]? = some (.inst wsCls hp₀.length)
  ext : Ext hp₀ hp
  len : c.cs.length ≤ 1000
theorem item_ints {L : List Int} {b : Nat} (h : b < L.length) : itemAt (intAVs L) (b : Int) = some (.int (L.getD b 0)) := by
  unfold itemAt intAVs
  rw [if_pos (by (first | lia | omega)), Int.toNat_natCast, List.getElem?_map, List.getD_eq_getElem?_getD, List.getElem?_eq_getElem h]; rfl
theorem set_ints {L : List Int} {b : Nat} {v : Int} : (intAVs L).set b (.int v) = intAVs (L.set b v) := by
  unfold intAVs; rw [List.map_set]
theorem grow_ints {L : List Int} {k : Int} {j : Nat} (e : k.toNat = j) : intAVs L ++ (List.replicate k.toNat [AV.int 0]).flatten = intAVs (L ++ List.replicate j 0) := by
  rw [e]
  unfold intAVs
  rw [List.map_append, List.map_replicate]
  congr 1
  induction j generalizing k with
  | zero => rfl
  | succ j ih => rw [List.replicate_succ, List.replicate_succ, List.flatten_cons, ih (k := j) (by (first | lia | omega))]; rfl
structure H4 (hp₀ : List AO) (m : Nat) (o : AO) (es : List (Str × AV)) (hp : List AO) : Prop where
  inst : hp[hp₀.length + 1]? = some (.inst wsCls hp₀.length)
  at_ : hp[m]? = some o
  ns : hp[hp₀.length]? = some (.ns es)
  ext : Ext hp₀ hp
theorem H4.set {hp₀ hp : List AO} {m : Nat} {o : AO} {es : List (Str × AV)} (h : H4 hp₀ m o es hp) (hol : ∀ x, o ≠ .ns x) (es' : List (Str × AV)) : H4 hp₀ m o es' (hp.set hp₀.length (.ns es')) :=
  ⟨set_ne (by (first | lia | omega)) h.inst, set_other h.at_ h.ns (hol _), set_same h.ns, h.ext.set (Nat.le_refl _)⟩
theorem H4.app {hp₀ hp : List AO} {m : Nat} {o : AO} {es : List (Str × AV)} (h : H4 hp₀ m o es hp) (t : List AO) : H4 hp₀ m o es (hp ++ t) := ⟨app_left h.inst, app_left h.at_, app_left h.ns, h.ext.trans (Ext.app _ _)⟩
theorem ws_spec {l : List Nat} (hl : l.length ≤ 1000) {loc : List (Str × AV)} {hp : List AO} {n : Nat} {Q : AV → St → Prop} (h : ∀ hp' m, Ext hp hp' → IsWs hp' m (wsOf l) → Q (.ref m) ⟨loc, hp'⟩) : Ap (n + 60) (.con (.ref 133)) [.str l] ⟨loc, hp⟩ Q := by
  unfold Ap
  try dsimp only
  rw [if_pos (by rfl)]
  have e : fnAt wsInit = some (inner 9 1) := by kernel_rfl
  rw [e]
  try dsimp only
  conv => arg 3; whnf
  walk_at "go"
  refine At_set (d := hp.length) (es := []) (by simp) (by simp) (Nat.le_refl _) (by decide +kernel) (by decide) ?_
  rw [show (hp ++ [AO.ns [], AO.inst wsCls hp.length]).set hp.length (.ns (upsert (Str.ofString "raw") (.str l) [])) = hp ++ [AO.ns [(Str.ofString "raw", .str l)], AO.inst wsCls hp.length] by simp [upsert]]
  walk_at "go"
  refine At_con (l := [32]) (by kernel_rfl) ?_
  walk_at "go"
  refine At_con (l := [9]) (by kernel_rfl) ?_
  walk_at "go"
  refine A_tup app_here ?_
  walk_at "go"
  refine X_fo ?_
  walk_at "go"
  refine At_get (m := hp.length + 1) (d := hp.length) (es := [(Str.ofString "raw", .str l)]) (v := .str l) (app_left (app_left (by simp))) (app_left (app_left (by simp))) (by kernel_rfl) (by decide +kernel) rfl ?_
  refine it_str ?_
  refine cutR (fun loc hp' => ∃ m o, WsInv l hp (wsOf l) m o loc hp') (fun loc' hp' ⟨m, o, I⟩ => ?_) fun post => ?_
  · have i1 := I.self
    have i2 := I.count
    have i3 := I.b
    have i4 := I.n
    have i5 := I.nt
    have i6 := I.len
    have hol : ∀ x, o ≠ .ns x := fun x e => by have := I.lst; rw [e] at this; cases this
    have J0 : H4 hp m o [(Str.ofString "raw", .str l)] hp' := ⟨I.inst, I.at_, I.ns, I.ext⟩
    have i7 := I.lst
    walk_at "go"
    refine At_set (d := hp.length) J0.inst J0.ns (Nat.le_refl _) (by decide +kernel) (by simp) ?_
    rw [show upsert (Str.ofString "n") (.int (wsOf l).n) [(Str.ofString "raw", .str l)] = [(Str.ofString "raw", .str l), (fN, .int (wsOf l).n)] by kernel_rfl]
    have J1 := J0.set hol [(Str.ofString "raw", .str l), (fN, .int (wsOf l).n)]
    generalize hp'.set hp.length _ = hp1 at J1
    walk_at "go"
    refine At_set (d := hp.length) J1.inst J1.ns (Nat.le_refl _) (by decide +kernel) (by simp) ?_
    rw [show upsert (Str.ofString "nt") (.int (wsOf l).nt) [(Str.ofString "raw", .str l), (fN, .int (wsOf l).n)] = [(Str.ofString "raw", .str l), (fN, .int (wsOf l).n), (fNt, .int (wsOf l).nt)] by kernel_rfl]
    have J2 := J1.set hol [(Str.ofString "raw", .str l), (fN, .int (wsOf l).n), (fNt, .int (wsOf l).nt)]
    generalize hp1.set hp.length _ = hp2 at J2
    walk_at "go"
    refine F_tuple J2.at_ i7 (by rw [intAVs_len]; (first | lia | omega)) ?_
    walk_at "go"
    have J3 := J2.app [AO.tup (intAVs (wsOf l).cs)]
    have k3 : (hp2 ++ [AO.tup (intAVs (wsOf l).cs)])[hp2.length]? = some (AO.tup (intAVs (wsOf l).cs)) := app_here
    generalize hp2 ++ [AO.tup (intAVs (wsOf l).cs)] = hp3 at J3 k3
    generalize hp2.length = t at k3
    have J4 := J3.app [AO.tup [.ref t, .int (wsOf l).b]]
    have k4 : (hp3 ++ [AO.tup [.ref t, .int (wsOf l).b]])[hp3.length]? = some (AO.tup [.ref t, .int (wsOf l).b]) := app_here
    replace k3 : (hp3 ++ [AO.tup [.ref t, .int (wsOf l).b]])[t]? = some (AO.tup (intAVs (wsOf l).cs)) := app_left k3
    generalize hp3 ++ [AO.tup [.ref t, .int (wsOf l).b]] = hp4 at J4 k4 k3
    generalize hp3.length = r at k4
    refine At_set (d := hp.length) J4.inst J4.ns (Nat.le_refl _) (by decide +kernel) (by simp) ?_
    rw [show upsert (Str.ofString "norm") (.ref r) [(Str.ofString "raw", .str l), (fN, .int (wsOf l).n), (fNt, .int (wsOf l).nt)] = [(Str.ofString "raw", .str l), (fN, .int (wsOf l).n), (fNt, .int (wsOf l).nt), (fNorm, .ref r)] by kernel_rfl]
    have J5 := J4.set hol [(Str.ofString "raw", .str l), (fN, .int (wsOf l).n), (fNt, .int (wsOf l).nt), (fNorm, .ref r)]
    have k5 := set_other (x := .ns [(Str.ofString "raw", .str l), (fN, .int (wsOf l).n), (fNt, .int (wsOf l).nt), (fNorm, .ref r)]) k3 J4.ns nofun
    have k6 := set_other (x := .ns [(Str.ofString "raw", .str l), (fN, .int (wsOf l).n), (fNt, .int (wsOf l).nt), (fNorm, .ref r)]) k4 J4.ns nofun
    generalize hp4.set hp.length _ = hp5 at J5 k5 k6
    walk_at "go"
    refine F_len J5.at_ i7 (by rw [intAVs_len]; (first | lia | omega)) ?_
    walk_at "go"
    refine At_set (d := hp.length) J5.inst J5.ns (Nat.le_refl _) (by decide +kernel) (by simp) ?_
    rw [show upsert (Str.ofString "is_simple") (AV.bool (decide (((intAVs (wsOf l).cs).length : Int) ≤ 1))) [(Str.ofString "raw", .str l), (fN, .int (wsOf l).n), (fNt, .int (wsOf l).nt), (fNorm, .ref r)] = [(Str.ofString "raw", .str l), (fN, .int (wsOf l).n), (fNt, .int (wsOf l).nt), (fNorm, .ref r), (fSimple, AV.bool (decide (((intAVs (wsOf l).cs).length : Int) ≤ 1)))] by kernel_rfl]
    have ed : decide (((intAVs (wsOf l).cs).length : Int) ≤ 1) = decide ((wsOf l).cs.length ≤ 1) := decide_eq_decide.mpr (by rw [intAVs_len]; (first | lia | omega))
    rw [ed]
    have J6 := J5.set hol [(Str.ofString "raw", .str l), (fN, .int (wsOf l).n), (fNt, .int (wsOf l).nt), (fNorm, .ref r), (fSimple, AV.bool (decide ((wsOf l).cs.length ≤ 1)))]
    have k7 := set_other (x := .ns [(Str.ofString "raw", .str l), (fN, .int (wsOf l).n), (fNt, .int (wsOf l).nt), (fNorm, .ref r), (fSimple, AV.bool (decide ((wsOf l).cs.length ≤ 1)))]) k5 J5.ns nofun
    have k8 := set_other (x := .ns [(Str.ofString "raw", .str l), (fN, .int (wsOf l).n), (fNt, .int (wsOf l).nt), (fNorm, .ref r), (fSimple, AV.bool (decide ((wsOf l).cs.length ≤ 1)))]) k6 J5.ns nofun
    generalize hp5.set hp.length _ = hp6 at J6 k7 k8
    walk_at "go"
    refine ret_next ⟨rfl, h _ _ J6.ext ⟨hp.length, _, r, t, J6.inst, J6.ns, by kernel_rfl, by kernel_rfl, by kernel_rfl, by kernel_rfl, fun p hm => ?_, k8, k7, i6⟩⟩
    simp only [wsMeths, List.mem_cons, List.not_mem_nil, or_false] at hm
    rcases hm with rfl | rfl | rfl | rfl <;> kernel_rfl
  refine for_any l.length (fun i => .siter l i) (fun i => .str [l.getD i 0]) (fun i loc hp' => ∃ c m o, wsRun (l.drop i) c = wsOf l ∧ c.b ≤ i ∧ c.cs.length ≤ i ∧ WsInv l hp c m o loc hp') ?_ rfl (fun _ _ hp' _ => iter_str hp' l) ?_ ?_ ?_ ?_
  · exact .inl (by decide +kernel)
  · rintro i loc hp' o o' ⟨c, m, o2, a1, a2, a3, I⟩ hj ⟨k, hk⟩
    have hol : o2 ≠ o := fun e => by have := I.lst; rw [e, hk] at this; cases this
    exact ⟨c, m, o2, a1, a2, a3, I.self, I.S, I.T, I.count, I.b, I.n, I.nt, set_other I.at_ hj hol, I.lst, I.fz, set_other I.ns hj (by rw [hk]; nofun), set_other I.inst hj (by rw [hk]; nofun), I.ext.set (by simp), I.len⟩
  · refine ⟨⟨0, 0, [], 0⟩, _, _, rfl, Nat.le_refl _, Nat.le_refl _, ⟨by walk_at "lk", by walk_at "lk", by walk_at "lk", by walk_at "lk", (by show _ = some (AV.int 0); walk_at "lk"), (by show _ = some (AV.int 0); walk_at "lk"), (by show _ = some (AV.int 0); walk_at "lk"), app_left app_here, rfl, by simp, app_left (app_left (app_left (by simp))), app_left (app_left (app_left (by simp))), ?_, by simp⟩⟩
    exact (((Ext.app _ _).trans (Ext.app _ _)).trans (Ext.app _ _)).trans (Ext.app _ _)
  · rintro i hi loc hp' ⟨c, m, o, a1, a2, a3, I⟩ hit
    have i1 := I.self
    have i2 := I.count
    have i3 := I.b
    have i4 := I.n
    have i5 := I.nt
    have i6 := I.S
    have i7 := I.T
    walk_at "go"
    have hdr : l.drop i = l.getD i 0 :: l.drop (i + 1) := by rw [drop_at hi, List.getD_eq_getElem?_getD, List.getElem?_eq_getElem hi]; rfl
    rw [hdr] at a1
    generalize l.getD i 0 = a at a1
    by_cases h1 : a = 32
    · subst h1
      rw [decide_eq_true rfl]
      try dsimp only
      walk_at "go"
      refine loop_next hi hit ⟨⟨c.n + 1, c.nt, c.cs, c.b + 1⟩, m, o, a1, ?_, ?_, ?_⟩
      · exact Nat.succ_le_succ a2
      · exact Nat.le_succ_of_le a3
      · exact ⟨by walk_at "lk", by walk_at "lk", by walk_at "lk", by walk_at "lk", (by show _ = some (AV.int ((c.b : Int) + 1)); walk_at "lk"), (by show _ = some (AV.int ((c.n : Int) + 1)); walk_at "lk"), by walk_at "lk", I.at_, I.lst, I.fz, I.ns, I.inst, I.ext, I.len⟩
    rw [decide_eq_false (show ¬ [a] = [32] from fun e => h1 (List.cons.inj e).1)]
    try dsimp only
    walk_at "go"
    by_cases h2 : a = 9
    · subst h2
      rw [decide_eq_true rfl]
      try dsimp only
      walk_at "go"
      refine F_len I.at_ I.lst (by rw [intAVs_len]; (first | lia | omega)) ?_
      walk_at "go"
      rw [intAVs_len]
      by_cases h3 : c.cs.length ≤ c.b
      · rw [decide_eq_true (show (c.cs.length : Int) ≤ c.b by (first | lia | omega))]
        try dsimp only
        walk_at "go"
        refine F_len (app_left I.at_) I.lst (by rw [intAVs_len]; (first | lia | omega)) ?_
        walk_at "go"
        rw [intAVs_len]
        refine B_lrep app_here (by simp; (first | lia | omega)) ?_
        refine B_lst (app_left (app_left I.at_)) I.lst app_here rfl ?_ ?_
        · rw [intAVs_len]; simp; (first | lia | omega)
        rw [grow_ints (j := c.b - c.cs.length + 1) (by (first | lia | omega))]
        have q := app_here (l := hp' ++ [AO.plist [AV.int 0]] ++ [AO.plist (List.replicate ((c.b : Int) - c.cs.length + 1).toNat [AV.int 0]).flatten]) (x := AO.plist (intAVs (c.cs ++ List.replicate (c.b - c.cs.length + 1) 0)))
        have x3 : Ext hp' (hp' ++ [AO.plist [AV.int 0]] ++ [AO.plist (List.replicate ((c.b : Int) - c.cs.length + 1).toNat [AV.int 0]).flatten] ++ [AO.plist (intAVs (c.cs ++ List.replicate (c.b - c.cs.length + 1) 0))]) := ((Ext.app _ _).trans (Ext.app _ _)).trans (Ext.app _ _)
        have hL : (c.cs ++ List.replicate (c.b - c.cs.length + 1) 0).length = c.b + 1 := by simp; (first | lia | omega)
        have hfz : hp.length ≤ (hp' ++ [AO.plist [AV.int 0]] ++ [AO.plist (List.replicate ((c.b : Int) - c.cs.length + 1).toNat [AV.int 0]).flatten]).length := by
          have := I.ext.len
          simp only [List.length_append]; (first | lia | omega)
        walk_at "go"
        generalize hM : (hp' ++ [AO.plist [AV.int 0]] ++ [AO.plist (List.replicate ((c.b : Int) - c.cs.length + 1).toNat [AV.int 0]).flatten]).length = M at q hfz
        generalize hp' ++ [AO.plist [AV.int 0]] ++ [AO.plist (List.replicate ((c.b : Int) - c.cs.length + 1).toNat [AV.int 0]).flatten] ++ [AO.plist (intAVs (c.cs ++ List.replicate (c.b - c.cs.length + 1) 0))] = hp3 at q x3
        have hol : ∀ x, AO.plist (intAVs (c.cs ++ List.replicate (c.b - c.cs.length + 1) 0)) ≠ .ns x := nofun
        have hoi : ∀ x y, AO.plist (intAVs (c.cs ++ List.replicate (c.b - c.cs.length + 1) 0)) ≠ .inst x y := nofun
        refine I_lst (xs := intAVs (c.cs ++ List.replicate (c.b - c.cs.length + 1) 0)) q rfl (by (first | lia | omega)) (item_ints (by (first | lia | omega))) (by rw [intAVs_len]; (first | lia | omega)) ?_
        walk_at "go"
        refine It_set (xs := intAVs (c.cs ++ List.replicate (c.b - c.cs.length + 1) 0)) q rfl (by exact hfz) ?_ (by rw [intAVs_len]; (first | lia | omega)) ?_
        · rw [intAVs_len]; (first | lia | omega)
        rw [Int.toNat_natCast, set_ints]
        have eb : ((c.cs ++ List.replicate (c.b - c.cs.length + 1) 0)).set c.b (((c.cs ++ List.replicate (c.b - c.cs.length + 1) 0)).getD c.b 0 + 1) = bump' c.cs c.b := by
          unfold bump'
          rw [if_pos h3]; rfl
        rw [eb]
        walk_at "go"
        refine loop_next hi ?_ ⟨⟨c.n + 1, c.nt + 1, bump' c.cs c.b, 0⟩, M, .list (intAVs (bump' c.cs c.b)), a1, Nat.zero_le _, ?_, ?_⟩
        · exact set_other (x3.at hit) q nofun
        · rw [← eb, List.length_set]; (first | lia | omega)
        · exact ⟨by walk_at "lk", by walk_at "lk", by walk_at "lk", by walk_at "lk", (by show _ = some (AV.int 0); walk_at "lk"), (by show _ = some (AV.int ((c.n : Int) + 1)); walk_at "lk"), (by show _ = some (AV.int ((c.nt : Int) + 1)); walk_at "lk"), set_same q, rfl, (by exact hfz), set_other (x3.at I.ns) q (hol _).symm, set_other (x3.at I.inst) q (hoi _ _).symm, (I.ext.trans x3).set hfz, by rw [← eb, List.length_set]; (first | lia | omega)⟩
      · rw [decide_eq_false (show ¬ (c.cs.length : Int) ≤ c.b by (first | lia | omega))]
        try dsimp only
        walk_at "go"
        have hol : ∀ x, o ≠ .ns x := fun x e => by have := I.lst; rw [e] at this; cases this
        have hoi : ∀ x y, o ≠ .inst x y := fun x y e => by have := I.lst; rw [e] at this; cases this
        refine I_lst (xs := intAVs c.cs) I.at_ I.lst (by (first | lia | omega)) (item_ints (by (first | lia | omega))) (by rw [intAVs_len]; (first | lia | omega)) ?_
        walk_at "go"
        refine It_set (xs := intAVs c.cs) I.at_ I.lst (by exact I.fz) ?_ (by rw [intAVs_len]; (first | lia | omega)) ?_
        · rw [intAVs_len]; (first | lia | omega)
        rw [Int.toNat_natCast, set_ints]
        have eb : (c.cs).set c.b ((c.cs).getD c.b 0 + 1) = bump' c.cs c.b := by
          unfold bump'
          rw [if_neg h3]
        rw [eb]
        walk_at "go"
        refine loop_next hi ?_ ⟨⟨c.n + 1, c.nt + 1, bump' c.cs c.b, 0⟩, m, .list (intAVs (bump' c.cs c.b)), a1, Nat.zero_le _, ?_, ?_⟩
        · exact set_other hit I.at_ (fun e => by have := I.lst; rw [← e] at this; cases this)
        · rw [← eb, List.length_set]; (first | lia | omega)
        · exact ⟨by walk_at "lk", by walk_at "lk", by walk_at "lk", by walk_at "lk", (by show _ = some (AV.int 0); walk_at "lk"), (by show _ = some (AV.int ((c.n : Int) + 1)); walk_at "lk"), (by show _ = some (AV.int ((c.nt : Int) + 1)); walk_at "lk"), set_same I.at_, rfl, (by exact I.fz), set_other I.ns I.at_ (hol _).symm, set_other I.inst I.at_ (hoi _ _).symm, I.ext.set I.fz, by rw [← eb, List.length_set]; (first | lia | omega)⟩
    · rw [decide_eq_false (show ¬ [a] = [9] from fun e => h2 (List.cons.inj e).1)]
      try dsimp only
      refine XS_con (X_brk ?_)
      have e : c = wsOf l := by
        rw [← a1]
        show _ = if a = 32 then _ else if a = 9 then _ else c
        rw [if_neg h1, if_neg h2]
      subst e
      exact post _ _ ⟨m, o, by walk_at "lk", by walk_at "lk", by walk_at "lk", by walk_at "lk", by walk_at "lk", by walk_at "lk", by walk_at "lk", I.at_, I.lst, I.fz, I.ns, I.inst, I.ext, I.len⟩
  · rintro loc hp' ⟨c, m, o, a1, a2, a3, I⟩
    rw [List.drop_eq_nil_of_le (Nat.le_refl _)] at a1
    have e : c = wsOf l := a1
    subst e
    exact post _ _ ⟨m, o, I⟩
end
section
/-! Whitespace's methods -/
noncomputable def lrs (c : Cnt) : Int := if (c.b : Int) > (c.cs.length : Int) - 1 then c.b else (c.cs.length : Int) - 1
noncomputable def ilSum (cs : List Int) (ts : Nat) : Nat → Int
  | 0 => 0
  | j + 1 => ilSum cs ts j + ((ts : Int) + (j : Int)) / (ts : Int) * cs.getD (ts + j) 0
noncomputable def ilev (c : Cnt) (ts : Nat) : Int := (c.b : Int) + (ts : Int) * (ilSum c.cs ts (c.cs.length - ts) + (c.nt : Int))
noncomputable def wsDat (c : Cnt) : PyData := .tuple [.tuple (c.cs.map .int), .int c.b]
noncomputable def eqOk (c d : Cnt) : Bool := shaped (wsDat c) && shaped (wsDat d) && noMix (wsDat c) (wsDat d)
noncomputable def eqV (c d : Cnt) : Bool := same (wsDat c) (wsDat d)
noncomputable def lessM (c d : Cnt) : Int := if lrs d > lrs c then lrs d else lrs c
noncomputable def lessV (c d : Cnt) : Bool := if d.n ≤ c.n then false else if c.cs.length ≤ 1 ∧ d.cs.length ≤ 1 then decide (c.nt ≤ d.nt) else (List.range (lessM c d).toNat).all fun j => decide (ilev c (2 + j) < ilev d (2 + j))
theorem lrs_le {c : Cnt} (h1 : c.cs.length ≤ 1000) (h2 : c.b ≤ 1000) : -1 ≤ lrs c ∧ lrs c ≤ 1000 := by unfold lrs; split <;> (first | lia | omega)
theorem lrs_nn {c : Cnt} : 0 ≤ lrs c := by unfold lrs; split <;> (first | lia | omega)
theorem mw_lrs {hp : List AO} {m : Nat} {c : Cnt} {loc : List (Str × AV)} {L : Mk → Prop} (hw : IsWs hp m c) (h : L (.fn 95 (.ref m))) : Mth (.ref m) (Str.ofString "longest_run_of_spaces") ⟨loc, hp⟩ L := by
  obtain ⟨d, es, r, t, h1, h2, h3, h4, h5, h6, h7, h8, h9, h10⟩ := hw
  exact M_ws (f := 95) h1 h2 (by kernel_rfl) (h7 (Str.ofString "longest_run_of_spaces", 95) (.head _)) h
theorem mw_ind {hp : List AO} {m : Nat} {c : Cnt} {loc : List (Str × AV)} {L : Mk → Prop} (hw : IsWs hp m c) (h : L (.fn 102 (.ref m))) : Mth (.ref m) (Str.ofString "indent_level") ⟨loc, hp⟩ L := by
  obtain ⟨d, es, r, t, h1, h2, h3, h4, h5, h6, h7, h8, h9, h10⟩ := hw
  exact M_ws (f := 102) h1 h2 (by kernel_rfl) (h7 (Str.ofString "indent_level", 102) (.tail _ (.head _))) h
theorem mw_equ {hp : List AO} {m : Nat} {c : Cnt} {loc : List (Str × AV)} {L : Mk → Prop} (hw : IsWs hp m c) (h : L (.fn 109 (.ref m))) : Mth (.ref m) (Str.ofString "equal") ⟨loc, hp⟩ L := by
  obtain ⟨d, es, r, t, h1, h2, h3, h4, h5, h6, h7, h8, h9, h10⟩ := hw
  exact M_ws (f := 109) h1 h2 (by kernel_rfl) (h7 (Str.ofString "equal", 109) (.tail _ (.tail _ (.head _)))) h
theorem mw_les {hp : List AO} {m : Nat} {c : Cnt} {loc : List (Str × AV)} {L : Mk → Prop} (hw : IsWs hp m c) (h : L (.fn 123 (.ref m))) : Mth (.ref m) (Str.ofString "less") ⟨loc, hp⟩ L := by
  obtain ⟨d, es, r, t, h1, h2, h3, h4, h5, h6, h7, h8, h9, h10⟩ := hw
  exact M_ws (f := 123) h1 h2 (by kernel_rfl) (h7 (Str.ofString "less", 123) (.tail _ (.tail _ (.tail _ (.head _))))) h
theorem lrs_spec {c : Cnt} {m : Nat} {loc : List (Str × AV)} {hp : List AO} {n : Nat} {Q : AV → St → Prop} (hw : IsWs hp m c) (h : Q (.int (lrs c)) ⟨loc, hp⟩) : Ap (n + 40) (.con (.ref 95)) [.ref m] ⟨loc, hp⟩ Q := by
  obtain ⟨d, es, r, t, h1, h2, h3, h4, h5, h6, h7, h8, h9, h10⟩ := hw
  refine Ap_fn (st := inner 9 2) (by kernel_rfl) (by kernel_rfl) (by kernel_rfl) ?_
  show XS _ _ _ ⟨[(Str.ofString "self", .ref m)], hp⟩ _
  conv => arg 3; whnf
  walk_at "go"
  refine At_get h1 h2 h5 (by decide +kernel) rfl ?_
  walk_at "go"
  refine A_tup h8 ?_
  walk_at "go"
  refine F_tlen h9 rfl (by rw [intAVs_len]; (first | lia | omega)) ?_
  walk_at "go"
  rw [intAVs_len]
  exact ret_keep h
theorem ilev_spec {c : Cnt} {m ts : Nat} (h0 : 1 ≤ ts) (ht : ts ≤ 2000) {loc : List (Str × AV)} {hp : List AO} {n : Nat} {Q : AV → St → Prop} (hw : IsWs hp m c) (h : ∀ hp', Ext hp hp' → Q (.int (ilev c ts)) ⟨loc, hp'⟩) : Ap (n + 40) (.con (.ref 102)) [.ref m, .int ts] ⟨loc, hp⟩ Q := by
  obtain ⟨d, es, r, t, h1, h2, h3, h4, h5, h6, h7, h8, h9, h10⟩ := hw
  refine Ap_fn (st := inner 9 3) (by kernel_rfl) (by kernel_rfl) (by kernel_rfl) ?_
  show XS _ _ _ ⟨[(Str.ofString "self", .ref m), (Str.ofString "tabsize", .int ts)], hp⟩ _
  conv => arg 3; whnf
  walk_at "go"
  refine At_get h1 h2 h5 (by decide +kernel) rfl ?_
  walk_at "go"
  refine A_tup h8 ?_
  walk_at "go"
  refine X_fo ?_
  walk_at "go"
  refine F_tlen h9 rfl (by rw [intAVs_len]; (first | lia | omega)) ?_
  rw [intAVs_len]
  walk_at "go"
  refine it_rng app_here (by (first | lia | omega)) ?_
  have e : (if (ts : Int) < (c.cs.length : Int) then (c.cs.length : Int) - ts else 0) = ((c.cs.length - ts : Nat) : Int) := by split <;> (first | lia | omega)
  rw [e]
  refine for_any (c.cs.length - ts) (fun i => .riter (ts + (i : Int)) (((c.cs.length - ts : Nat) : Int) - i) 1) (fun i => .int (ts + (i : Int))) (fun j loc' hp' => loc'.lookup (Str.ofString "self") = some (.ref m) ∧ loc'.lookup (Str.ofString "tabsize") = some (.int ts) ∧ loc'.lookup (Str.ofString "count") = some (.ref t) ∧ loc'.lookup (Str.ofString "trailing") = some (.int c.b) ∧ loc'.lookup (Str.ofString "il") = some (.int (ilSum c.cs ts j)) ∧ Ext hp hp') ?_ ?_ (fun _ _ _ _ => iter_rng _ ts _) ?_ ?_ ?_ ?_
  · exact .inl (by decide +kernel)
  · show AO.riter ts _ _ = AO.riter ((ts : Int) + ((0 : Nat) : Int)) (((c.cs.length - ts : Nat) : Int) - ((0 : Nat) : Int)) 1
    rw [show (ts : Int) + ((0 : Nat) : Int) = ts by (first | lia | omega), show ((c.cs.length - ts : Nat) : Int) - ((0 : Nat) : Int) = ((c.cs.length - ts : Nat) : Int) by (first | lia | omega)]
  · exact fun j loc' hp' o o' I _ _ => ⟨I.1, I.2.1, I.2.2.1, I.2.2.2.1, I.2.2.2.2.1, I.2.2.2.2.2.set (by simp)⟩
  · exact ⟨by walk_at "lk", by walk_at "lk", by walk_at "lk", by walk_at "lk", (by show _ = some (AV.int 0); walk_at "lk"), (Ext.app _ _).trans (Ext.app _ _)⟩
  · rintro j hj loc' hp' ⟨i1, i2, i3, i4, i5, x⟩ hit
    walk_at "go"
    refine I_tup (x.at h9) (by (first | lia | omega)) (v := .int (c.cs.getD (ts + j) 0)) ?_ (by rw [intAVs_len]; (first | lia | omega)) ?_
    · rw [show (ts : Int) + (j : Int) = ((ts + j : Nat) : Int) by (first | lia | omega)]
      exact item_ints (by (first | lia | omega))
    refine B_mul ?_ ?_
    · have a1 : 0 ≤ ((ts : Int) + (j : Int)) / (ts : Int) := Int.ediv_nonneg (by (first | lia | omega)) (by (first | lia | omega))
      have a2 : ((ts : Int) + (j : Int)) / (ts : Int) ≤ (ts : Int) + (j : Int) := Int.ediv_le_self _ (by (first | lia | omega))
      (first | lia | omega)
    walk_at "go"
    exact loop_next hj hit ⟨by walk_at "lk", by walk_at "lk", by walk_at "lk", by walk_at "lk", (by show _ = some (AV.int (ilSum c.cs ts j + ((ts : Int) + (j : Int)) / (ts : Int) * c.cs.getD (ts + j) 0)); walk_at "lk"), x⟩
  · rintro loc' hp' ⟨i1, i2, i3, i4, i5, x⟩
    walk_at "go"
    refine At_get (x.at h1) (x.at h2) h4 (by decide +kernel) rfl ?_
    walk_at "go"
    exact ret_keep (h _ x)
theorem flats_ints : ∀ l : List Int, flats (intAVs l) = some (l.map .int)
  | [] => rfl
  | a :: l => by
    show (match flat (.int a), flats (intAVs l) with | some d, some ds => some (d :: ds) | _, _ => none) = _
    rw [flats_ints l]; rfl
theorem ws_deep {hp : List AO} {r t : Nat} {c : Cnt} (h8 : hp[r]? = some (.tup [.ref t, .int c.b])) (h9 : hp[t]? = some (.tup (intAVs c.cs))) : deep2 hp (.ref r) = some (wsDat c) := by
  have e : deep hp (.ref t) = some (.tuple (c.cs.map .int)) := by
    unfold deep; dsimp only; rw [h9]; dsimp only; rw [flats_ints]; rfl
  unfold deep2
  try dsimp only
  rw [h8]
  try dsimp only
  unfold deeps
  rw [e]
  rfl
theorem equal_spec {c e : Cnt} {m k : Nat} {loc : List (Str × AV)} {hp : List AO} {n : Nat} {Q : AV → St → Prop} (hc : IsWs hp m c) (he : IsWs hp k e) (ok : eqOk c e = true) (h : Q (.bool (eqV c e)) ⟨loc, hp⟩) : Ap (n + 40) (.con (.ref 109)) [.ref m, .ref k] ⟨loc, hp⟩ Q := by
  obtain ⟨d, es, r, t, h1, h2, h3, h4, h5, h6, h7, h8, h9, h10⟩ := hc
  obtain ⟨d', es', r', t', k1, k2, k3, k4, k5, k6, k7, k8, k9, k10⟩ := he
  refine Ap_fn (st := inner 9 4) (by kernel_rfl) (by kernel_rfl) (by kernel_rfl) ?_
  show XS _ _ _ ⟨[(Str.ofString "self", .ref m), (Str.ofString "other", .ref k)], hp⟩ _
  conv => arg 3; whnf
  walk_at "go"
  refine At_get h1 h2 h5 (by decide +kernel) rfl ?_
  walk_at "go"
  refine At_get k1 k2 k5 (by decide +kernel) rfl ?_
  unfold eqOk at ok
  rw [Bool.and_eq_true, Bool.and_eq_true] at ok
  refine C_leq (ws_deep h8 h9) (ws_deep k8 k9) ⟨ok.1.1, ok.1.2, ok.2⟩ ?_
  exact ret_keep h
theorem less_tail {c e : Cnt} {m k : Nat} (hb : c.b ≤ 1000) (hb' : e.b ≤ 1000) {hp : List AO} {n N : Nat} {R : Fl → St → Prop} (Hc : IsWs hp m c) (He : IsWs hp k e) (h : ∀ loc' hp', Ext hp hp' → R (.ret (.bool ((List.range (lessM c e).toNat).all fun j => decide (ilev c (2 + j) < ilev e (2 + j))))) ⟨loc', hp'⟩) :
    XS (n + 70) ⟨fScope (inner 9 6), true, N⟩ ((fBody (inner 9 6)).drop 2) ⟨[(Str.ofString "self", .ref m), (Str.ofString "other", .ref k)], hp⟩ R := by
  obtain ⟨d, es, r, t, h1, h2, h3, h4, h5, h6, h7, h8, h9, h10⟩ := id Hc
  obtain ⟨d', es', r', t', k1, k2, k3, k4, k5, k6, k7, k8, k9, k10⟩ := id He
  conv => arg 3; whnf
  walk_at "go"
  refine mw_lrs Hc ?_
  walk_at "go"
  refine lrs_spec Hc ?_
  walk_at "go"
  refine mw_lrs He ?_
  walk_at "go"
  refine lrs_spec He ?_
  walk_at "go"
  have hm : (if lrs e > lrs c then lrs e else lrs c) = ((lessM c e).toNat : Int) := by
    have a1 := lrs_nn (c := c)
    have a2 := lrs_nn (c := e)
    show lessM c e = _
    unfold lessM
    split <;> (first | lia | omega)
  have hM : (lessM c e).toNat ≤ 1000 := by
    have a1 := (lrs_le h10 hb).2
    have a2 := (lrs_le k10 hb').2
    unfold lessM
    split <;> (first | lia | omega)
  rw [hm]
  generalize (lessM c e).toNat = M at h hM
  walk_at "go"
  refine X_fo ?_
  walk_at "go"
  refine it_rng app_here (by (first | lia | omega)) ?_
  have ei : (if (2 : Int) < (M : Int) + 1 + 1 then (M : Int) + 1 + 1 - 2 else 0) = (M : Int) := by split <;> (first | lia | omega)
  rw [ei]
  refine for_any M (fun i => .riter (2 + (i : Int)) ((M : Int) - i) 1) (fun i => .int (2 + (i : Int))) (fun j loc' hp' => loc'.lookup (Str.ofString "self") = some (.ref m) ∧ loc'.lookup (Str.ofString "other") = some (.ref k) ∧ ((List.range j).all fun j => decide (ilev c (2 + j) < ilev e (2 + j))) = true ∧ Ext hp hp') ?_ ?_ (fun _ _ _ _ => iter_rng _ 2 _) ?_ ?_ ?_ ?_
  · exact .inl (by decide +kernel)
  · show AO.riter 2 _ _ = AO.riter ((2 : Int) + ((0 : Nat) : Int)) ((M : Int) - ((0 : Nat) : Int)) 1
    rw [show (2 : Int) + ((0 : Nat) : Int) = 2 by (first | lia | omega), show (M : Int) - ((0 : Nat) : Int) = M by (first | lia | omega)]
  · exact fun j loc' hp' o o' I _ _ => ⟨I.1, I.2.1, I.2.2.1, I.2.2.2.set (by simp)⟩
  · exact ⟨by walk_at "lk", by walk_at "lk", rfl, (Ext.app _ _).trans (Ext.app _ _)⟩
  · rintro j hj loc' hp' ⟨i1, i2, i3, x⟩ hit
    have ej : (2 : Int) + (j : Int) = ((2 + j : Nat) : Int) := by (first | lia | omega)
    rw [ej]
    walk_at "go"
    refine mw_ind (Hc.ext x) ?_
    walk_at "go"
    refine ilev_spec (by (first | lia | omega)) (by (first | lia | omega)) (Hc.ext x) fun hp1 x1 => ?_
    walk_at "go"
    have x2 := x.trans x1
    refine mw_ind (He.ext x2) ?_
    walk_at "go"
    refine ilev_spec (by (first | lia | omega)) (by (first | lia | omega)) (He.ext x2) fun hp2 x3 => ?_
    walk_at "go"
    by_cases q : ilev e (2 + j) ≤ ilev c (2 + j)
    · rw [decide_eq_true q]
      try dsimp only
      walk_at "go"
      have : ((List.range M).all fun j => decide (ilev c (2 + j) < ilev e (2 + j))) = false := by
        rw [List.all_eq_false]
        exact ⟨j, List.mem_range.mpr hj, by simp; (first | lia | omega)⟩
      rw [this] at h
      exact h _ _ (x2.trans x3)
    · rw [decide_eq_false q]
      try dsimp only
      walk_at "go"
      refine loop_next hj ((x1.trans x3).at hit) ⟨by walk_at "lk", by walk_at "lk", ?_, x2.trans x3⟩
      rw [List.range_succ, List.all_append, i3]
      simp; (first | lia | omega)
  · rintro loc' hp' ⟨i1, i2, i3, x⟩
    rw [i3] at h
    walk_at "go"
    exact h _ _ x
theorem less_spec {c e : Cnt} {m k : Nat} (hb : c.b ≤ 1000) (hb' : e.b ≤ 1000) {loc : List (Str × AV)} {hp : List AO} {n : Nat} {Q : AV → St → Prop} (hc : IsWs hp m c) (he : IsWs hp k e) (h : ∀ hp', Ext hp hp' → Q (.bool (lessV c e)) ⟨loc, hp'⟩) : Ap (n + 80) (.con (.ref 123)) [.ref m, .ref k] ⟨loc, hp⟩ Q := by
  have Hc := hc
  have He := he
  obtain ⟨d, es, r, t, h1, h2, h3, h4, h5, h6, h7, h8, h9, h10⟩ := hc
  obtain ⟨d', es', r', t', k1, k2, k3, k4, k5, k6, k7, k8, k9, k10⟩ := he
  refine Ap_fn (st := inner 9 6) (by kernel_rfl) (by kernel_rfl) (by kernel_rfl) ?_
  show XS _ _ _ ⟨[(Str.ofString "self", .ref m), (Str.ofString "other", .ref k)], hp⟩ _
  conv => arg 3; whnf
  walk_at "go"
  refine At_get h1 h2 h3 (by decide +kernel) rfl ?_
  walk_at "go"
  refine At_get k1 k2 k3 (by decide +kernel) rfl ?_
  walk_at "go"
  unfold lessV at h
  by_cases q1 : e.n ≤ c.n
  · rw [decide_eq_true (show (e.n : Int) ≤ c.n by (first | lia | omega))]
    rw [if_pos q1] at h
    try dsimp only
    walk_at "go"
    exact ret_keep (h _ (Ext.refl _))
  rw [decide_eq_false (show ¬ (e.n : Int) ≤ c.n by (first | lia | omega))]
  rw [if_neg q1] at h
  try dsimp only
  walk_at "go"
  refine At_get h1 h2 h6 (by decide +kernel) rfl ?_
  try dsimp only
  by_cases q2 : c.cs.length ≤ 1 ∧ e.cs.length ≤ 1
  · rw [decide_eq_true q2.1]
    rw [if_pos q2] at h
    try dsimp only
    walk_at "go"
    refine At_get k1 k2 k6 (by decide +kernel) rfl ?_
    rw [decide_eq_true q2.2]
    try dsimp only
    walk_at "go"
    refine At_get h1 h2 h4 (by decide +kernel) rfl ?_
    walk_at "go"
    refine At_get k1 k2 k4 (by decide +kernel) rfl ?_
    walk_at "go"
    have ed : decide ((c.nt : Int) ≤ (e.nt : Int)) = decide (c.nt ≤ e.nt) := decide_eq_decide.mpr (by (first | lia | omega))
    rw [ed]
    exact ret_keep (h _ (Ext.refl _))
  rw [if_neg q2] at h
  by_cases q3 : c.cs.length ≤ 1
  · rw [decide_eq_true q3]
    try dsimp only
    walk_at "go"
    refine At_get k1 k2 k6 (by decide +kernel) rfl ?_
    rw [decide_eq_false (fun q => q2 ⟨q3, q⟩)]
    walk_at "in"
    exact less_tail hb hb' Hc He fun _ _ x => ret_keep (h _ x)
  · rw [decide_eq_false q3]
    walk_at "in"
    exact less_tail hb hb' Hc He fun _ _ x => ret_keep (h _ x)
end
section
/-! the lead; the free place -/
theorem range_getD {α : Type} (l : List α) (d : α) : (List.range l.length).map (fun i => l.getD i d) = l := by
  apply List.ext_getElem
  · simp
  · intro i h1 h2
    simp [List.getD_eq_getElem?_getD, List.getElem?_eq_getElem h2]
theorem toStrs_map {α : Type} (g : α → List Nat) : ∀ l : List α, toStrs (l.map fun x => AV.str (g x)) = some (l.map g)
  | [] => rfl
  | a :: l => by
    show (toStrs (l.map fun x => AV.str (g x))).map (g a :: ·) = _
    rw [toStrs_map g l]; rfl
theorem toInts_ints : ∀ l : List Int, toInts (intAVs l) = some l
  | [] => rfl
  | a :: l => by
    show (toInts (intAVs l)).map (a :: ·) = _
    rw [toInts_ints l]; rfl
noncomputable def tabOf (k : Int) : List Nat := rep [32] k ++ [9]
noncomputable def leadT (ks : List Int) : List Nat := (ks.map tabOf).flatten
theorem lt_bl : (Str.ofString " ").cps.toList = [32] := by decide +kernel
local macro_rules | `(tactic| walk_at "lit") => `(tactic| with_reducible first | exact lt_tab | exact lt_bl | exact lit_e)
theorem leadT_len : ∀ {ks : List Int}, (∀ k ∈ ks, k ≤ 60) → (leadT ks).length ≤ 61 * ks.length
  | [], _ => Nat.le_refl _
  | k :: ks, h => by
    have ih := leadT_len (ks := ks) fun x m => h x (.tail _ m)
    have hk := h k (.head _)
    have e : leadT (k :: ks) = tabOf k ++ leadT ks := rfl
    rw [e, List.length_append, List.length_cons]
    have : (tabOf k).length ≤ 61 := by unfold tabOf rep; simp; (first | lia | omega)
    (first | lia | omega)
theorem getD_ints {ks : List Int} {i : Nat} (h : i < ks.length) : (intAVs ks).getD i .none = .int (ks.getD i 0) := by
  unfold intAVs
  rw [List.getD_eq_getElem?_getD, List.getD_eq_getElem?_getD, List.getElem?_map, List.getElem?_eq_getElem h]; rfl
theorem lead_spec {ks : List Int} {b : List Nat} {m : Nat} {o : AO} {loc : List (Str × AV)} {hp : List AO} {n : Nat} {Q : AV → St → Prop} (hm : hp[m]? = some o) (ho : o.lst? = some (intAVs ks)) (hk : ∀ k ∈ ks, -60 ≤ k ∧ k ≤ 60) (hl : ks.length ≤ 6) (hb : b.length ≤ 100) (h : ∀ hp' r, Ext hp hp' → IsWs hp' r (wsOf (leadT ks ++ b ++ [9])) → Q (.ref r) ⟨loc, hp'⟩) :
    Ap (n + 100) (.con (.ref 224)) [.ref m, .str b] ⟨loc, hp⟩ Q := by
  refine Ap_fn (st := cell 24) (by kernel_rfl) (by kernel_rfl) (by kernel_rfl) ?_
  show XS _ _ _ ⟨[(Str.ofString "counts", .ref m), (Str.ofString "behind", .str b)], hp⟩ _
  conv => arg 3; whnf
  walk_at "go"
  refine E_com (by kernel_rfl) ?_
  walk_at "go"
  refine it_lst hm ho ?_
  refine comp_no ks.length (fun i => .liter m i) (fun i => (intAVs ks).getD i .none) (fun i => .str (tabOf (ks.getD i 0))) ?_ rfl (by (first | lia | omega)) ?_ ?_
  · have := iter_lst hm ho
    rw [intAVs_len] at this
    exact this
  · intro i hi hp' x _ K hK
    try dsimp only
    rw [getD_ints hi]
    have hi' := hk (ks.getD i 0) (by rw [List.getD_eq_getElem?_getD, List.getElem?_eq_getElem hi]; exact List.getElem_mem hi)
    generalize ks.getD i 0 = k at hi' hK
    have hr : (rep [32] k).length ≤ 60 := by unfold rep; simp; (first | lia | omega)
    walk_at "go"
    refine B_rep (by simp; (first | lia | omega)) ?_
    walk_at "go"
    have h0 := hK []
    rw [List.append_nil] at h0
    exact h0 _
  intro hp' r x hr hge
  walk_at "go"
  have e2 : toStrs ((List.range ks.length).map fun i => AV.str (tabOf (ks.getD i 0))) = some (ks.map tabOf) := by
    have := toStrs_map tabOf ks
    rw [← range_getD ks 0, List.map_map] at this
    conv => rhs; rw [← range_getD ks 0]
    exact this
  have hll := leadT_len (ks := ks) fun k mk => (hk k mk).2
  have hll' : (leadT ks).length ≤ 366 := by (first | lia | omega)
  refine G_join hr rfl e2 (by show (leadT ks).length < _; (first | lia | omega)) ?_
  show E _ _ _ ⟨_, _⟩ fun b σ => Bin Operator.Add (AV.str (leadT ks)) b σ _
  walk_at "go"
  refine ws_spec (by simp only [List.length_append, List.length_cons, List.length_nil]; (first | lia | omega)) fun hp2 r2 x2 w2 => ?_
  exact ret_keep (h _ _ (x.trans x2) w2)
/-- _law_free -/
noncomputable def seekF (taken : List Int) : Nat → Int → Int
  | 0, p => p
  | n + 1, p => if taken.any (· == p) then seekF taken n ((p + 1) % 5) else p
noncomputable def placeOf (taken : List Int) (k : Int) : Int := seekF taken 5 ((3 - k) % 5)
noncomputable def takenOf : List Int → List Int → List Int
  | [], t => t
  | k :: ks, t => takenOf ks (t ++ [placeOf t k])
noncomputable def okTaken : List Int → List Int → Bool
  | [], _ => true
  | k :: ks, t => !t.any (· == placeOf t k) && okTaken ks (t ++ [placeOf t k])
noncomputable def freeC (taken : List Int) : List Int := (List.range 5).filterMap fun (i : Nat) => if taken.any (· == (i : Int)) then none else some (i : Int)
noncomputable def freeV (ks : List Int) : Int := (freeC (takenOf ks [])).getD 0 0
noncomputable def freeOk (ks : List Int) : Bool := okTaken ks [] && decide (0 < (freeC (takenOf ks [])).length)
theorem ysOf_ints (f : Nat → Option Int) (n : Nat) : ysOf (fun i => (f i).map .int) n = intAVs ((List.range n).filterMap f) := by
  unfold ysOf intAVs
  rw [List.map_filterMap]
structure FInv (hp₀ : List AO) (tk : List Int) (r : Nat) (loc : List (Str × AV)) (hp : List AO) : Prop where
  taken : loc.lookup (Str.ofString "taken") = some (.ref r)
  at_ : hp[r]? = some (.plist (intAVs tk))
  fz : hp₀.length ≤ r
  ext : Ext hp₀ hp
theorem free_spec {ks : List Int} {m : Nat} {o : AO} {loc : List (Str × AV)} {hp : List AO} {n : Nat} {Q : AV → St → Prop} (hm : hp[m]? = some o) (ho : o.lst? = some (intAVs ks)) (hl : ks.length ≤ 6) (ok : freeOk ks = true) (h : ∀ hp', Ext hp hp' → Q (.int (freeV ks)) ⟨loc, hp'⟩) :
    Ap (n + 60) (.con (.ref 219)) [.ref m] ⟨loc, hp⟩ Q := by
  unfold freeOk at ok
  rw [Bool.and_eq_true, decide_eq_true_eq] at ok
  refine Ap_fn (st := cell 23) (by kernel_rfl) (by kernel_rfl) (by kernel_rfl) ?_
  show XS _ _ _ ⟨[(Str.ofString "counts", .ref m)], hp⟩ _
  conv => arg 3; whnf
  walk_at "go"
  refine X_fo ?_
  walk_at "go"
  refine it_lst (app_left hm) ho ?_
  refine for_any ks.length (fun i => .liter m i) (fun i => (intAVs ks).getD i .none) (fun i loc' hp' => ∃ tk r, takenOf (ks.drop i) tk = takenOf ks [] ∧ okTaken (ks.drop i) tk = true ∧ tk.length ≤ i ∧ FInv hp tk r loc' hp') ?_ rfl ?_ ?_ ?_ ?_ ?_
  · exact .inl (by decide +kernel)
  · rintro i loc' hp' ⟨tk, r, _, _, _, I⟩
    have := iter_lst (I.ext.at hm) ho
    rw [intAVs_len] at this
    exact this
  · rintro i loc' hp' o o' ⟨tk, r, a1, a2, a3, I⟩ hj ⟨k, hk⟩
    exact ⟨tk, r, a1, a2, a3, I.taken, set_other I.at_ hj (by rw [hk]; nofun), I.fz, I.ext.set (by simp)⟩
  · exact ⟨[], hp.length, rfl, ok.1, Nat.le_refl _, by walk_at "lk", app_left app_here, Nat.le_refl _, (Ext.app _ _).trans (Ext.app _ _)⟩
  · rintro i hi loc' hp' ⟨tk, r, a1, a2, a3, I⟩ hit
    have i1 := I.taken
    have hdr : ks.drop i = ks.getD i 0 :: ks.drop (i + 1) := by rw [drop_at hi, List.getD_eq_getElem?_getD, List.getElem?_eq_getElem hi]; rfl
    rw [hdr] at a1 a2
    rw [getD_ints hi]
    generalize ks.getD i 0 = k at a1 a2
    have b2 : (!tk.any (· == placeOf tk k)) = true ∧ okTaken (ks.drop (i + 1)) (tk ++ [placeOf tk k]) = true := by
      have := a2; unfold okTaken at this; rwa [Bool.and_eq_true] at this
    walk_at "go"
    refine X_while (fun j σ => ∃ p, seekF tk j p = placeOf tk k ∧ σ.hp = hp' ∧ σ.loc.lookup (Str.ofString "place") = some (.int p) ∧ σ.loc.lookup (Str.ofString "taken") = some (.ref r)) ?_ ?_
    · exact ⟨5, (3 - k) % 5, rfl, rfl, by walk_at "lk", by walk_at "lk"⟩
    rintro j ⟨loc2, hp2⟩ ⟨p, c1, rfl, c3, c4⟩
    dsimp only at c3 c4 I hit
    walk_at "go"
    refine C_inl I.at_ rfl (toInts_ints tk) ?_
    cases hq : tk.any (· == p) with
    | true =>
      try dsimp only
      cases j with
      | zero =>
        have e : p = placeOf tk k := c1
        rw [← e, hq] at b2
        cases b2.1
      | succ j =>
        have e : seekF tk j ((p + 1) % 5) = placeOf tk k := by rw [← c1]; show _ = if _ then _ else _; rw [hq]; rfl
        walk_at "go"
        exact ⟨j, _, Nat.lt_succ_self _, .inl rfl, (p + 1) % 5, e, rfl, by walk_at "lk", by walk_at "lk"⟩
    | false =>
      have e : p = placeOf tk k := by
        cases j with
        | zero => exact c1
        | succ j => rw [← c1]; show _ = if _ then _ else _; rw [hq]; rfl
      try dsimp only
      walk_at "go"
      refine M_append I.at_ ?_
      walk_at "go"
      refine G_append I.at_ I.fz (by rw [intAVs_len]; (first | lia | omega)) ?_
      refine ⟨rfl, ?_⟩
      rw [show intAVs tk ++ [AV.int p] = intAVs (tk ++ [p]) by unfold intAVs; rw [List.map_append]; rfl]
      subst e
      walk_at "in"
      exact loop_next hi (set_other hit I.at_ nofun) ⟨tk ++ [placeOf tk k], r, a1, b2.2, by simp; (first | lia | omega), c4, set_same I.at_, I.fz, I.ext.set I.fz⟩
  · rintro loc' hp' ⟨tk, r, a1, a2, a3, I⟩
    have i1 := I.taken
    rw [List.drop_eq_nil_of_le (Nat.le_refl _)] at a1
    have e : tk = takenOf ks [] := a1
    walk_at "go"
    refine E_com (by kernel_rfl) ?_
    walk_at "go"
    refine it_rng app_here (by (first | lia | omega)) ?_
    refine comp_if 5 (fun i => .riter (0 + (i : Int)) ((5 : Int) - i) 1) (fun i => .int (0 + (i : Int))) (fun i => (if tk.any (· == (i : Int)) then none else some (i : Int)).map .int) (iter_rng _ 0 5) rfl (by (first | lia | omega)) ?_ ?_
    · intro i hi hp2 x _ K k1 k2
      try dsimp only
      rw [show (0 : Int) + (i : Int) = (i : Int) by (first | lia | omega)]
      walk_at "go"
      refine C_nin (x.at (app_left I.at_)) rfl (toInts_ints tk) ?_
      cases hq : tk.any (· == (i : Int)) with
      | true =>
        have := k1 (by rw [hq]; rfl) []
        rw [List.append_nil] at this
        exact this _
      | false =>
        have := k2 []
        rw [List.append_nil] at this
        refine this _ fun K' hK => ?_
        walk_at "go"
        have := hK (.int i) [] (upd (Str.ofString "place") (.int i) (dropN (Str.ofString "place") loc')) (by rw [hq]; rfl)
        rw [List.append_nil] at this
        exact this
    · intro hp2 r2 x hr hge
      rw [ysOf_ints] at hr
      walk_at "go"
      rw [e] at hr
      refine I_lst (v := .int (freeV ks)) hr rfl (by (first | lia | omega)) (item_ints (b := 0) ok.2) ?_ ?_
      · rw [intAVs_len]
        have := List.length_filterMap_le (fun (i : Nat) => if (takenOf ks []).any (· == (i : Int)) then none else some (i : Int)) (List.range 5)
        simp at this; simp; (first | lia | omega)
      exact ret_keep (h _ ((I.ext.trans (Ext.app _ _)).trans x))
end
section
/-! the law's first statements -/
theorem pickA_map {α β : Type} (f : α → β) (xs : List α) (i j k : Option Int) : pickA (xs.map f) i j k = (pickA xs i j k).map f := by
  unfold pickA
  rw [List.length_map, List.map_filterMap]
  congr 1
  funext n
  rw [List.getElem?_map]
noncomputable def cellOf (ns : List Int) (i : Nat) : Int := firstInts.getD i 0 + (pickA ns (some (i : Int)) none (some 6)).sum
noncomputable def codes : List Int := [157, 250, 256, 258, 259, 357, 527]
noncomputable def dig (v : Int) : List Nat := (Str.ofString (toString v)).cps.toList
theorem codes_ok : ∀ v ∈ codes, (0 ≤ v ∧ v < 1000) ∧ (dig v).length = 3 ∧ dig v ≠ [50, 53, 55] := by decide +kernel
theorem beside_ok : ∀ v ∈ besideL, (0 ≤ v ∧ v ≤ 0x10FFFF) := by decide
theorem mem_getD {l : List Int} {i : Nat} (h : i < l.length) : l.getD i 0 ∈ l := by
  rw [List.getD_eq_getElem?_getD, List.getElem?_eq_getElem h]; exact List.getElem_mem h
structure PreF (loc : List (Str × AV)) (hp : List AO) (c0 c1 c2 c3 d r : Int) : Prop where
  cells : ∃ m c4 c5, loc.lookup (Str.ofString "cells") = some (.ref m) ∧ hp[m]? = some (.plist (intAVs [c0, c1, c2, c3, c4, c5]))
  order : ∃ o, loc.lookup (Str.ofString "order") = some (.int o)
  dress : loc.lookup (Str.ofString "dress") = some (.int d)
  dpos : 0 ≤ d ∧ d < 3024
  unseen : ∃ m, loc.lookup (Str.ofString "unseen") = some (.ref m) ∧ hp[m]? = some (.plist (intAVs unseenL))
  rest : loc.lookup (Str.ofString "rest") = some (.str [r.toNat])
  rin : r ∈ besideL
local macro_rules | `(tactic| walk_at "lit") => `(tactic| with_reducible first | exact lit_sq | exact lit_q)
theorem pre_ok {ns : List Int} (hl : ns.length ≤ 63) {R : Fl → St → Prop} (h : ∀ loc hp c0 c1 c2 c3 d r l, PreF loc hp c0 c1 c2 c3 d r → loc.lookup (Str.ofString "reply") = some (.str l) → l.length < 2 ^ 24 → cut l none (some 3) ≠ [50, 53, 55] → loc.lookup (Str.ofString "caught") = none → R .next ⟨loc, hp⟩) :
    XS 60 lawCx lawPre (st₁ ns) R := by
  show XS 60 ⟨fScope (cell 25), true, 1⟩ lawPre ⟨[(Str.ofString "first", .ref 1), (Str.ofString "script", .ref 0)], [.list (intAVs ns), .plist (intAVs firstInts)]⟩ R
  conv => arg 3; whnf
  walk_at "go"
  refine E_com (by kernel_rfl) ?_
  walk_at "go"
  refine it_rng app_here (by (first | lia | omega)) ?_
  refine comp_no 6 (fun i => .riter (0 + (i : Int)) ((6 : Int) - i) 1) (fun i => .int (0 + (i : Int))) (fun i => .int (cellOf ns i)) (iter_rng _ 0 6) rfl (by (first | lia | omega)) ?_ ?_
  · intro i hi hp' x _ K hK
    try dsimp only
    rw [show (0 : Int) + (i : Int) = (i : Int) by (first | lia | omega)]
    have h0 : hp'[0]? = some (.list (intAVs ns)) := x 0 _ rfl
    have h1 : hp'[1]? = some (.plist (intAVs firstInts)) := x 1 _ rfl
    walk_at "go"
    refine I_lst h1 rfl (by (first | lia | omega)) (item_ints (by show i < 6; (first | lia | omega))) (by decide) ?_
    walk_at "go"
    refine S_lst (xs := intAVs ns) (i := some (i : Int)) (j := none) (s := some 6) h0 rfl rfl rfl rfl (by rw [intAVs_len]; (first | lia | omega)) (by simp) ?_
    walk_at "go"
    refine F_sum (ns := pickA ns (some (i : Int)) none (some 6)) app_here rfl ?_ ?_
    · unfold intAVs
      rw [pickA_map]
      exact toInts_ints _
    walk_at "go"
    exact hK _ _
  intro hp' rc x hrc hge
  have hrc' : hp'[rc]? = some (.plist (intAVs [cellOf ns 0, cellOf ns 1, cellOf ns 2, cellOf ns 3, cellOf ns 4, cellOf ns 5])) := hrc
  clear hrc
  generalize cellOf ns 0 = c0, cellOf ns 1 = c1, cellOf ns 2 = c2, cellOf ns 3 = c3', cellOf ns 4 = c4, cellOf ns 5 = c5 at hrc'
  walk_at "go"
  try dsimp only
  conv => arg 3; whnf
  walk_at "go"
  refine A_tup app_here ?_
  walk_at "go"
  have hd0 : 0 ≤ c5 % 3024 := Int.emod_nonneg _ (by decide)
  have hd1 : c5 % 3024 < 3024 := Int.emod_lt_of_pos _ (by decide)
  generalize c5 % 3024 = d at hd0 hd1
  try dsimp only
  conv => arg 3; whnf
  walk_at "go"
  refine unseen_spec fun hp2 ru x2 hru _ => ?_
  walk_at "go"
  refine beside_spec fun hp3 rb x3 hrb _ => ?_
  walk_at "go"
  have hi0 : 0 ≤ d / 27 % 16 := Int.emod_nonneg _ (by decide)
  have hi1 : d / 27 % 16 < 16 := Int.emod_lt_of_pos _ (by decide)
  have hib : (d / 27 % 16).toNat < besideL.length := by show _ < 16; (first | lia | omega)
  have hidx : ((d / 27 % 16).toNat : Int) = d / 27 % 16 := Int.toNat_of_nonneg hi0
  refine I_lst hrb rfl (by (first | lia | omega)) (by rw [← hidx]; exact item_ints hib) (by decide) ?_
  have hr := mem_getD hib
  generalize besideL.getD (d / 27 % 16).toNat 0 = r at hr
  have hr2 := beside_ok r hr
  walk_at "go"
  refine F_chr hr2 ?_
  walk_at "go"
  refine A_tup app_here ?_
  walk_at "go"
  try dsimp only
  conv => arg 3; whnf
  walk_at "go"
  have hj0 : 0 ≤ d % 7 := Int.emod_nonneg _ (by decide)
  have hj1 : d % 7 < 7 := Int.emod_lt_of_pos _ (by decide)
  have hjb : (d % 7).toNat < codes.length := by show _ < 7; (first | lia | omega)
  have hjdx : ((d % 7).toNat : Int) = d % 7 := Int.toNat_of_nonneg hj0
  refine I_lst app_here (xs := intAVs codes) rfl (by (first | lia | omega)) (by rw [← hjdx]; exact item_ints hjb) (by decide) ?_
  have hv := codes_ok _ (mem_getD hjb)
  generalize codes.getD (d % 7).toNat 0 = v at hv
  walk_at "go"
  refine F_str (l := dig v) hv.1 rfl ?_
  have hlen := hv.2.1
  walk_at "go"
  try dsimp only
  conv => arg 3; whnf
  walk_at "go"
  have c3 : cut (dig v ++ [32, 34] ++ [r.toNat] ++ [34]) none (some 3) ≠ [50, 53, 55] := by
    have e3 : cut (dig v ++ [32, 34] ++ [r.toNat] ++ [34]) none (some 3) = dig v := by
      rw [show (3 : Int) = ((3 : Nat) : Int) from rfl, cut_up, List.append_assoc, List.append_assoc, List.take_append_of_le_length (by (first | lia | omega)), List.take_of_length_le (by (first | lia | omega))]
    rw [e3]; exact hv.2.2
  refine h _ _ c0 c1 c2 c3' d r _ ⟨⟨rc, c4, c5, ?_, ?_⟩, ⟨c4, ?_⟩, ?_, ⟨hd0, hd1⟩, ⟨ru, ?_, ?_⟩, ?_, hr⟩ ?_ ?_ c3 ?_
  · walk_at "lk"
  · exact app_left (app_left (x3.at (x2.at (app_left hrc'))))
  · walk_at "lk"
  · walk_at "lk"
  · walk_at "lk"
  · exact app_left (app_left (x3.at hru))
  · walk_at "lk"
  · walk_at "lk"
  · simp only [List.length_append, List.length_cons, List.length_nil]; (first | lia | omega)
  · kernel_rfl
end
section
/-! two replies that tell nothing -/
structure Bas (loc : List (Str × AV)) (hp : List AO) (ru : Nat) (d r : Int) : Prop where
  dress : loc.lookup (Str.ofString "dress") = some (.int d)
  dpos : 0 ≤ d ∧ d < 3024
  unseen : loc.lookup (Str.ofString "unseen") = some (.ref ru)
  uat : hp[ru]? = some (.plist (intAVs unseenL))
  rest : loc.lookup (Str.ofString "rest") = some (.str [r.toNat])
  rin : r ∈ besideL
abbrev RTrue : Fl → St → Prop := fun fl _ => fl = .ret (.bool true)
theorem beside_ne : ∀ v ∈ besideL, v.toNat ≠ 34 ∧ v.toNat ≠ 59 ∧ v.toNat ≠ 32 ∧ v.toNat ≠ 9 ∧ v.toNat ≠ 38 ∧ v ∉ b1Set ∧ (v.toNat : Int) = v := by decide +kernel
theorem lt_p1 : (Str.ofString "257-\"").cps.toList = [50, 53, 55, 45, 34] := by decide +kernel
theorem lt_p2 : (Str.ofString "257 ").cps.toList = [50, 53, 55, 32] := by decide +kernel
local macro_rules | `(tactic| walk_at "lit") => `(tactic| with_reducible first | exact lit_sq | exact lit_q | exact lit_e | exact lt_p1 | exact lt_p2)
theorem post_a {n : Nat} {loc : List (Str × AV)} {hp : List AO} {ru : Nat} {d r : Int} (B : Bas loc hp ru d r) (h : ∀ hp', Ext hp hp' → XS (n + 99) ⟨fScope (cell 25), true, 1⟩ (lawPost.drop 1) ⟨loc, hp'⟩ RTrue) :
    XS (n + 100) ⟨fScope (cell 25), true, 1⟩ lawPost ⟨loc, hp⟩ RTrue := by
  have i1 := B.rest
  have hr := beside_ne r B.rin
  generalize r.toNat = c at i1 hr
  conv => arg 3; whnf
  walk_at "go"
  refine E_com (by kernel_rfl) ?_
  walk_at "go"
  refine it_lst app_here rfl ?_
  refine comp_no 2 (fun i => .liter hp.length i) (fun i => [AV.str ([50, 53, 55, 45, 34] ++ [c] ++ [34]), AV.str ([50, 53, 55, 32] ++ [c] ++ [c] ++ [34])].getD i .none) (fun i => .str []) ?_ rfl (by (first | lia | omega)) ?_ ?_
  · have z := iter_lst (app_here (l := hp) (x := AO.plist [AV.str ([50, 53, 55, 45, 34] ++ [c] ++ [34]), AV.str ([50, 53, 55, 32] ++ [c] ++ [c] ++ [34])])) (xs := [AV.str ([50, 53, 55, 45, 34] ++ [c] ++ [34]), AV.str ([50, 53, 55, 32] ++ [c] ++ [c] ++ [34])]) rfl
    exact z
  · intro i hi hp' x _ K hK
    match i, hi with
    | 0, _ =>
      dsimp only [List.getD_cons_zero]
      walk_at "go"
      refine parse_spec (by simp) (by simp) ?_
      have e : p257 ([50, 53, 55, 45, 34] ++ [c] ++ [34]) = [] := by unfold p257; rw [if_neg (by simp)]
      rw [e]
      have := hK [] 
      rw [List.append_nil] at this
      exact this _
    | 1, _ =>
      dsimp only [List.getD_cons_zero, List.getD_cons_succ]
      walk_at "go"
      refine parse_spec (by simp) (by simp) ?_
      have e : p257 ([50, 53, 55, 32] ++ [c] ++ [c] ++ [34]) = [] := by unfold p257; rw [if_neg (by simp; exact hr.1)]
      rw [e]
      have := hK [] 
      rw [List.append_nil] at this
      exact this _
  intro hp' k x hk hge
  walk_at "go"
  refine C_lne (d := .list [.str ⟨#[]⟩, .str ⟨#[]⟩]) (e := .list [.str ⟨#[]⟩, .str ⟨#[]⟩]) ?_ ?_ ?_ ?_
  · unfold deep2; dsimp only; rw [app_left hk]; rfl
  · unfold deep2; dsimp only; rw [app_here]; rfl
  · decide +kernel
  rw [show Spec.same (.list [.str ⟨#[]⟩, .str ⟨#[]⟩]) (.list [.str ⟨#[]⟩, .str ⟨#[]⟩]) = true by decide +kernel]
  walk_at "in"
  exact h _ (((Ext.app _ _).trans x).trans (Ext.app _ _))
end
section
/-! the piles -/
structure Pile where
  i : Nat
  p : Nat × List Nat
  k : Nat
noncomputable def Pile.ok (P : Pile) : Prop := P.i < 5 ∧ P.p ∈ hnd P.i ∧ 3 ≤ P.k ∧ P.k ≤ 7
noncomputable def pileOf (x : Int) : Pile := ⟨(x % 5).toNat, (hnd (x % 5).toNat).getD (x / 5 % ((hnd (x % 5).toNat).length : Int)).toNat pAmp, (3 + x / 100 % 5).toNat⟩
theorem hnd_pos (i : Nat) : 0 < (hnd i).length := by
  obtain ⟨t, e, _⟩ := hnd_shape i
  rw [e]; simp
theorem mem_getD2 {α : Type} {l : List α} {i : Nat} {d : α} (h : i < l.length) : l.getD i d ∈ l := by
  rw [List.getD_eq_getElem?_getD, List.getElem?_eq_getElem h]; exact List.getElem_mem h
theorem pile_ok (x : Int) : (pileOf x).ok := by
  have h0 : 0 ≤ x % 5 := Int.emod_nonneg _ (by decide)
  have h1 : x % 5 < 5 := Int.emod_lt_of_pos _ (by decide)
  have h2 : 0 ≤ x / 100 % 5 := Int.emod_nonneg _ (by decide)
  have h3 : x / 100 % 5 < 5 := Int.emod_lt_of_pos _ (by decide)
  refine ⟨by show (x % 5).toNat < 5; (first | lia | omega), mem_getD2 ?_, by show 3 ≤ (3 + x / 100 % 5).toNat; (first | lia | omega), by show (3 + x / 100 % 5).toNat ≤ 7; (first | lia | omega)⟩
  have hp := hnd_pos (x % 5).toNat
  have h4 : 0 ≤ x / 5 % ((hnd (x % 5).toNat).length : Int) := Int.emod_nonneg _ (by (first | lia | omega))
  have h5 : x / 5 % ((hnd (x % 5).toNat).length : Int) < ((hnd (x % 5).toNat).length : Int) := Int.emod_lt_of_pos _ (by (first | lia | omega))
  exact (Int.toNat_lt h4).mpr h5
noncomputable def TupAt (hp : List AO) (t : Nat) (P : Pile) : Prop := ∃ q, hp[t]? = some (.tup [.con (.ref (hAddr P.i)), .ref q]) ∧ IsPair hp q P.p
noncomputable def Fr (P : Nat → Prop) (h h' : List AO) : Prop := ∀ (m : Nat) (o : AO), ¬ P m → h[m]? = some o → h'[m]? = some o
theorem Fr.ext {P : Nat → Prop} {h h' : List AO} (e : Ext h h') : Fr P h h' := fun m o _ k => e m o k
theorem Fr.trans {P : Nat → Prop} {a b c : List AO} (x : Fr P a b) (y : Fr P b c) : Fr P a c := fun m o n k => y m o n (x m o n k)
theorem Fr.set {P : Nat → Prop} {h : List AO} {d : Nat} {o : AO} (hd : P d) : Fr P h (h.set d o) := fun m o' n k => set_ne (fun e => by subst e; exact n hd) k
theorem Fr.at {P : Nat → Prop} {h h' : List AO} {m : Nat} {o : AO} (e : Fr P h h') (n : ¬ P m) (k : h[m]? = some o) : h'[m]? = some o := e m o n k
noncomputable def InB (N m : Nat) : Prop := N ≤ m ∧ m ≤ N + 2
theorem ext_fr {N : Nat} {hb h h' : List AO} (x : Ext hb h) (y : Fr (InB N) h h') (hN : hb.length = N) : Ext hb h' := fun m o k => y m o (fun q => by have := at_lt k; unfold InB at q; (first | lia | omega)) (x m o k)
structure Lk (loc : List (Str × AV)) (N ru : Nat) (d r : Int) : Prop where
  dress : loc.lookup (Str.ofString "dress") = some (.int d)
  unseen : loc.lookup (Str.ofString "unseen") = some (.ref ru)
  rest : loc.lookup (Str.ofString "rest") = some (.str [r.toNat])
  piles : loc.lookup (Str.ofString "piles") = some (.ref N)
  pages : loc.lookup (Str.ofString "pages") = some (.ref (N + 1))
  counts : loc.lookup (Str.ofString "counts") = some (.ref (N + 2))
  order : ∃ o, loc.lookup (Str.ofString "order") = some (.int o)
noncomputable def pageAV (P : Pile) : AV := .str (sp P.p.1 P.p.2 P.k)
structure BHp (hb : List AO) (N : Nat) (ps : List Pile) (hp : List AO) : Prop where
  pos : 1 ≤ N
  ext : Ext hb hp
  hN : hb.length = N
  piles : ∃ ts : List Nat, ts.length = ps.length ∧ hp[N]? = some (.plist (ts.map .ref)) ∧ ∀ (j t : Nat) (P : Pile), ts[j]? = some t → ps[j]? = some P → ¬ InB N t ∧ ∃ q, ¬ InB N q ∧ hp[t]? = some (.tup [.con (.ref (hAddr P.i)), .ref q]) ∧ IsPair hp q P.p
  pages : hp[N + 1]? = some (.plist (ps.map pageAV))
  counts : hp[N + 2]? = some (.plist (intAVs (ps.map fun P => (P.k : Int))))
noncomputable def signs : List Nat := [38, 60, 62, 34, 13, 10, 9, 59, 35, 39]
noncomputable def rowOf (c : Nat) : List Nat := rep (signs ++ [c]) 2
noncomputable def wr (i : Nat) (c : Nat) : List Nat := match (hnd i).lookup c with
  | some nm => [38] ++ nm ++ [59]
  | none => [c]
theorem row_ok : ∀ i ∈ [0, 1, 2, 3, 4], ∀ v ∈ besideL, esc i (rowOf v.toNat) = ((rowOf v.toNat).map (wr i)).flatten ∧ (esc i (rowOf v.toNat)).length < 1000 := by decide +kernel
theorem row_len (c : Nat) : (rowOf c).length = 22 := by unfold rowOf rep; simp [signs]
noncomputable def dictOf (ps : List (Nat × List Nat)) : List (List Nat × AV) := ps.map fun p => ([p.1], .str p.2)
theorem dict_look (c : Nat) : ∀ ps : List (Nat × List Nat), (dictOf ps).lookup [c] = (ps.lookup c).map .str
  | [] => rfl
  | (a, nm) :: ps => by
    have e : dictOf ((a, nm) :: ps) = ([a], .str nm) :: dictOf ps := rfl
    rw [e, List.lookup_cons, List.lookup_cons]
    by_cases h : c = a
    · subst h; simp
    · rw [show ([c] == [a]) = false by simp [h], show (c == a) = false by simp [h]]
      exact dict_look c ps
theorem dict_ok : ∀ i ∈ [0, 1, 2, 3, 4], ((dictOf (hnd i)).map (·.1)).Nodup ∧ (dictOf (hnd i)).length ≤ 1000 ∧ shortKeys (dictOf (hnd i)) = true := by decide +kernel
theorem pairs_of {hp : List AO} : ∀ {rs : List Nat} {ps : List (Nat × List Nat)}, rs.length = ps.length → (∀ (j r : Nat) (p : Nat × List Nat), rs[j]? = some r → ps[j]? = some p → IsPair hp r p) → pairsOf hp (rs.map .ref) = some (dictOf ps)
  | [], [], _, _ => rfl
  | [], _ :: _, h, _ => by cases h
  | _ :: _, [], h, _ => by cases h
  | r :: rs, p :: ps, hl, h => by
    have ih := pairs_of (rs := rs) (ps := ps) (by simpa using hl) fun j r' p' h1 h2 => h (j + 1) r' p' h1 h2
    have h0 : IsPair hp r p := h 0 r p rfl rfl
    have h0' : hp[r]? = some (.tup [.str [p.1], .str p.2]) := h0
    show pairsOf hp (.ref r :: rs.map .ref) = _
    unfold pairsOf
    rw [h0', ih]; rfl
theorem item_map {α : Type} (f : α → AV) {l : List α} {b : Nat} {x : α} (h : l[b]? = some x) : itemAt (l.map f) (b : Int) = some (f x) := by
  unfold itemAt
  rw [if_pos (by (first | lia | omega)), Int.toNat_natCast, List.getElem?_map, h]; rfl
theorem item_last {α : Type} (f : α → AV) {l : List α} {x : α} : itemAt ((l ++ [x]).map f) (-1) = some (f x) := by
  unfold itemAt
  rw [if_neg (by (first | lia | omega)), List.length_map, List.length_append, List.length_singleton, if_pos (by (first | lia | omega)), show (-1 + ((l.length + 1 : Nat) : Int)).toNat = l.length by (first | lia | omega), List.getElem?_map, List.getElem?_append_right (Nat.le_refl _), Nat.sub_self]; rfl
theorem not_in {hp : List AO} {N m : Nat} {a b e xs : List AV} (h0 : hp[N]? = some (.plist a)) (h1 : hp[N + 1]? = some (.plist b)) (h2 : hp[N + 2]? = some (.plist e)) (h : hp[m]? = some (.tup xs)) : ¬ InB N m := by
  intro q
  unfold InB at q
  have : m = N ∨ m = N + 1 ∨ m = N + 2 := by (first | lia | omega)
  rcases this with rfl | rfl | rfl
  · rw [h0] at h; cases h
  · rw [h1] at h; cases h
  · rw [h2] at h; cases h
theorem look_mem {a : Nat} {b : List Nat} : ∀ {l : List (Nat × List Nat)}, l.lookup a = some b → (a, b) ∈ l
  | [], h => by cases h
  | (x, y) :: l, h => by
    rw [List.lookup_cons] at h
    split at h
    · rename_i q
      cases h
      rw [beq_iff_eq] at q
      subst q
      exact .head _
    · exact .tail _ (look_mem h)
noncomputable def forBody : Stmt → List Stmt
  | .For _ _ b _ _ => b
  | _ => []
noncomputable def bodyB : List Stmt := ((lawPost[2]?).map forBody).getD []
theorem lt_row : (Str.ofString "&<>\"\r\n\t;#'").cps.toList = [38, 60, 62, 34, 13, 10, 9, 59, 35, 39] := by decide +kernel
local macro_rules | `(tactic| walk_at "lit") => `(tactic| with_reducible first | exact lit_sq | exact lit_q | exact lit_e | exact lt_row | exact lt_amp | exact lt_semi)
theorem body_b {n : Nat} {loc : List (Str × AV)} {hb hp : List AO} {N ru : Nat} {d r x : Int} {ps : List Pile} {R : Fl → St → Prop} (hr : r ∈ besideL) (hx : loc.lookup (Str.ofString "x") = some (.int x)) (L : Lk loc N ru d r) (H : BHp hb N ps hp) (hps : ps.length ≤ 4)
    (h : ∀ loc' hp', Lk loc' N ru d r → BHp hb N (ps ++ [pileOf x]) hp' → Fr (InB N) hp hp' → R .next ⟨loc', hp'⟩) :
    XS (n + 150) ⟨fScope (cell 25), true, 1⟩ bodyB ⟨loc, hp⟩ R := by
  have l1 := L.dress
  have l2 := L.unseen
  have l3 := L.rest
  have l4 := L.piles
  have l5 := L.pages
  have l6 := L.counts
  obtain ⟨od, l7⟩ := L.order
  have hrow := row_ok (pileOf x).i (lt5_cases _ (pile_ok x).1) r hr
  have hdic := dict_ok (pileOf x).i (lt5_cases _ (pile_ok x).1)
  obtain ⟨c, hc⟩ : ∃ c, r.toNat = c := ⟨_, rfl⟩
  rw [hc] at l3 hrow
  conv => arg 3; whnf
  walk_at "go"
  refine hands_spec fun hp1 hm x1 ⟨ts5, t5l, t5a, t5⟩ => ?_
  walk_at "go"
  have h0 : 0 ≤ x % 5 := Int.emod_nonneg _ (by decide)
  have h1 : x % 5 < 5 := Int.emod_lt_of_pos _ (by decide)
  have hi : ((x % 5).toNat : Int) = x % 5 := Int.toNat_of_nonneg (Int.emod_nonneg _ (by decide))
  obtain ⟨t, ht⟩ : ∃ t, ts5[(x % 5).toNat]? = some t := ⟨_, List.getElem?_eq_getElem (by (first | lia | omega))⟩
  refine I_lst t5a rfl (by (first | lia | omega)) (v := .ref t) (by rw [← hi]; exact item_map _ ht) (by simp; (first | lia | omega)) ?_
  obtain ⟨lp, a1, a2⟩ := t5 _ _ (by (first | lia | omega)) ht
  walk_at "go"
  refine A_tup a1 ?_
  walk_at "go"
  obtain ⟨rs, b1, b2, b3⟩ := a2
  refine F_dict b2 (pairs_of b1 b3) ⟨hdic.1, hdic.2.1⟩ ?_
  walk_at "go"
  refine B_rep (by simp) ?_
  rw [show rep ([38, 60, 62, 34, 13, 10, 9, 59, 35, 39] ++ [c]) 2 = rowOf c from rfl]
  have hrl := row_len c
  have d1 : hp1.length < hp1.length + 1 := Nat.lt_succ_self _
  have hdict : (hp1 ++ [AO.dict (dictOf (hnd (x % 5).toNat))])[hp1.length]? = some (.dict (dictOf (hnd (x % 5).toNat))) := app_here
  have x2 : Ext hp1 (hp1 ++ [AO.dict (dictOf (hnd (x % 5).toNat))]) := Ext.app _ _
  generalize hp1 ++ [AO.dict (dictOf (hnd (x % 5).toNat))] = hp2 at hdict x2
  generalize hp1.length = dm at hdict
  walk_at "go"
  refine A_tup app_here ?_
  walk_at "go"
  have x3 : Ext hp2 (hp2 ++ [AO.tup [.ref dm, .str (rowOf c)]]) := Ext.app _ _
  generalize hp2 ++ [AO.tup [.ref dm, .str (rowOf c)]] = hp3 at x3
  refine esc_spec (i := (x % 5).toNat) (by (first | lia | omega)) (by (first | lia | omega)) ?_
  walk_at "go"
  refine E_com (by kernel_rfl) ?_
  walk_at "go"
  refine it_str ?_
  refine comp_no 22 (fun i => .siter (rowOf c) i) (fun i => .str [(rowOf c).getD i 0]) (fun i => .str (wr (x % 5).toNat ((rowOf c).getD i 0))) ?_ rfl (by (first | lia | omega)) ?_ ?_
  · have z := iter_str hp3 (rowOf c)
    rw [hrl] at z
    exact z
  · intro j hj hp' y _ K hK
    try dsimp only
    generalize (rowOf c).getD j 0 = a at hK
    have hd' := (x3.trans y).at hdict
    walk_at "go"
    refine C_dic hd' hdic.2.2 ?_
    rw [dict_look]
    unfold wr at hK
    cases hq : (hnd (x % 5).toNat).lookup a with
    | none =>
      rw [hq] at hK
      dsimp only [Option.map, Option.isSome] at hK ⊢
      walk_at "go"
      have := hK []
      rw [List.append_nil] at this
      exact this _
    | some nm =>
      rw [hq] at hK
      dsimp only [Option.map, Option.isSome] at hK ⊢
      walk_at "go"
      refine I_dic hd' (v := .str nm) (by rw [dict_look, hq]; rfl) ?_
      have hnl : nm.length ≤ 4 := by
        have hok := hnd_ok (i := (x % 5).toNat) (by (first | lia | omega)) (a, nm) (look_mem hq)
        unfold okPair at hok
        rw [Bool.and_eq_true, Bool.and_eq_true] at hok
        simpa using hok.1.2
      walk_at "go"
      have := hK []
      rw [List.append_nil] at this
      exact this _
  intro hp4 lr x4 hlr hge
  walk_at "go"
  have ej : (((List.range 22).map fun i => wr (x % 5).toNat ((rowOf c).getD i 0))).flatten = esc (x % 5).toNat (rowOf c) := by
    have z : ((List.range (rowOf c).length).map fun i => wr (x % 5).toNat ((rowOf c).getD i 0)) = (rowOf c).map (wr (x % 5).toNat) := by
      conv => rhs; rw [← range_getD (rowOf c) 0, List.map_map]
      rfl
    rw [hrl] at z
    rw [z]
    exact hrow.1.symm
  refine G_join hlr rfl (toStrs_map (fun i => wr (x % 5).toNat ((rowOf c).getD i 0)) (List.range 22)) (by rw [ej]; exact Nat.lt_trans hrow.2 (by decide)) ?_
  rw [ej]
  refine C_sne ?_
  rw [decide_eq_true rfl]
  walk_at "in"
  have X : Ext hp hp4 := x1.trans (x2.trans (x3.trans x4))
  obtain ⟨ts, p1, p2, p3⟩ := H.piles
  have q1 := H.pages
  have q2 := H.counts
  have hle := H.hN
  have pos := H.pos
  have hN3 : N + 2 < hp.length := at_lt q2
  have hX : hp.length ≤ hp4.length := X.len
  have g0 := X.at p2
  have g1 := X.at q1
  have g2 := X.at q2
  have hpb : hp4[lp]? = some (.plist (rs.map .ref)) := (x2.trans (x3.trans x4)).at b2
  have hL := hnd_pos (x % 5).toNat
  have hrs : (rs.map AV.ref).length = (hnd (x % 5).toNat).length := by rw [List.length_map, b1]
  have hL7 : (hnd (x % 5).toNat).length ≤ 7 := by
    generalize (x % 5).toNat = i
    match i with
    | 0 => decide
    | 1 => decide
    | 2 => decide
    | 3 => decide
    | n + 4 => show [_, _, _, _, _, _].length ≤ 7; simp
  try dsimp only
  clear hrl hrow
  walk_at "go"
  have j0 : 0 ≤ x / 5 % ((hnd (x % 5).toNat).length : Int) := Int.emod_nonneg _ (by (first | lia | omega))
  have j1 : x / 5 % ((hnd (x % 5).toNat).length : Int) < ((hnd (x % 5).toNat).length : Int) := Int.emod_lt_of_pos _ (by (first | lia | omega))
  have hJ : (x / 5 % ((hnd (x % 5).toNat).length : Int)).toNat < (hnd (x % 5).toNat).length := (Int.toNat_lt j0).mpr j1
  have hJe : (((x / 5 % ((hnd (x % 5).toNat).length : Int)).toNat : Nat) : Int) = x / 5 % ((hnd (x % 5).toNat).length : Int) := Int.toNat_of_nonneg j0
  have hpp : (hnd (x % 5).toNat)[(x / 5 % ((hnd (x % 5).toNat).length : Int)).toNat]? = some (pileOf x).p := by
    show _ = some ((hnd (x % 5).toNat).getD _ _)
    rw [List.getD_eq_getElem?_getD, List.getElem?_eq_getElem hJ]; rfl
  obtain ⟨q, hq⟩ : ∃ q, rs[(x / 5 % ((hnd (x % 5).toNat).length : Int)).toNat]? = some q := ⟨_, List.getElem?_eq_getElem (by rw [b1]; exact hJ)⟩
  have hpq : IsPair hp4 q (pileOf x).p := (x2.trans (x3.trans x4)).at (b3 _ _ _ hq hpp)
  rw [hrs, ← hJe]
  generalize (x / 5 % ((hnd (x % 5).toNat).length : Int)).toNat = J at hJ hJe hpp hq
  refine I_lst hpb rfl ⟨by (first | lia | omega), by (first | lia | omega)⟩ (v := .ref q) (item_map _ hq) (by rw [hrs]; (first | lia | omega)) ?_
  walk_at "go"
  have x5 : Ext hp4 (hp4 ++ [AO.tup [.con (.ref (hAddr (x % 5).toNat)), .ref q]]) := Ext.app _ _
  have tat : (hp4 ++ [AO.tup [.con (.ref (hAddr (x % 5).toNat)), .ref q]])[hp4.length]? = some (AO.tup [.con (.ref (hAddr (x % 5).toNat)), .ref q]) := app_here
  generalize hp4 ++ [AO.tup [.con (.ref (hAddr (x % 5).toNat)), .ref q]] = hp5 at x5 tat
  generalize hT : hp4.length = T at tat
  refine G_append (x5.at g0) pos (by simp; (first | lia | omega)) ⟨rfl, ?_⟩
  have nq := not_in g0 g1 g2 hpq
  have nT := not_in (x5.at g0) (x5.at g1) (x5.at g2) tat
  have m0 := set_same (x := .plist (ts.map AV.ref ++ [.ref T])) (x5.at g0)
  have m1 := set_ne (d := N) (x := .plist (ts.map AV.ref ++ [.ref T])) (by (first | lia | omega)) (x5.at g1)
  have m2 := set_ne (d := N) (x := .plist (ts.map AV.ref ++ [.ref T])) (by (first | lia | omega)) (x5.at g2)
  have fr6 : Fr (InB N) hp (hp5.set N (.plist (ts.map AV.ref ++ [.ref T]))) := (Fr.ext (X.trans x5)).trans (Fr.set ⟨by (first | lia | omega), by (first | lia | omega)⟩)
  have mt := (Fr.set (P := InB N) (h := hp5) (o := .plist (ts.map AV.ref ++ [.ref T])) (d := N) ⟨by (first | lia | omega), by (first | lia | omega)⟩).at nT tat
  have mq := (Fr.set (P := InB N) (h := hp5) (o := .plist (ts.map AV.ref ++ [.ref T])) (d := N) ⟨by (first | lia | omega), by (first | lia | omega)⟩).at nq (x5.at hpq)
  generalize hp5.set N (.plist (ts.map AV.ref ++ [.ref T])) = hp6 at m0 m1 m2 fr6 mt mq
  try dsimp only
  walk_at "go"
  have hk0 : 0 ≤ x / 100 % 5 := Int.emod_nonneg _ (by decide)
  have ek : 3 + x / 100 % 5 = ((pileOf x).k : Int) := by show _ = (((3 + x / 100 % 5).toNat : Nat) : Int); (first | lia | omega)
  rw [ek]
  refine G_append m2 (by show 1 ≤ N + 2; (first | lia | omega)) (by rw [intAVs_len, List.length_map]; (first | lia | omega)) ⟨rfl, ?_⟩
  have eks : intAVs (ps.map fun P => (P.k : Int)) ++ [.int ((pileOf x).k : Int)] = intAVs ((ps ++ [pileOf x]).map fun P => (P.k : Int)) := by
    unfold intAVs; rw [List.map_append, List.map_append]; rfl
  rw [eks]
  have n0 := set_ne (d := N + 2) (x := .plist (intAVs ((ps ++ [pileOf x]).map fun P => (P.k : Int)))) (by (first | lia | omega)) m0
  have n1 := set_ne (d := N + 2) (x := .plist (intAVs ((ps ++ [pileOf x]).map fun P => (P.k : Int)))) (by (first | lia | omega)) m1
  have n2 := set_same (x := .plist (intAVs ((ps ++ [pileOf x]).map fun P => (P.k : Int)))) m2
  have fs : Fr (InB N) hp6 (hp6.set (N + 2) (.plist (intAVs ((ps ++ [pileOf x]).map fun P => (P.k : Int))))) := Fr.set ⟨by (first | lia | omega), by (first | lia | omega)⟩
  have nt := fs.at nT mt
  have nq' := fs.at nq mq
  have fr7 := fr6.trans fs
  generalize hp6.set (N + 2) (.plist (intAVs ((ps ++ [pileOf x]).map fun P => (P.k : Int)))) = hp7 at n0 n1 n2 nt nq' fr7
  try dsimp only
  walk_at "go"
  refine I_lst n0 rfl (by (first | lia | omega)) (v := .ref T) ?_ (by simp; (first | lia | omega)) ?_
  · rw [show ts.map AV.ref ++ [.ref T] = (ts ++ [T]).map AV.ref by rw [List.map_append]; rfl]
    exact item_last _
  walk_at "go"
  walk_at "go"
  refine I_lst n2 rfl (by (first | lia | omega)) (v := .int ((pileOf x).k : Int)) ?_ (by rw [intAVs_len]; simp; (first | lia | omega)) ?_
  · unfold intAVs
    rw [List.map_map]
    exact item_last _
  obtain ⟨ok1, ok2, ok3, ok4⟩ := pile_ok x
  walk_at "go"
  refine written_spec (i := (pileOf x).i) (p := (pileOf x).p) ok1 ok2 (k := 0) (t := (pileOf x).k) (by (first | lia | omega)) fun hp8 x8 => ?_
  rw [Nat.zero_add]
  walk_at "go"
  refine G_append (x8.at n1) (by show 1 ≤ N + 1; (first | lia | omega)) (by simp; (first | lia | omega)) ⟨rfl, ?_⟩
  have ep : ps.map pageAV ++ [.str (sp (pileOf x).p.1 (pileOf x).p.2 (pileOf x).k)] = (ps ++ [pileOf x]).map pageAV := by rw [List.map_append]; rfl
  rw [ep]
  have o0 := set_ne (d := N + 1) (x := .plist ((ps ++ [pileOf x]).map pageAV)) (by (first | lia | omega)) (x8.at n0)
  have o1 := set_same (x := .plist ((ps ++ [pileOf x]).map pageAV)) (x8.at n1)
  have o2 := set_ne (d := N + 1) (x := .plist ((ps ++ [pileOf x]).map pageAV)) (by (first | lia | omega)) (x8.at n2)
  have ft : Fr (InB N) hp7 (hp8.set (N + 1) (.plist ((ps ++ [pileOf x]).map pageAV))) := (Fr.ext x8).trans (Fr.set ⟨by (first | lia | omega), by (first | lia | omega)⟩)
  have ot := ft.at nT nt
  have oq := ft.at nq nq'
  have fr8 := fr7.trans ft
  generalize hp8.set (N + 1) (.plist ((ps ++ [pileOf x]).map pageAV)) = hp9 at o0 o1 o2 ot oq fr8
  refine h _ _ ⟨?_, ?_, ?_, ?_, ?_, ?_, od, ?_⟩ ⟨pos, ext_fr H.ext fr8 hle, hle, ⟨ts ++ [T], by simp [p1], ?_, ?_⟩, o1, o2⟩ fr8
  · walk_at "lk"
  · walk_at "lk"
  · rw [hc]; walk_at "lk"
  · walk_at "lk"
  · walk_at "lk"
  · walk_at "lk"
  · walk_at "lk"
  · rw [List.map_append]; exact o0
  · intro j t' P' h1' h2'
    rcases Nat.lt_or_ge j ts.length with hj | hj
    · rw [List.getElem?_append_left hj] at h1'
      rw [List.getElem?_append_left (by (first | lia | omega))] at h2'
      obtain ⟨z1, q', z2, z3, z4⟩ := p3 j t' P' h1' h2'
      exact ⟨z1, q', z2, fr8.at z1 z3, fr8.at z2 z4⟩
    · rw [List.getElem?_append_right hj] at h1'
      rw [List.getElem?_append_right (by (first | lia | omega))] at h2'
      have e0 : j - ts.length = 0 := by
        rcases Nat.eq_zero_or_pos (j - ts.length) with e | e
        · exact e
        · rw [List.getElem?_eq_none (by simp; (first | lia | omega))] at h1'; cases h1'
      rw [e0] at h1'
      rw [← p1, e0] at h2'
      cases h1'
      cases h2'
      exact ⟨nT, q, nq, ot, oq⟩
end
section
/-! the four piles -/
theorem pick4 (c0 c1 c2 c3 c4 c5 : Int) : pickA (intAVs [c0, c1, c2, c3, c4, c5]) none (some 4) none = intAVs [c0, c1, c2, c3] := by
  unfold intAVs
  rw [pickA_map]
  rfl
theorem BHp.put {hb hp : List AO} {N J m k : Nat} {ps : List Pile} {o' : AO} (H : BHp hb N ps hp) (hJ : hp[J]? = some (.liter m k)) (hN : N ≤ J) : BHp hb N ps (hp.set J o') := by
  obtain ⟨ts, p1, p2, p3⟩ := H.piles
  refine ⟨H.pos, H.ext.set (by rw [H.hN]; exact hN), H.hN, ⟨ts, p1, set_other p2 hJ nofun, fun j t P h1 h2 => ?_⟩, set_other H.pages hJ nofun, set_other H.counts hJ nofun⟩
  obtain ⟨z1, q', z2, z3, z4⟩ := p3 j t P h1 h2
  exact ⟨z1, q', z2, set_other z3 hJ nofun, set_other z4 hJ nofun⟩
theorem post_b {n : Nat} {loc : List (Str × AV)} {hp : List AO} {c0 c1 c2 c3 d r : Int} (pos : 1 ≤ hp.length) (F : PreF loc hp c0 c1 c2 c3 d r)
    (h : ∀ loc' hp' N ru, Lk loc' N ru d r → hp'[ru]? = some (.plist (intAVs unseenL)) → ¬ InB N ru → BHp hp N ([c0, c1, c2, c3].map pileOf) hp' → XS (n + 197) ⟨fScope (cell 25), true, 1⟩ (lawPost.drop 3) ⟨loc', hp'⟩ RTrue) :
    XS (n + 199) ⟨fScope (cell 25), true, 1⟩ (lawPost.drop 1) ⟨loc, hp⟩ RTrue := by
  obtain ⟨mc, c4, c5, k1, k2⟩ := F.cells
  obtain ⟨od, k3⟩ := F.order
  have k4 := F.dress
  obtain ⟨ru, k5, k6⟩ := F.unseen
  have k7 := F.rest
  conv => arg 3; whnf
  walk_at "go"
  refine A_tup app_here ?_
  walk_at "go"
  refine X_fo ?_
  walk_at "go"
  refine S_lst (i := none) (j := some 4) (s := none) (app_left (app_left (app_left (app_left k2)))) rfl rfl rfl rfl (by rw [intAVs_len]; simp) (by simp) ?_
  rw [pick4]
  refine it_lst app_here rfl ?_
  have b0 : (hp ++ [AO.plist []] ++ [AO.plist []] ++ [AO.plist []])[hp.length]? = some (.plist []) := app_left (app_left app_here)
  have b1 : (hp ++ [AO.plist []] ++ [AO.plist []] ++ [AO.plist []])[hp.length + 1]? = some (.plist []) := by
    have : (hp ++ [AO.plist []] ++ [AO.plist []])[(hp ++ [AO.plist []]).length]? = some (.plist []) := app_here
    rw [List.length_append] at this
    exact app_left this
  have b2 : (hp ++ [AO.plist []] ++ [AO.plist []] ++ [AO.plist []])[hp.length + 2]? = some (.plist []) := by
    have : (hp ++ [AO.plist []] ++ [AO.plist []] ++ [AO.plist []])[(hp ++ [AO.plist []] ++ [AO.plist []]).length]? = some (.plist []) := app_here
    rw [List.length_append, List.length_append] at this
    exact this
  have hx : Ext hp (hp ++ [AO.plist []] ++ [AO.plist []] ++ [AO.plist []]) := ((Ext.app _ _).trans (Ext.app _ _)).trans (Ext.app _ _)
  have hlen : (hp ++ [AO.plist []] ++ [AO.plist []] ++ [AO.plist []]).length = hp.length + 3 := by simp
  have hl1 : (hp ++ [AO.plist []]).length = hp.length + 1 := by simp
  have hl2 : (hp ++ [AO.plist []] ++ [AO.plist []]).length = hp.length + 2 := by simp
  rw [hl1, hl2]
  generalize hp ++ [AO.plist []] ++ [AO.plist []] ++ [AO.plist []] = hp1 at b0 b1 b2 hx hlen
  have hx2 : Ext hp1 (hp1 ++ [AO.tup [.ref hp.length, .ref (hp.length + 1), .ref (hp.length + 2)]]) := Ext.app _ _
  have hlen2 : (hp1 ++ [AO.tup [.ref hp.length, .ref (hp.length + 1), .ref (hp.length + 2)]]).length = hp.length + 4 := by simp; (first | lia | omega)
  generalize hp1 ++ [AO.tup [.ref hp.length, .ref (hp.length + 1), .ref (hp.length + 2)]] = hp2 at hx2 hlen2
  have g0 := hx2.at b0
  have g1 := hx2.at b1
  have g2 := hx2.at b2
  have gx := hx.trans hx2
  have hz : (hp2 ++ [AO.plist (intAVs [c0, c1, c2, c3])])[hp2.length]? = some (.plist (intAVs [c0, c1, c2, c3])) := app_here
  have hx3 : Ext hp2 (hp2 ++ [AO.plist (intAVs [c0, c1, c2, c3])]) := Ext.app _ _
  have hlen3 : (hp2 ++ [AO.plist (intAVs [c0, c1, c2, c3])]).length = hp.length + 5 := by simp; (first | lia | omega)
  generalize hp2 ++ [AO.plist (intAVs [c0, c1, c2, c3])] = hp3 at hz hx3 hlen3
  generalize hp2.length = M at hz hlen2
  clear hlen hl1 hl2
  refine for_any 4 (fun i => .liter M i) (fun i => (intAVs [c0, c1, c2, c3]).getD i .none) (fun i loc' hp' => Lk loc' hp.length ru d r ∧ BHp hp hp.length (([c0, c1, c2, c3].take i).map pileOf) hp' ∧ hp'[M]? = some (.plist (intAVs [c0, c1, c2, c3]))) ?_ rfl ?_ ?_ ?_ ?_ ?_
  · exact .inl (by decide +kernel)
  · intro i loc' hp' I
    exact iter_lst I.2.2 rfl
  · rintro i loc' hp' o o' ⟨i1, i2, i3⟩ hj ⟨k, hk⟩
    rw [hk] at hj
    exact ⟨i1, i2.put hj (by (first | lia | omega)), set_other i3 hj nofun⟩
  · refine ⟨⟨?_, ?_, ?_, ?_, ?_, ?_, od, ?_⟩, ⟨pos, (gx.trans hx3).trans (Ext.app _ _), rfl, ⟨[], rfl, app_left (hx3.at g0), nofun⟩, app_left (hx3.at g1), app_left (hx3.at g2)⟩, app_left hz⟩
    all_goals walk_at "lk"
  · rintro i hi loc' hp' ⟨i1, i2, i3⟩ hit
    have hi' : i < [c0, c1, c2, c3].length := hi
    try dsimp only
    rw [getD_ints hi']
    refine body_b (n := n + 46) (ru := ru) (d := d) F.rin (x := [c0, c1, c2, c3].getD i 0) upd_hit ?_ i2 (by simp; (first | lia | omega)) fun loc2 hp4 L4 H4 fr => ?_
    · obtain ⟨y1, y2, y3, y4, y5, y6, y7, y8⟩ := i1
      refine ⟨?_, ?_, ?_, ?_, ?_, ?_, y7, ?_⟩
      all_goals walk_at "lk"
    · refine loop_next hi (fr.at ?_ hit) ⟨L4, ?_, fr.at ?_ i3⟩
      · unfold InB; (first | lia | omega)
      · have e : [c0, c1, c2, c3].take (i + 1) = [c0, c1, c2, c3].take i ++ [[c0, c1, c2, c3].getD i 0] := by
          rw [List.take_add_one, List.getD_eq_getElem?_getD, List.getElem?_eq_getElem hi']; rfl
        rw [e, List.map_append]
        exact H4
      · unfold InB; (first | lia | omega)
  · rintro loc' hp' ⟨i1, i2, i3⟩
    exact h _ _ _ ru i1 (i2.ext.at k6) (by have := at_lt k6; unfold InB; (first | lia | omega)) i2
end
section
/-! lists compared -/
noncomputable def strD (l : List Nat) : PyData := .str ⟨l.toArray⟩
noncomputable def strAVs (ls : List (List Nat)) : List AV := ls.map .str
theorem flats_strs : ∀ ls : List (List Nat), flats (strAVs ls) = some (ls.map strD)
  | [] => rfl
  | a :: l => by
    show (match flat (.str a), flats (strAVs l) with | some d, some ds => some (d :: ds) | _, _ => none) = _
    rw [flats_strs l]; rfl
theorem deep2_lst {hp : List AO} {m : Nat} {o : AO} {xs : List AV} {ds : List PyData} (h : hp[m]? = some o) (e : o.lst? = some xs) (f : flats xs = some ds) : deep2 hp (.ref m) = some (.list ds) := by
  unfold deep2
  try dsimp only
  rw [h]
  cases o <;> dsimp only [AO.lst?] at e ⊢ <;> first | (cases e; done) | skip
  all_goals (cases e; rw [f]; rfl)
theorem lay_strs : ∀ ls : List (List Nat), (∀ l ∈ ls, ∀ c ∈ l, c < 0x110000) → PyData.canLayAll0 (ls.map strD) = true
  | [], _ => by simp [PyData.canLayAll0]
  | l :: r, h => by
    have h1 : PyData.strOk ⟨l.toArray⟩ = true := by
      unfold PyData.strOk
      rw [Array.all_eq_true_iff_forall_mem]
      intro c hc
      exact decide_eq_true (h l (.head _) c (by simpa using hc))
    simp only [List.map_cons, PyData.canLayAll0, strD, PyData.canLay0, h1, Bool.true_and]
    exact lay_strs r fun l' m => h l' (.tail _ m)
theorem depth_strs : ∀ ls : List (List Nat), PyData.depthAll (ls.map strD) ≤ 1
  | [] => by simp [PyData.depthAll]
  | n :: r => by
    have := depth_strs r
    simp only [List.map_cons, PyData.depthAll, strD, PyData.depth] at this ⊢
    (first | lia | omega)
theorem shaped_strs (ls : List (List Nat)) (h : ∀ l ∈ ls, ∀ c ∈ l, c < 0x110000) : SeqAt.shaped (.list (ls.map strD)) = true := by
  have h1 := depth_strs ls
  have h2 : PyData.depth (.list (ls.map strD)) ≤ 64 := by simp only [PyData.depth]; (first | lia | omega)
  show (PyData.canLay0 (.list (ls.map strD)) && decide (PyData.depth (.list (ls.map strD)) ≤ 64)) = true
  rw [Bool.and_eq_true]
  exact ⟨by simp only [PyData.canLay0]; exact lay_strs ls h, decide_eq_true h2⟩
theorem noMix_strs : ∀ ns ms : List (List Nat), SeqAt.noMixAll (ns.map strD) (ms.map strD) = true
  | [], [] => by simp [SeqAt.noMixAll]
  | [], _ :: _ => by simp [SeqAt.noMixAll]
  | _ :: _, [] => by simp [SeqAt.noMixAll]
  | _ :: r, _ :: q => by simp [SeqAt.noMixAll, SeqAt.noMix, strD]; exact noMix_strs r q
section
variable {loc : List (Str × AV)} {hp : List AO} {K : Bool → Prop}
theorem C_nes {m k : Nat} {o o' : AO} {ls : List (List Nat)} (h1 : hp[m]? = some o) (e1 : o.lst? = some (strAVs ls)) (h2 : hp[k]? = some o') (e2 : o'.lst? = some (strAVs ls)) (hc : ∀ l ∈ ls, ∀ c ∈ l, c < 0x110000) (h : K false) : Cmp .NotEq (.ref m) (.ref k) ⟨loc, hp⟩ K := by
  have s := shaped_strs ls hc
  refine C_lne (deep2_lst h1 e1 (flats_strs ls)) (deep2_lst h2 e2 (flats_strs ls)) ⟨s, s, by simp only [SeqAt.noMix]; exact noMix_strs ls ls⟩ ?_
  rw [Spec.same_self]; exact h
theorem C_nei {m k : Nat} {o o' : AO} {ns ms : List Int} (h1 : hp[m]? = some o) (e1 : o.lst? = some (intAVs ns)) (h2 : hp[k]? = some o') (e2 : o'.lst? = some (intAVs ms)) (h : K (!decide (ns = ms))) : Cmp .NotEq (.ref m) (.ref k) ⟨loc, hp⟩ K := by
  refine C_lne (deep2_lst h1 e1 (flats_ints ns)) (deep2_lst h2 e2 (flats_ints ms)) ⟨PySem.W.shaped_ints ns, PySem.W.shaped_ints ms, by simp only [SeqAt.noMix]; exact PySem.W.noMix_ints ns ms⟩ ?_
  simp only [Spec.same]
  rw [PySem.W.same_ints]; exact h
theorem C_eqi {m k : Nat} {o o' : AO} {ns ms : List Int} (h1 : hp[m]? = some o) (e1 : o.lst? = some (intAVs ns)) (h2 : hp[k]? = some o') (e2 : o'.lst? = some (intAVs ms)) (h : K (decide (ns = ms))) : Cmp .Eq (.ref m) (.ref k) ⟨loc, hp⟩ K := by
  refine C_leq (deep2_lst h1 e1 (flats_ints ns)) (deep2_lst h2 e2 (flats_ints ms)) ⟨PySem.W.shaped_ints ns, PySem.W.shaped_ints ms, by simp only [SeqAt.noMix]; exact PySem.W.noMix_ints ns ms⟩ ?_
  simp only [Spec.same]
  rw [PySem.W.same_ints]; exact h
end
theorem hnd_small {i : Nat} (hi : i < 5) : ∀ p ∈ hnd i, p.1 < 200 ∧ ∀ c ∈ p.2, c < 200 := by
  match i, hi with
  | 0, _ => decide
  | 1, _ => decide
  | 2, _ => decide
  | 3, _ => decide
  | 4, _ => decide
theorem rep_mem {c : Nat} {l : List Nat} : ∀ {k : Nat}, c ∈ rep l k → c ∈ l
  | 0, h => by simp [rep] at h
  | k + 1, h => by
    rw [rep_succ, List.mem_append] at h
    exact h.elim id rep_mem
theorem sp_small {i : Nat} (hi : i < 5) {p : Nat × List Nat} (hp : p ∈ hnd i) (k : Nat) : ∀ c ∈ sp p.1 p.2 k, c < 0x110000 := by
  intro c hc
  have hs := hnd_small hi p hp
  cases k with
  | zero =>
    have : c = p.1 := by simpa [sp] using hc
    (first | lia | omega)
  | succ k =>
    have hc' : c ∈ 38 :: (rep [97, 109, 112, 59] k ++ p.2 ++ [59]) := hc
    rw [List.mem_cons, List.mem_append, List.mem_append] at hc'
    rcases hc' with rfl | (m | m) | m
    · decide
    · have := rep_mem m
      simp at this; (first | lia | omega)
    · have := hs.2 c m; (first | lia | omega)
    · simp at m; (first | lia | omega)
/-- pages at so many layers -/
noncomputable def pgs (ps : List Pile) (c : Nat → Nat) : List (List Nat) := (List.range 4).map fun j => sp (ps.getD j ⟨0, pAmp, 3⟩).p.1 (ps.getD j ⟨0, pAmp, 3⟩).p.2 (c j)
noncomputable def PL (ps : List Pile) (j : Nat) : Pile := ps.getD j ⟨0, pAmp, 3⟩
theorem pl_at {ps : List Pile} {j : Nat} (h : j < ps.length) : ps[j]? = some (PL ps j) := by
  unfold PL; rw [List.getD_eq_getElem?_getD, List.getElem?_eq_getElem h]; rfl
theorem pgs_small {ps : List Pile} (hl : ps.length = 4) (ok : ∀ P ∈ ps, P.ok) (c : Nat → Nat) : ∀ l ∈ pgs ps c, ∀ x ∈ l, x < 0x110000 := by
  intro l h
  unfold pgs at h
  rw [List.mem_map] at h
  obtain ⟨j, hj, rfl⟩ := h
  rw [List.mem_range] at hj
  have k := ok _ (List.mem_of_getElem? (pl_at (ps := ps) (j := j) (by (first | lia | omega))))
  exact sp_small k.1 k.2.1 _
theorem map_pl {α : Type} {ps : List Pile} (hl : ps.length = 4) (f : Pile → α) : ps.map f = (List.range 4).map fun j => f (PL ps j) := by
  conv => lhs; rw [← range_getD ps ⟨0, pAmp, 3⟩, hl, List.map_map]
  rfl
theorem lt_one : (1 : Int) < 2 ^ 40 := by decide
end
section
/-! the first pages -/
noncomputable def Mut (N G m : Nat) : Prop := m = N + 1 ∨ m = G
structure Imm (N G ru : Nat) (ps : List Pile) (hp : List AO) : Prop where
  pos : 1 ≤ N
  lt : N + 2 < G
  len : ps.length = 4
  ok : ∀ P ∈ ps, P.ok
  piles : ∃ ts : List Nat, ts.length = ps.length ∧ hp[N]? = some (.plist (ts.map .ref)) ∧ ∀ (j t : Nat) (P : Pile), ts[j]? = some t → ps[j]? = some P → ¬ Mut N G t ∧ ∃ q, ¬ Mut N G q ∧ hp[t]? = some (.tup [.con (.ref (hAddr P.i)), .ref q]) ∧ IsPair hp q P.p
  counts : hp[N + 2]? = some (.plist (intAVs (ps.map fun P => (P.k : Int))))
  um : ¬ Mut N G ru
  unseen : hp[ru]? = some (.plist (intAVs unseenL))
theorem Imm.fr {N G ru : Nat} {ps : List Pile} {hp hp' : List AO} (I : Imm N G ru ps hp) (x : Fr (Mut N G) hp hp') : Imm N G ru ps hp' := by
  obtain ⟨ts, p1, p2, p3⟩ := I.piles
  have hlt := I.lt
  refine ⟨I.pos, I.lt, I.len, I.ok, ⟨ts, p1, x.at (by unfold Mut; (first | lia | omega)) p2, fun j t P h1 h2 => ?_⟩, x.at (by unfold Mut; (first | lia | omega)) I.counts, I.um, x.at I.um I.unseen⟩
  obtain ⟨z1, q, z2, z3, z4⟩ := p3 j t P h1 h2
  exact ⟨z1, q, z2, x.at z1 z3, x.at z2 z4⟩
theorem Imm.ext {N G ru : Nat} {ps : List Pile} {hp hp' : List AO} (I : Imm N G ru ps hp) (x : Ext hp hp') : Imm N G ru ps hp' := I.fr (Fr.ext x)
theorem Imm.pile {N G ru j : Nat} {ps : List Pile} {hp : List AO} (I : Imm N G ru ps hp) (hj : j < 4) : ∃ (ts : List Nat) (t q : Nat), hp[N]? = some (.plist (ts.map .ref)) ∧ (ts.map AV.ref).length = 4 ∧ itemAt (ts.map .ref) (j : Int) = some (.ref t) ∧ hp[t]? = some (.tup [.con (.ref (hAddr (PL ps j).i)), .ref q]) ∧ hp[q]? = some (.tup [.str [(PL ps j).p.1], .str (PL ps j).p.2]) := by
  obtain ⟨ts, p1, p2, p3⟩ := I.piles
  have hl := I.len
  have h2 := pl_at (ps := ps) (j := j) (by (first | lia | omega))
  obtain ⟨t, ht⟩ : ∃ t, ts[j]? = some t := ⟨_, List.getElem?_eq_getElem (by (first | lia | omega))⟩
  obtain ⟨z1, q, z2, z3, z4⟩ := p3 j t _ ht h2
  exact ⟨ts, t, q, p2, by rw [List.length_map, p1, hl], item_map _ ht, z3, z4⟩
theorem Imm.plok {N G ru j : Nat} {ps : List Pile} {hp : List AO} (I : Imm N G ru ps hp) (hj : j < 4) : (PL ps j).ok := I.ok _ (List.mem_of_getElem? (pl_at (ps := ps) (j := j) (by have := I.len; (first | lia | omega))))
theorem imm_of {hb hp hp' : List AO} {N ru : Nat} {ps : List Pile} (H : BHp hb N ps hp) (hl : ps.length = 4) (ok : ∀ P ∈ ps, P.ok) (hu : hp[ru]? = some (.plist (intAVs unseenL))) (hn : ¬ InB N ru) (x : Ext hp hp') : Imm N hp'.length ru ps hp' := by
  obtain ⟨ts, p1, p2, p3⟩ := H.piles
  have h2 := at_lt (x.at H.counts)
  refine ⟨H.pos, h2, hl, ok, ⟨ts, p1, x.at p2, fun j t P h1 h2 => ?_⟩, x.at H.counts, ?_, x.at hu⟩
  · obtain ⟨z1, q, z2, z3, z4⟩ := p3 j t P h1 h2
    have a1 := at_lt (x.at z3)
    have a2 : q < hp'.length := at_lt (x.at z4)
    unfold InB at z1 z2
    refine ⟨by unfold Mut; (first | lia | omega), q, by unfold Mut; (first | lia | omega), x.at z3, x.at z4⟩
  · have := at_lt (x.at hu)
    unfold InB at hn
    unfold Mut
    (first | lia | omega)
theorem hnd_nm {P : Pile} (ok : P.ok) : P.p.2.length ≤ 4 := by
  have hok := hnd_ok ok.1 P.p ok.2.1
  unfold okPair at hok
  rw [Bool.and_eq_true, Bool.and_eq_true] at hok
  simpa using hok.1.2
theorem post_c {n : Nat} {loc : List (Str × AV)} {hb hp : List AO} {N ru : Nat} {d r : Int} {ps : List Pile} (L : Lk loc N ru d r) (hu : hp[ru]? = some (.plist (intAVs unseenL))) (hn : ¬ InB N ru) (H : BHp hb N ps hp) (hl : ps.length = 4) (ok : ∀ P ∈ ps, P.ok)
    (h : ∀ loc' hp' G, Lk loc' N ru d r → loc'.lookup (Str.ofString "given") = some (.ref G) → Imm N G ru ps hp' → hp'[N + 1]? = some (.plist (strAVs (pgs ps fun j => (PL ps j).k))) → hp'[G]? = some (.plist (intAVs [0, 0, 0, 0])) → XS (n + 195) ⟨fScope (cell 25), true, 1⟩ (lawPost.drop 5) ⟨loc', hp'⟩ RTrue) :
    XS (n + 197) ⟨fScope (cell 25), true, 1⟩ (lawPost.drop 3) ⟨loc, hp⟩ RTrue := by
  have l4 := L.piles
  have l5 := L.pages
  have l6 := L.counts
  have I := imm_of H hl ok hu hn (Ext.refl _)
  have hpg : ps.map pageAV = strAVs (pgs ps fun j => (PL ps j).k) := by
    rw [map_pl hl]; unfold strAVs pgs; rw [List.map_map]; rfl
  have q1 := H.pages
  rw [hpg] at q1
  conv => arg 3; whnf
  walk_at "go"
  refine E_com (by kernel_rfl) ?_
  walk_at "go"
  refine it_rng app_here (by (first | lia | omega)) ?_
  refine comp_no 4 (fun i => .riter (0 + (i : Int)) ((4 : Int) - i) 1) (fun i => .int (0 + (i : Int))) (fun j => .str (sp (PL ps j).p.1 (PL ps j).p.2 (PL ps j).k)) (iter_rng _ 0 4) rfl (by (first | lia | omega)) ?_ ?_
  · intro j hj hp' x _ K hK
    try dsimp only
    rw [show (0 : Int) + (j : Int) = (j : Int) by (first | lia | omega)]
    have I' := (I.ext (Ext.app _ _)).ext x
    obtain ⟨ts, t, q, a1, a2, a3, a4, a5⟩ := I'.pile hj
    have pk := I'.plok hj
    have cts := I'.counts
    have cit : itemAt (intAVs (ps.map fun P => (P.k : Int))) (j : Int) = some (.int ((PL ps j).k : Int)) := by
      unfold intAVs; rw [List.map_map]; exact item_map _ (pl_at (by (first | lia | omega)))
    generalize PL ps j = P at a4 a5 pk hK cit
    walk_at "go"
    refine I_lst a1 rfl (by (first | lia | omega)) a3 (by (first | lia | omega)) ?_
    walk_at "go"
    refine I_lst a1 rfl (by (first | lia | omega)) a3 (by (first | lia | omega)) ?_
    walk_at "go"
    refine I_lst cts rfl (by (first | lia | omega)) cit (by rw [intAVs_len, List.length_map]; (first | lia | omega)) ?_
    walk_at "go"
    have pk4 := pk.2.2.2
    refine spelled_spec (by (first | lia | omega)) (hnd_nm pk) ?_
    have := hK []
    rw [List.append_nil] at this
    exact this _
  · intro hp' k x hk hge
    walk_at "go"
    have X : Ext hp hp' := (Ext.app _ _).trans x
    have hk' : hp'[k]? = some (.plist (strAVs (pgs ps fun j => (PL ps j).k))) := by
      rw [hk]; unfold strAVs pgs; rw [List.map_map]; rfl
    refine C_nes (X.at q1) rfl hk' rfl (pgs_small hl ok _) ?_
    walk_at "in"
    refine XS_con (X_asn (by kernel_rfl) (by kernel_rfl) (E_lst (EL_con (by kernel_rfl) (E_int (EL_con (by kernel_rfl) (E_int (EL_con (by kernel_rfl) (E_int (EL_con (by kernel_rfl) (E_int (EL_nil (both_i (by simp) (AL_con (A_var (by decide +kernel) (AL_nil ?_)))))))))))))))
    have z1 : (hp' ++ [AO.plist [AV.int 0, AV.int 0, AV.int 0, AV.int 0]])[hp'.length]? = some (.plist (intAVs [0, 0, 0, 0])) := app_here
    have z2 : Imm N hp'.length ru ps (hp' ++ [AO.plist [AV.int 0, AV.int 0, AV.int 0, AV.int 0]]) := (imm_of H hl ok hu hn X).ext (Ext.app _ _)
    have z3 : (hp' ++ [AO.plist [AV.int 0, AV.int 0, AV.int 0, AV.int 0]])[N + 1]? = some (.plist (strAVs (pgs ps fun j => (PL ps j).k))) := app_left (X.at q1)
    have z4 : (upd (Str.ofString "given") (.ref hp'.length) loc).lookup (Str.ofString "given") = some (.ref hp'.length) := upd_hit
    have z5 : Lk (upd (Str.ofString "given") (.ref hp'.length) loc) N ru d r := by
      have m1 := L.dress
      have m2 := L.unseen
      have m3 := L.rest
      obtain ⟨o, m4⟩ := L.order
      refine ⟨?_, ?_, ?_, ?_, ?_, ?_, o, ?_⟩
      all_goals walk_at "lk"
    exact h _ _ hp'.length z5 z4 z2 z3 z1
end
section
/-! a turn: which pile -/
structure TL (loc : List (Str × AV)) (N G ru : Nat) (d r t : Int) : Prop where
  dress : loc.lookup (Str.ofString "dress") = some (.int d)
  unseen : loc.lookup (Str.ofString "unseen") = some (.ref ru)
  rest : loc.lookup (Str.ofString "rest") = some (.str [r.toNat])
  piles : loc.lookup (Str.ofString "piles") = some (.ref N)
  pages : loc.lookup (Str.ofString "pages") = some (.ref (N + 1))
  counts : loc.lookup (Str.ofString "counts") = some (.ref (N + 2))
  given : loc.lookup (Str.ofString "given") = some (.ref G)
  turn : loc.lookup (Str.ofString "turn") = some (.int t)
  order : ∃ o, loc.lookup (Str.ofString "order") = some (.int o)
noncomputable def bodyT : List Stmt := ((lawPost[5]?).map forBody).getD []
noncomputable def waitOf (c : Nat → Nat) : List Int := (List.range 4).filterMap fun j => if 3 < c j then some (j : Int) else none
theorem wait_mem {c : Nat → Nat} {v : Int} (h : v ∈ waitOf c) : ∃ i : Nat, v = (i : Int) ∧ i < 4 ∧ 3 < c i := by
  unfold waitOf at h
  rw [List.mem_filterMap] at h
  obtain ⟨i, h1, h2⟩ := h
  rw [List.mem_range] at h1
  split at h2
  · cases h2; exact ⟨i, rfl, h1, by assumption⟩
  · cases h2
theorem wait_nil {c : Nat → Nat} (h : waitOf c = []) (j : Nat) (hj : j < 4) : c j ≤ 3 := by
  rcases Nat.lt_or_ge 3 (c j) with q | q
  · have : (j : Int) ∈ waitOf c := by
      unfold waitOf
      rw [List.mem_filterMap]
      exact ⟨j, List.mem_range.mpr hj, by rw [if_pos q]⟩
    rw [h] at this
    cases this
  · exact q
theorem pgs_at {ps : List Pile} {c : Nat → Nat} {j : Nat} (hj : j < 4) : itemAt (strAVs (pgs ps c)) (j : Int) = some (.str (sp (PL ps j).p.1 (PL ps j).p.2 (c j))) := by
  unfold strAVs pgs
  rw [List.map_map]
  exact item_map _ (by rw [List.getElem?_range hj])
theorem pgs_len {ps : List Pile} {c : Nat → Nat} : (strAVs (pgs ps c)).length = 4 := by unfold strAVs pgs; simp
local macro_rules | `(tactic| walk_at "lit") => `(tactic| with_reducible first | exact lit_sq | exact lit_q | exact lit_e | exact lt_semi)
theorem turn_1 {n : Nat} {loc : List (Str × AV)} {hp : List AO} {N G ru : Nat} {d r t : Int} {ps : List Pile} {c : Nat → Nat} {o : AO} {R : Fl → St → Prop} (L : TL loc N G ru d r t) (I : Imm N G ru ps hp) (hpg : hp[N + 1]? = some o) (ho : o.lst? = some (strAVs (pgs ps c)))
    (hbrk : ∀ loc' hp', (∀ j, j < 4 → c j ≤ 3) → TL loc' N G ru d r t → Ext hp hp' → R .brk ⟨loc', hp'⟩)
    (h : ∀ loc' hp' i, i < 4 → 3 < c i → TL loc' N G ru d r t → loc'.lookup (Str.ofString "i") = some (.int (i : Nat)) → Ext hp hp' → XS (n + 196) ⟨fScope (cell 25), true, 1⟩ (bodyT.drop 4) ⟨loc', hp'⟩ R) :
    XS (n + 200) ⟨fScope (cell 25), true, 1⟩ bodyT ⟨loc, hp⟩ R := by
  obtain ⟨m1, m2, m3, m4, m5, m6, m7, m8, od, m9⟩ := L
  conv => arg 3; whnf
  walk_at "go"
  refine E_com (by kernel_rfl) ?_
  walk_at "go"
  refine it_rng app_here (by (first | lia | omega)) ?_
  refine comp_if 4 (fun i => .riter (0 + (i : Int)) ((4 : Int) - i) 1) (fun i => .int (0 + (i : Int))) (fun j => (if 3 < c j then some (j : Int) else none).map .int) (iter_rng _ 0 4) rfl (by (first | lia | omega)) ?_ ?_
  · intro j hj hp' x _ K k1 k2
    try dsimp only
    rw [show (0 : Int) + (j : Int) = (j : Int) by (first | lia | omega)]
    have hpg' := x.at (app_left hpg)
    have pk := I.plok hj
    walk_at "go"
    refine I_lst hpg' ho (by (first | lia | omega)) (pgs_at hj) (by rw [pgs_len]; (first | lia | omega)) ?_
    have hct := sp_count pk.1 pk.2.1 (c j)
    walk_at "go"
    rw [hct]
    by_cases q : 3 < c j
    · rw [decide_eq_true (show (3 : Int) < (c j : Int) by (first | lia | omega))]
      have := k2 []
      rw [List.append_nil] at this
      refine this _ fun K' hK => ?_
      walk_at "go"
      have := hK (.int j) [] (upd (Str.ofString "j") (.int j) (dropN (Str.ofString "j") loc)) (by rw [if_pos q]; rfl)
      rw [List.append_nil] at this
      exact this
    · rw [decide_eq_false (show ¬ (3 : Int) < (c j : Int) by (first | lia | omega))]
      have := k1 (by rw [if_neg q]; rfl) []
      rw [List.append_nil] at this
      exact this _
  intro hp' w x hw hge
  rw [ysOf_ints] at hw
  have hw' : hp'[w]? = some (.plist (intAVs (waitOf c))) := hw
  clear hw
  have X : Ext hp hp' := (Ext.app _ _).trans x
  walk_at "go"
  refine C_eqi (ns := waitOf c) (ms := []) (app_left hw') rfl app_here rfl ?_
  by_cases q : waitOf c = []
  · rw [decide_eq_true q]
    try dsimp only
    refine XS_con (X_brk ?_)
    refine hbrk _ _ (wait_nil q) ⟨?_, ?_, ?_, ?_, ?_, ?_, ?_, ?_, od, ?_⟩ (X.trans (Ext.app _ _))
    all_goals walk_at "lk"
  rw [decide_eq_false q]
  try dsimp only
  have hpos : 0 < (waitOf c).length := by
    cases hq : waitOf c with
    | nil => exact absurd hq q
    | cons a b => simp
  have h4 : (waitOf c).length ≤ 4 := by
    have := List.length_filterMap_le (fun j => if 3 < c j then some ((j : Nat) : Int) else none) (List.range 4)
    rw [List.length_range] at this
    exact this
  have hwl := app_left (m := [AO.plist []]) hw'
  have X2 : Ext hp (hp' ++ [AO.plist []]) := X.trans (Ext.app _ _)
  generalize hp' ++ [AO.plist []] = hp2 at hwl X2
  walk_at "go"
  rw [intAVs_len]
  have j0 : 0 ≤ od % ((waitOf c).length : Int) := Int.emod_nonneg _ (by (first | lia | omega))
  have j1 : od % ((waitOf c).length : Int) < ((waitOf c).length : Int) := Int.emod_lt_of_pos _ (by (first | lia | omega))
  have hJ : (od % ((waitOf c).length : Int)).toNat < (waitOf c).length := (Int.toNat_lt j0).mpr j1
  have hJe : (((od % ((waitOf c).length : Int)).toNat : Nat) : Int) = od % ((waitOf c).length : Int) := Int.toNat_of_nonneg j0
  rw [← hJe]
  have hmem := mem_getD hJ
  refine I_lst hwl rfl ⟨by (first | lia | omega), by (first | lia | omega)⟩ (item_ints hJ) (by rw [intAVs_len]; (first | lia | omega)) ?_
  obtain ⟨i, hi1, hi2, hi3⟩ := wait_mem hmem
  rw [hi1]
  walk_at "in"
  refine XS_con ?_
  walk_at "in"
  refine h _ _ i hi2 hi3 ⟨?_, ?_, ?_, ?_, ?_, ?_, ?_, ?_, od / 5, ?_⟩ ?_ ?_
  all_goals first | walk_at "lk" | exact X2
end
section
/-! what is typed -/
noncomputable def uAt (z : Int) : Nat := (unseenL.getD (z % 27).toNat 0).toNat
noncomputable def typ (z : Int) : Nat → List Nat
  | 0 => []
  | p + 1 => typ z p ++ (if p % 2 = 1 then [uAt (z + (p : Int))] else []) ++ [34]
theorem unseen_ok : ∀ v ∈ unseenL, (0 ≤ v ∧ v ≤ 0x10FFFF) ∧ v ∈ b1Set ∧ v.toNat ≠ 34 ∧ (v.toNat : Int) = v := by decide +kernel
theorem unseen_len : unseenL.length = 27 := by decide +kernel
theorem typ_len (z : Int) : ∀ p : Nat, (typ z p).length ≤ 2 * p
  | 0 => Nat.le_refl _
  | p + 1 => by
    have ih := typ_len z p
    unfold typ
    rw [List.length_append, List.length_append]
    split <;> simp <;> (first | lia | omega)
theorem u_idx (z : Int) : (0 ≤ z % 27 ∧ z % 27 < 27) ∧ (z % 27).toNat < unseenL.length ∧ (((z % 27).toNat : Nat) : Int) = z % 27 := by
  have h0 : 0 ≤ z % 27 := Int.emod_nonneg _ (by decide)
  have h1 : z % 27 < 27 := Int.emod_lt_of_pos _ (by decide)
  refine ⟨⟨h0, h1⟩, ?_, Int.toNat_of_nonneg h0⟩
  rw [unseen_len]; (first | lia | omega)
local macro_rules | `(tactic| walk_at "lit") => `(tactic| with_reducible first | exact lit_sq | exact lit_q | exact lit_e | exact lt_semi)
theorem turn_2 {n : Nat} {loc : List (Str × AV)} {hp : List AO} {N G ru i : Nat} {d r t : Int} {ps : List Pile} {c : Nat → Nat} {o : AO} {R : Fl → St → Prop} (L : TL loc N G ru d r t) (hi : i < 4) (hil : loc.lookup (Str.ofString "i") = some (.int (i : Nat))) (I : Imm N G ru ps hp) (hpg : hp[N + 1]? = some o) (ho : o.lst? = some (strAVs (pgs ps c))) (hc : c i ≤ 40)
    (h : ∀ loc' hp', TL loc' N G ru d r t → loc'.lookup (Str.ofString "i") = some (.int (i : Nat)) → loc'.lookup (Str.ofString "count") = some (.int (c i : Nat)) → loc'.lookup (Str.ofString "typed") = some (.str (typ (d + t) (c i) ++ [uAt (d + t)] ++ [r.toNat])) → Ext hp hp' → XS (n + 193) ⟨fScope (cell 25), true, 1⟩ (bodyT.drop 7) ⟨loc', hp'⟩ R) :
    XS (n + 196) ⟨fScope (cell 25), true, 1⟩ (bodyT.drop 4) ⟨loc, hp⟩ R := by
  obtain ⟨m1, m2, m3, m4, m5, m6, m7, m8, od, m9⟩ := L
  have pk := I.plok hi
  have hct := sp_count pk.1 pk.2.1 (c i)
  have hu := I.unseen
  conv => arg 3; whnf
  walk_at "go"
  refine I_lst hpg ho (by (first | lia | omega)) (pgs_at hi) (by rw [pgs_len]; (first | lia | omega)) ?_
  walk_at "go"
  rw [hct]
  generalize c i = cn at hc h
  walk_at "go"
  refine A_tup app_here ?_
  walk_at "go"
  refine X_fo ?_
  walk_at "go"
  refine it_rng app_here (by (first | lia | omega)) ?_
  have e : (if (0 : Int) < (cn : Int) then (cn : Int) - 0 else 0) = ((cn : Nat) : Int) - ((0 : Nat) : Int) := by split <;> (first | lia | omega)
  rw [e]
  refine for_any cn (fun i => .riter (0 + (i : Int)) ((cn : Int) - i) 1) (fun i => .int (0 + (i : Int))) (fun p loc' hp' => TL loc' N G ru d r t ∧ loc'.lookup (Str.ofString "i") = some (.int (i : Nat)) ∧ loc'.lookup (Str.ofString "count") = some (.int (cn : Nat)) ∧ loc'.lookup (Str.ofString "typed") = some (.str (typ (d + t) p)) ∧ Ext hp hp') ?_ rfl (fun _ _ _ _ => iter_rng _ 0 cn) ?_ ?_ ?_ ?_
  · exact .inl (by decide +kernel)
  · exact fun j loc' hp' o o' I _ _ => ⟨I.1, I.2.1, I.2.2.1, I.2.2.2.1, I.2.2.2.2.set (by simp)⟩
  · refine ⟨⟨?_, ?_, ?_, ?_, ?_, ?_, ?_, ?_, od, ?_⟩, ?_, ?_, ?_, ((Ext.app _ _).trans (Ext.app _ _)).trans (Ext.app _ _)⟩
    all_goals first | walk_at "lk" | (show _ = some (AV.str []); walk_at "lk")
  · rintro p hp1 loc' hp' ⟨⟨m1, m2, m3, m4, m5, m6, m7, m8, od', m9⟩, i1, i2, i3, x⟩ hit
    try dsimp only
    rw [show (0 : Int) + (p : Int) = (p : Int) by (first | lia | omega)]
    have htl := typ_len (d + t) p
    have hu' := x.at hu
    walk_at "go"
    rw [show decide ((p : Int) % 2 = 1) = decide (p % 2 = 1) from decide_eq_decide.mpr (by (first | lia | omega))]
    have e1 : typ (d + t) (p + 1) = typ (d + t) p ++ (if p % 2 = 1 then [uAt (d + t + (p : Int))] else []) ++ [34] := rfl
    by_cases hq : p % 2 = 1
    · rw [decide_eq_true hq]
      rw [if_pos hq] at e1
      try dsimp only
      obtain ⟨u1, u2, u3⟩ := u_idx (d + t + (p : Int))
      have hv := unseen_ok _ (mem_getD u2)
      walk_at "go"
      refine I_lst hu' rfl (ck27 u1) (by rw [← u3]; exact item_ints u2) (by rw [intAVs_len, unseen_len]; decide) ?_
      walk_at "go"
      refine F_chr hv.1 ?_
      rw [show (unseenL.getD ((d + t + (p : Int)) % 27).toNat 0).toNat = uAt (d + t + (p : Int)) from rfl]
      walk_at "go"
      refine loop_next hp1 hit ⟨⟨?_, ?_, ?_, ?_, ?_, ?_, ?_, ?_, od', ?_⟩, ?_, ?_, ?_, x⟩
      all_goals first | walk_at "lk" | skip
      rw [e1]
      walk_at "lk"
    · rw [decide_eq_false hq]
      rw [if_neg hq] at e1
      try dsimp only
      walk_at "go"
      refine loop_next hp1 hit ⟨⟨?_, ?_, ?_, ?_, ?_, ?_, ?_, ?_, od', ?_⟩, ?_, ?_, ?_, x⟩
      all_goals first | walk_at "lk" | skip
      rw [e1]
      walk_at "lk"
  · rintro loc' hp' ⟨⟨m1, m2, m3, m4, m5, m6, m7, m8, od', m9⟩, i1, i2, i3, x⟩
    have htl := typ_len (d + t) cn
    have hu' := x.at hu
    obtain ⟨u1, u2, u3⟩ := u_idx (d + t)
    have hv := unseen_ok _ (mem_getD u2)
    refine XS_con ?_
    walk_at "in"
    refine I_lst hu' rfl (ck27 u1) (by rw [← u3]; exact item_ints u2) (by rw [intAVs_len, unseen_len]; decide) ?_
    walk_at "in"
    refine F_chr hv.1 ?_
    rw [show (unseenL.getD ((d + t) % 27).toNat 0).toNat = uAt (d + t) from rfl]
    walk_at "in"
    refine h _ _ ⟨?_, ?_, ?_, ?_, ?_, ?_, ?_, ?_, od', ?_⟩ ?_ ?_ ?_ x
    all_goals walk_at "lk"
end
section
/-! what is told of it -/
noncomputable def isB (a : Nat) : Bool := decide ((a : Int) ∈ b1Set)
theorem isB_34 : isB 34 = false := by decide +kernel
theorem isB_u (z : Int) : isB (uAt z) = true := by
  obtain ⟨u1, u2, u3⟩ := u_idx z
  have hv := unseen_ok _ (mem_getD u2)
  unfold isB uAt
  rw [hv.2.2.2]
  exact decide_eq_true hv.2.1
theorem isB_r {r : Int} (h : r ∈ besideL) : isB r.toNat = false := by
  have hr := beside_ne r h
  unfold isB
  rw [hr.2.2.2.2.2.2]
  exact decide_eq_false hr.2.2.2.2.2.1
theorem typ_filter (z : Int) : ∀ p : Nat, (typ z p).filter (fun a => !isB a) = rep [34] p
  | 0 => by simp [typ, rep]
  | p + 1 => by
    have ih := typ_filter z p
    unfold typ
    rw [List.filter_append, List.filter_append, ih]
    have e1 : (if p % 2 = 1 then [uAt (z + (p : Int))] else []).filter (fun a => !isB a) = [] := by
      split
      · simp [isB_u]
      · rfl
    have e2 : [34].filter (fun a => !isB a) = [34] := by simp [isB_34]
    rw [e1, e2, List.append_nil]
    unfold rep
    simp [List.replicate_succ', List.flatten_append]
theorem typ_head (z : Int) : ∀ p : Nat, ∃ t, typ z (p + 2) = 34 :: uAt (z + 1) :: t
  | 0 => ⟨[34], by simp [typ]⟩
  | p + 1 => by
    obtain ⟨t, e⟩ := typ_head z p
    have e1 : typ z (p + 1 + 2) = typ z (p + 2) ++ (if (p + 2) % 2 = 1 then [uAt (z + ((p + 2 : Nat) : Int))] else []) ++ [34] := rfl
    exact ⟨_, by rw [e1, e, List.append_assoc]; rfl⟩
theorem u_ne (z : Int) : uAt z ≠ 34 := (unseen_ok _ (mem_getD (u_idx z).2.1)).2.2.1
theorem typ_p257 (z : Int) {p : Nat} (h : 2 ≤ p) (t : List Nat) : p257 ([50, 53, 55, 32, 34] ++ (typ z p ++ t) ++ [34]) = [] := by
  obtain ⟨q, rfl⟩ : ∃ q, p = q + 2 := ⟨p - 2, by (first | lia | omega)⟩
  obtain ⟨s, e⟩ := typ_head z q
  unfold p257
  rw [e]
  show (if [32, 34] = [32, 34] then scan (34 :: uAt (z + 1) :: (s ++ t ++ [34])) else []) = []
  rw [if_pos rfl, scan_eq, if_pos rfl]
  try dsimp only
  rw [if_neg (u_ne _)]
theorem range_fm {α β : Type} (g : α → Option β) (l : List α) (d : α) : (List.range l.length).filterMap (fun k => g (l.getD k d)) = l.filterMap g := by
  conv => rhs; rw [← range_getD l d, List.filterMap_map]
  rfl
theorem fm_filter (q : Nat → Bool) : ∀ l : List Nat, l.filterMap (fun a => if q a then none else some a) = l.filter (fun a => !q a)
  | [] => rfl
  | a :: l => by
    rw [List.filterMap_cons, List.filter_cons, fm_filter q l]
    cases q a <;> rfl
theorem fm_filter2 (q : Nat → Bool) : ∀ l : List Nat, l.filterMap (fun a => if q a then some a else none) = l.filter q
  | [] => rfl
  | a :: l => by
    rw [List.filterMap_cons, List.filter_cons, fm_filter2 q l]
    cases q a <;> rfl
theorem split_len (q : Nat → Bool) : ∀ l : List Nat, l.length = (l.filter fun a => !q a).length + (l.filter q).length
  | [] => rfl
  | a :: l => by
    have := split_len q l
    rw [List.filter_cons, List.filter_cons]
    cases q a <;> simp <;> (first | lia | omega)
theorem singles : ∀ l : List Nat, (l.map fun a => [a]).flatten = l
  | [] => rfl
  | a :: l => by rw [List.map_cons, List.flatten_cons, singles l]; rfl
theorem ysOf_map {α : Type} (h : α → AV) (f : Nat → Option α) (n : Nat) : ysOf (fun i => (f i).map h) n = ((List.range n).filterMap f).map h := by
  unfold ysOf
  rw [List.map_filterMap]
theorem lt_257q : (Str.ofString "257 \"").cps.toList = [50, 53, 55, 32, 34] := by decide +kernel
local macro_rules | `(tactic| walk_at "lit") => `(tactic| with_reducible first | exact lit_sq | exact lit_q | exact lit_e | exact lt_semi | exact lt_257q)
theorem turn_3 {n : Nat} {loc : List (Str × AV)} {hp : List AO} {N G ru i cn : Nat} {d r t : Int} {R : Fl → St → Prop} (L : TL loc N G ru d r t) (hr : r ∈ besideL) (hil : loc.lookup (Str.ofString "i") = some (.int (i : Nat))) (hcl : loc.lookup (Str.ofString "count") = some (.int (cn : Nat))) (h2 : 2 ≤ cn) (hc : cn ≤ 40)
    (htl : loc.lookup (Str.ofString "typed") = some (.str (typ (d + t) cn ++ [uAt (d + t)] ++ [r.toNat])))
    (h : ∀ loc' hp', TL loc' N G ru d r t → loc'.lookup (Str.ofString "i") = some (.int (i : Nat)) → loc'.lookup (Str.ofString "count") = some (.int (cn : Nat)) → loc'.lookup (Str.ofString "seen") = some (.str (rep [34] cn ++ [r.toNat])) → Ext hp hp' → XS (n + 189) ⟨fScope (cell 25), true, 1⟩ (bodyT.drop 11) ⟨loc', hp'⟩ R) :
    XS (n + 193) ⟨fScope (cell 25), true, 1⟩ (bodyT.drop 7) ⟨loc, hp⟩ R := by
  obtain ⟨m1, m2, m3, m4, m5, m6, m7, m8, od, m9⟩ := L
  have hB := isB_r hr
  obtain ⟨rc, hrc⟩ : ∃ rc, r.toNat = rc := ⟨_, rfl⟩
  rw [hrc] at hB m3 htl
  have hseen : (typ (d + t) cn ++ [uAt (d + t)] ++ [rc]).filter (fun a => !isB a) = rep [34] cn ++ [rc] := by
    rw [List.filter_append, List.filter_append, typ_filter]
    simp [isB_u, hB]
  have hnone : p257 ([50, 53, 55, 32, 34] ++ (typ (d + t) cn ++ [uAt (d + t)] ++ [rc]) ++ [34]) = [] := by
    rw [List.append_assoc (typ (d + t) cn)]; exact typ_p257 _ h2 _
  have hlen : (typ (d + t) cn ++ [uAt (d + t)] ++ [rc]).length ≤ 90 := by
    have := typ_len (d + t) cn
    simp; (first | lia | omega)
  generalize typ (d + t) cn ++ [uAt (d + t)] ++ [rc] = TY at htl hseen hnone hlen
  conv => arg 3; whnf
  walk_at "go"
  refine E_com (by kernel_rfl) ?_
  walk_at "go"
  refine it_str ?_
  refine comp_no TY.length (fun i => .siter TY i) (fun i => .str [TY.getD i 0]) (fun i => .bool (isB (TY.getD i 0))) (iter_str hp TY) rfl (by (first | lia | omega)) ?_ ?_
  · intro j hj hp' x _ K hK
    try dsimp only
    generalize TY.getD j 0 = a at hK
    walk_at "go"
    refine b1_spec ?_
    have := hK []
    rw [List.append_nil] at this
    exact this _
  intro hp1 tr x1 htr _
  have htr' : hp1[tr]? = some (.plist (TY.map fun a => .bool (isB a))) := by
    rw [htr]
    conv => rhs; rw [← range_getD TY 0, List.map_map]
    rfl
  clear htr
  have X1 : Ext hp hp1 := x1
  walk_at "go"
  refine E_com (by kernel_rfl) ?_
  walk_at "go"
  refine it_rng app_here (by (first | lia | omega)) ?_
  have e : (if (0 : Int) < (TY.length : Int) then (TY.length : Int) - 0 else 0) = (TY.length : Int) - ((0 : Nat) : Int) := by split <;> (first | lia | omega)
  rw [e]
  refine comp_if TY.length (fun i => .riter (0 + (i : Int)) ((TY.length : Int) - i) 1) (fun i => .int (0 + (i : Int))) (fun k => (if isB (TY.getD k 0) then none else some (TY.getD k 0)).map fun a => .str [a]) (iter_rng _ 0 _) rfl (by (first | lia | omega)) ?_ ?_
  · intro j hj hp' x _ K k1 k2
    try dsimp only
    rw [show (0 : Int) + (j : Int) = (j : Int) by (first | lia | omega)]
    have hge : TY[j]? = some (TY.getD j 0) := by rw [List.getD_eq_getElem?_getD, List.getElem?_eq_getElem hj]; rfl
    have htr2 := x.at (app_left htr')
    walk_at "go"
    refine I_lst htr2 rfl (by (first | lia | omega)) (item_map _ hge) (by rw [List.length_map]; (first | lia | omega)) ?_
    generalize TY.getD j 0 = a at hge k1 k2
    walk_at "go"
    cases hq : isB a with
    | true =>
      have := k1 (by rw [hq]; rfl) []
      rw [List.append_nil] at this
      exact this _
    | false =>
      have := k2 []
      rw [List.append_nil] at this
      refine this _ fun K' hK => ?_
      walk_at "go"
      refine I_str (c := a) (by (first | lia | omega)) (by rw [Int.toNat_natCast]; exact hge) ?_
      have := hK (.str [a]) [] (upd (Str.ofString "k") (.int j) (dropN (Str.ofString "k") (upd (Str.ofString "told") (.ref tr) loc))) (by rw [hq]; rfl)
      rw [List.append_nil] at this
      exact this
  intro hp2 sr x2 hsr _
  rw [ysOf_map, range_fm (fun a => if isB a then none else some a), fm_filter, hseen] at hsr
  have X2 : Ext hp1 hp2 := (Ext.app _ _).trans x2
  walk_at "go"
  refine G_join hsr rfl (toStrs_map (fun a => [a]) _) (by rw [singles]; simp [rep_len]; (first | lia | omega)) ?_
  rw [singles]
  walk_at "go"
  refine E_com (by kernel_rfl) ?_
  walk_at "go"
  refine it_lst (X2.at htr') rfl ?_
  refine comp_if TY.length (fun i => .liter tr i) (fun i => (TY.map fun a => AV.bool (isB a)).getD i .none) (fun k => (if isB (TY.getD k 0) then some (TY.getD k 0) else none).map fun a => .bool (isB a)) ?_ rfl (by (first | lia | omega)) ?_ ?_
  · have z := iter_lst (X2.at htr') (xs := TY.map fun a => .bool (isB a)) rfl
    rw [List.length_map] at z
    exact z
  · intro j hj hp' x _ K k1 k2
    try dsimp only
    have hge : (TY.map fun a => AV.bool (isB a)).getD j .none = .bool (isB (TY.getD j 0)) := by
      rw [List.getD_eq_getElem?_getD, List.getElem?_map, List.getElem?_eq_getElem hj, List.getD_eq_getElem?_getD, List.getElem?_eq_getElem hj]; rfl
    rw [hge]
    generalize TY.getD j 0 = a at k1 k2
    walk_at "go"
    cases hq : isB a with
    | false =>
      have := k1 (by rw [hq]; rfl) []
      rw [List.append_nil] at this
      exact this _
    | true =>
      have := k2 []
      rw [List.append_nil] at this
      refine this _ fun K' hK => ?_
      walk_at "go"
      have := hK (.bool true) [] (upd (Str.ofString "one") (.bool true) (dropN (Str.ofString "one") (upd (Str.ofString "seen") (.str (rep [34] cn ++ [rc])) (upd (Str.ofString "told") (.ref tr) loc)))) (by rw [hq, if_pos rfl]; show some (AV.bool (isB a)) = _; rw [hq])
      rw [List.append_nil] at this
      exact this
  intro hp3 hr3 x3 hh3 _
  rw [ysOf_map, range_fm (fun a => if isB a then some a else none), fm_filter2] at hh3
  have hsl := split_len isB TY
  rw [hseen] at hsl
  have hrl : (rep [34] cn).length = cn := by rw [rep_len]; simp
  have hl3 : (rep [34] cn ++ [rc]).length = cn + 1 := by rw [List.length_append, hrl]; rfl
  walk_at "go"
  rw [List.length_map]
  refine B_rep (by simp; (first | lia | omega)) ?_
  walk_at "go"
  rw [decide_eq_true rfl, show (!true) = false from rfl]
  try dsimp only
  walk_at "go"
  rw [hl3, decide_eq_true (show (TY.length : Int) = ((cn + 1 : Nat) : Int) + ((TY.filter isB).length : Int) by (first | lia | omega)), show (!true) = false from rfl]
  try dsimp only
  walk_at "go"
  refine parse_spec (by simp; (first | lia | omega)) (by simp) ?_
  rw [hnone]
  walk_at "go"
  rw [decide_eq_true rfl, show (!true) = false from rfl]
  walk_at "in"
  refine h _ _ ⟨?_, ?_, ?_, ?_, ?_, ?_, ?_, ?_, od, ?_⟩ ?_ ?_ ?_ (X1.trans (X2.trans x3))
  all_goals first | walk_at "lk" | (rw [hrc]; walk_at "lk")
end
section
/-! the two readings -/
theorem rep_cons (k : Nat) : rep [34] ((k + 1 : Nat) : Int) = 34 :: rep [34] (k : Int) := by rw [rep_succ]; rfl
theorem rep_snoc (a k : Nat) : rep [a] ((k + 1 : Nat) : Int) = rep [a] (k : Int) ++ [a] := by
  unfold rep
  rw [show ((k + 1 : Nat) : Int).toNat = k + 1 by (first | lia | omega), show ((k : Nat) : Int).toNat = k by (first | lia | omega), List.replicate_succ', List.flatten_append]; rfl
theorem scanQ {rc : Nat} (h : rc ≠ 34) (tl : List Nat) : ∀ m : Nat, scan (rep [34] m ++ rc :: tl) = rep [34] ((m / 2 : Nat) : Int) ++ (if m % 2 = 0 then rc :: scan tl else [])
  | 0 => by
    show scan (rc :: tl) = _
    rw [scan_eq, if_neg h]; rfl
  | 1 => by
    show scan (34 :: rc :: tl) = _
    rw [scan_eq, if_pos rfl]
    try dsimp only
    rw [if_neg h]; rfl
  | m + 2 => by
    have ih := scanQ h tl m
    rw [rep_cons, rep_cons]
    show scan (34 :: 34 :: (rep [34] m ++ rc :: tl)) = _
    rw [scan_eq, if_pos rfl]
    try dsimp only
    rw [if_pos rfl, ih, show (m + 2) / 2 = m / 2 + 1 from Nat.add_div_right m (by decide), show (m + 2) % 2 = m % 2 from Nat.add_mod_right m 2, rep_cons]; rfl
noncomputable def tailOf (rc : Nat) : Nat → List Nat
  | 0 => [34]
  | _ => [34, 32, 34] ++ [rc]
theorem scan_tail (rc j : Nat) : scan (tailOf rc j) = [] := by
  cases j <;> simp [tailOf, scan]
theorem read_is {rc : Nat} (h : rc ≠ 34) (m j : Nat) : p257 ([50, 53, 55, 32, 34] ++ [rc] ++ rep [34] m ++ [rc] ++ tailOf rc j) = rc :: (rep [34] ((m / 2 : Nat) : Int) ++ (if m % 2 = 0 then [rc] else [])) := by
  unfold p257
  have e : ([50, 53, 55, 32, 34] ++ [rc] ++ rep [34] m ++ [rc] ++ tailOf rc j) = 50 :: 53 :: 55 :: 32 :: 34 :: rc :: (rep [34] m ++ rc :: tailOf rc j) := by simp
  rw [e, if_pos (by rfl)]
  show scan (rc :: (rep [34] m ++ rc :: tailOf rc j)) = _
  rw [scan_eq, if_neg h, scanQ h, scan_tail]
theorem sub_quot : ∀ k : Nat, sub1 34 [32] (rep [34] k) = rep [32] k
  | 0 => rfl
  | k + 1 => by
    rw [rep_snoc, rep_snoc, sub1_append, sub_quot k]; rfl
theorem wsRun_stop {r : Nat} (h1 : r ≠ 32) (h2 : r ≠ 9) (t : List Nat) : ∀ (l : List Nat) (c : Cnt), (∀ a ∈ l, a = 32 ∨ a = 9) → wsRun (l ++ r :: t) c = wsRun l c
  | [], c, _ => by
    show (if r = 32 then _ else if r = 9 then _ else c) = c
    rw [if_neg h1, if_neg h2]
  | a :: l, c, h => by
    have ih := fun c => wsRun_stop h1 h2 t l c fun x m => h x (.tail _ m)
    show (if a = 32 then wsRun (l ++ r :: t) _ else if a = 9 then wsRun (l ++ r :: t) _ else c) = (if a = 32 then wsRun l _ else if a = 9 then wsRun l _ else c)
    rw [ih, ih]
theorem lead4 : ∀ cn ∈ List.range 41, 4 ≤ cn → ilev (wsOf (rep [32] (cn : Int) ++ [9])) 4 = 4 * ((cn / 4 : Nat) : Int) + 4 := by decide +kernel
theorem lt_qs : (Str.ofString "\" \"").cps.toList = [34, 32, 34] := by decide +kernel
local macro_rules | `(tactic| walk_at "lit") => `(tactic| with_reducible first | exact lit_sq | exact lit_q | exact lit_e | exact lt_semi | exact lt_257q | exact lt_qs | exact lt_tab)
theorem quot_is : Str.ofString "\"" = ⟨#[34]⟩ := by decide +kernel
theorem blank_is : Str.ofString " " = ⟨#[32]⟩ := by decide +kernel
structure RInv (N G ru i cn : Nat) (d r t : Int) (hp₀ : List AO) (m s : Nat) (loc : List (Str × AV)) (hp : List AO) : Prop where
  tl : TL loc N G ru d r t
  il : loc.lookup (Str.ofString "i") = some (.int (i : Nat))
  blanks : loc.lookup (Str.ofString "blanks") = some (.str (rep [32] cn))
  marks : loc.lookup (Str.ofString "marks") = some (.str (rep [34] m))
  stays : loc.lookup (Str.ofString "stays") = some (.int (s : Nat))
  ext : Ext hp₀ hp
noncomputable def mOf (cn : Nat) : Nat → Nat
  | 0 => cn
  | j + 1 => mOf cn j / 2
noncomputable def sOf (cn : Nat) : Nat → Nat
  | 0 => 0
  | j + 1 => sOf cn j + (if mOf cn j % 2 = 0 then 0 else j + 1)
theorem ms_tab : ∀ cn ∈ List.range 41, mOf cn 2 = cn / 4 ∧ sOf cn 2 = cn % 4 := by decide +kernel
theorem turn_4 {n : Nat} {loc : List (Str × AV)} {hp : List AO} {N G ru i cn : Nat} {d r t : Int} {R : Fl → St → Prop} (L : TL loc N G ru d r t) (hr : r ∈ besideL) (hil : loc.lookup (Str.ofString "i") = some (.int (i : Nat))) (h4 : 4 ≤ cn) (hc : cn ≤ 40)
    (hsl : loc.lookup (Str.ofString "seen") = some (.str (rep [34] cn ++ [r.toNat])))
    (h : ∀ loc' hp', TL loc' N G ru d r t → loc'.lookup (Str.ofString "i") = some (.int (i : Nat)) → loc'.lookup (Str.ofString "stays") = some (.int ((cn % 4 : Nat) : Int)) → loc'.lookup (Str.ofString "share") = some (.int ((cn / 4 : Nat) : Int)) → Ext hp hp' → XS (n + 185) ⟨fScope (cell 25), true, 1⟩ (bodyT.drop 15) ⟨loc', hp'⟩ R) :
    XS (n + 189) ⟨fScope (cell 25), true, 1⟩ (bodyT.drop 11) ⟨loc, hp⟩ R := by
  obtain ⟨m1, m2, m3, m4, m5, m6, m7, m8, od, m9⟩ := L
  have hne := beside_ne r hr
  obtain ⟨rc, hrc⟩ : ∃ rc, r.toNat = rc := ⟨_, rfl⟩
  rw [hrc] at hne m3 hsl
  have hrl : (rep [34] cn).length = cn := by rw [rep_len]; simp
  conv => arg 3; whnf
  walk_at "go"
  rw [show cut (rep [34] (cn : Int) ++ [rc]) none (some (-1)) = rep [34] (cn : Int) by rw [cut_init, List.dropLast_concat]]
  refine aM_some (l := rep [34] cn) (p := Str.ofString "\"") (q := Str.ofString " ") rfl ⟨by decide +kernel, ?_⟩ ?_
  · rw [hrl, blank_is]; show cn + (cn + 1) * 1 ≤ 2 ^ 24; (first | lia | omega)
  have hv : (Txt.replace ⟨(rep [34] (cn : Int)).toArray⟩ (Str.ofString "\"") (Str.ofString " ")).cps.toList = rep [32] (cn : Int) := by
    rw [quot_is, replace_is, blank_is, show (⟨#[32]⟩ : Str).cps.toList = [32] from rfl, sub_quot]
  rw [hv]
  walk_at "go"
  rw [show cut (rep [34] (cn : Int) ++ [rc]) none (some (-1)) = rep [34] (cn : Int) by rw [cut_init, List.dropLast_concat]]
  walk_at "go"
  refine A_tup app_here ?_
  walk_at "go"
  refine X_fo ?_
  walk_at "go"
  refine it_lst app_here rfl ?_
  have X0 : Ext hp (hp ++ [AO.tup [.str (rep [32] cn), .str (rep [34] cn), .int 0]] ++ [AO.plist [.int 1, .int 2]]) := (Ext.app _ _).trans (Ext.app _ _)
  have hlst : (hp ++ [AO.tup [.str (rep [32] cn), .str (rep [34] cn), .int 0]] ++ [AO.plist [.int 1, .int 2]])[(hp ++ [AO.tup [.str (rep [32] cn), .str (rep [34] cn), .int 0]]).length]? = some (.plist [.int 1, .int 2]) := app_here
  have hl2 := X0.len
  generalize hp ++ [AO.tup [.str (rep [32] cn), .str (rep [34] cn), .int 0]] ++ [AO.plist [.int 1, .int 2]] = hp1 at X0 hlst hl2
  generalize (hp ++ [AO.tup [.str (rep [32] cn), .str (rep [34] cn), .int 0]]).length = M at hlst
  refine for_any 2 (fun i => .liter M i) (fun i => [AV.int 1, AV.int 2].getD i .none) (fun j loc' hp' => RInv N G ru i cn d r t hp (mOf cn j) (sOf cn j) loc' hp' ∧ hp'[M]? = some (.plist [.int 1, .int 2])) ?_ rfl ?_ ?_ ?_ ?_ ?_
  · exact .inl (by decide +kernel)
  · intro j loc' hp' I
    exact iter_lst I.2 rfl
  · rintro j loc' hp' o o' ⟨I, I2⟩ hj ⟨k, hk⟩
    exact ⟨⟨I.tl, I.il, I.blanks, I.marks, I.stays, I.ext.set hl2⟩, set_other I2 hj (by rw [hk]; nofun)⟩
  · refine ⟨⟨⟨?_, ?_, ?_, ?_, ?_, ?_, ?_, ?_, od, ?_⟩, ?_, ?_, ?_, ?_, X0.trans (Ext.app _ _)⟩, app_left hlst⟩
    all_goals first | walk_at "lk" | (rw [hrc]; walk_at "lk") | (show _ = some (AV.int 0); walk_at "lk") | (show _ = some (AV.str (rep [34] cn)); walk_at "lk")
  · rintro j hj loc' hp' ⟨I, I2⟩ hit
    obtain ⟨⟨m1, m2, m3, m4, m5, m6, m7, m8, od', m9⟩, n1, n2, n3, n4, x⟩ := I
    rw [hrc] at m3
    have hm : mOf cn j ≤ 40 := by
      match j, hj with
      | 0, _ => exact hc
      | 1, _ => show cn / 2 ≤ 40; (first | lia | omega)
    have e1 : mOf cn (j + 1) = mOf cn j / 2 := rfl
    have e2 : sOf cn (j + 1) = sOf cn j + (if mOf cn j % 2 = 0 then 0 else j + 1) := rfl
    have hmq : (rep [34] (mOf cn j)).length = mOf cn j := by rw [rep_len]; simp
    have hitem : ∃ l : Int, [AV.int 1, AV.int 2].getD j .none = .int l ∧ l = (j : Int) + 1 ∧ itemAt [AV.str [34], AV.str ([34, 32, 34] ++ [rc])] (l - 1) = some (.str (tailOf rc j)) := by
      match j, hj with
      | 0, _ => exact ⟨1, rfl, rfl, rfl⟩
      | 1, _ => exact ⟨2, rfl, rfl, rfl⟩
    obtain ⟨l, g1, g2, g3⟩ := hitem
    have htl : (tailOf rc j).length ≤ 4 := by cases j <;> simp [tailOf]
    have hread := read_is hne.1 (mOf cn j) j
    rw [g1]
    generalize mOf cn j = m at hm hmq hread n3 e1 e2
    generalize sOf cn j = s at n4 e2
    walk_at "go"
    refine I_lst (o := .plist [AV.str [34], AV.str ([34, 32, 34] ++ [rc])]) app_here rfl (by (first | lia | omega)) g3 (by simp) ?_
    walk_at "go"
    refine parse_spec ?_ (by simp) ?_
    · simp only [List.length_append, List.length_cons, List.length_nil, hmq]; (first | lia | omega)
    rw [hread]
    have hm2 : (rep [34] ((m / 2 : Nat) : Int)).length = m / 2 := by rw [rep_len]; simp
    by_cases hp : m % 2 = 0
    · rw [if_pos hp] at e2 ⊢
      rw [Nat.add_zero] at e2
      have hz : (rc :: (rep [34] ((m / 2 : Nat) : Int) ++ [rc])).length = m / 2 + 2 := by rw [List.length_cons, List.length_append, hm2]; rfl
      walk_at "go"
      rw [show cut (rc :: (rep [34] ((m / 2 : Nat) : Int) ++ [rc])) (some 1) none = rep [34] ((m / 2 : Nat) : Int) ++ [rc] from cut_from _ 1]
      have hz2 : (rep [34] ((m / 2 : Nat) : Int) ++ [rc]).length = m / 2 + 1 := by rw [List.length_append, hm2]; rfl
      walk_at "go"
      rw [show cut (rep [34] ((m / 2 : Nat) : Int) ++ [rc]) (some (-1)) none = [rc] by rw [cut_last, hz2, Nat.add_sub_cancel, List.drop_append_of_le_length (by (first | lia | omega)), List.drop_eq_nil_of_le (by (first | lia | omega))]; rfl, decide_eq_true rfl]
      try dsimp only
      walk_at "go"
      rw [show cut (rep [34] ((m / 2 : Nat) : Int) ++ [rc]) none (some (-1)) = rep [34] ((m / 2 : Nat) : Int) by rw [cut_init, List.dropLast_concat]]
      walk_at "go"
      refine loop_next hj (app_left hit) ⟨⟨⟨?_, ?_, ?_, ?_, ?_, ?_, ?_, ?_, od', ?_⟩, ?_, ?_, ?_, ?_, x.trans (Ext.app _ _)⟩, app_left I2⟩
      all_goals first | walk_at "lk" | (rw [hrc]; walk_at "lk") | (rw [e1]; walk_at "lk") | (rw [e2]; show _ = some (AV.int (s : Int)); walk_at "lk")
    · rw [if_neg hp] at e2 ⊢
      rw [List.append_nil]
      have hz : (rc :: rep [34] ((m / 2 : Nat) : Int)).length = m / 2 + 1 := by rw [List.length_cons, hm2]
      walk_at "go"
      rw [show cut (rc :: rep [34] ((m / 2 : Nat) : Int)) (some 1) none = rep [34] ((m / 2 : Nat) : Int) from cut_from _ 1]
      walk_at "go"
      have hlast : cut (rep [34] ((m / 2 : Nat) : Int)) (some (-1)) none ≠ [rc] := by
        rw [cut_last]
        intro e
        have : rc ∈ rep [34] ((m / 2 : Nat) : Int) := List.mem_of_mem_drop (by rw [e]; exact .head _)
        have := rep_mem this
        simp at this
        exact hne.1 this
      rw [decide_eq_false hlast]
      try dsimp only
      walk_at "go"
      refine loop_next hj (app_left hit) ⟨⟨⟨?_, ?_, ?_, ?_, ?_, ?_, ?_, ?_, od', ?_⟩, ?_, ?_, ?_, ?_, x.trans (Ext.app _ _)⟩, app_left I2⟩
      all_goals first | walk_at "lk" | (rw [hrc]; walk_at "lk") | (rw [e1]; walk_at "lk") | (rw [e2, show ((s + (j + 1) : Nat) : Int) = (s : Int) + l by (first | lia | omega)]; walk_at "lk")
  · rintro loc' hp' ⟨I, I2⟩
    obtain ⟨⟨m1, m2, m3, m4, m5, m6, m7, m8, od', m9⟩, n1, n2, n3, n4, x⟩ := I
    rw [hrc] at m3
    obtain ⟨f1, f2⟩ := ms_tab cn (List.mem_range.mpr (Nat.lt_succ_of_le hc))
    rw [f1] at n3
    rw [f2] at n4
    have hq : (rep [34] ((cn / 4 : Nat) : Int)).length = cn / 4 := by rw [rep_len]; simp
    have hbl : (rep [32] (cn : Int)).length = cn := by rw [rep_len]; simp
    walk_at "go"
    rw [hq]
    refine B_rep (by simp; (first | lia | omega)) ?_
    rw [show rep [34] ((cn / 4 : Nat) : Int) = rep [34] ((cn / 4 : Nat) : Int) from rfl]
    refine C_sne ?_
    rw [decide_eq_true rfl, show (!true) = false from rfl]
    try dsimp only
    walk_at "go"
    have hwl : (rep [32] (cn : Int) ++ [9] ++ [rc] ++ [9]).length = cn + 3 := by simp [hbl]
    refine ws_spec (by rw [hwl]; (first | lia | omega)) fun hp2 w2 x2 W => ?_
    have ew : wsOf (rep [32] (cn : Int) ++ [9] ++ [rc] ++ [9]) = wsOf (rep [32] (cn : Int) ++ [9]) := by
      rw [List.append_assoc _ [rc]]
      refine wsRun_stop hne.2.2.1 hne.2.2.2.1 [9] _ _ fun a ha => ?_
      rcases List.mem_append.mp ha with m | m
      · left; have := rep_mem m; simpa using this
      · right; simpa using m
    rw [ew] at W
    walk_at "go"
    refine mw_ind W ?_
    walk_at "go"
    refine ilev_spec (ts := 4) (by decide) (by decide) W fun hp3 x3 => ?_
    rw [lead4 cn (List.mem_range.mpr (Nat.lt_succ_of_le hc)) h4]
    walk_at "go"
    rw [decide_eq_true rfl, show (!true) = false from rfl]
    walk_at "in"
    refine h _ _ ⟨?_, ?_, ?_, ?_, ?_, ?_, ?_, ?_, od', ?_⟩ ?_ ?_ ?_ ((x.trans x2).trans x3)
    all_goals first | walk_at "lk" | (rw [hrc]; walk_at "lk")
end
section
/-! the pages anew -/
theorem set_range {α : Type} (f : Nat → α) (v : α) (n j : Nat) : ((List.range n).map f).set j v = (List.range n).map fun x => if x = j then v else f x := by
  apply List.ext_getElem
  · simp
  · intro i h1 h2
    simp only [List.getElem_set, List.getElem_map, List.getElem_range]
    by_cases h : j = i
    · subst h; simp
    · rw [if_neg h, if_neg (fun e => h e.symm)]
theorem pgs_set {ps : List Pile} {c : Nat → Nat} {j v : Nat} : (strAVs (pgs ps c)).set j (.str (sp (PL ps j).p.1 (PL ps j).p.2 v)) = strAVs (pgs ps fun x => if x = j then v else c x) := by
  unfold strAVs pgs
  rw [List.map_map, set_range, List.map_map]
  refine List.map_congr_left fun x _ => ?_
  by_cases h : x = j
  · subst h; simp [PL]
  · simp [h]
noncomputable def gvs (g : Nat → Nat) : List Int := (List.range 4).map fun j => (g j : Int)
theorem gvs_len (g : Nat → Nat) : (intAVs (gvs g)).length = 4 := by rw [intAVs_len]; unfold gvs; simp
theorem gvs_at {g : Nat → Nat} {j : Nat} (hj : j < 4) : itemAt (intAVs (gvs g)) (j : Int) = some (.int (g j : Int)) := by
  unfold intAVs gvs
  rw [List.map_map]
  exact item_map _ (by rw [List.getElem?_range hj])
theorem gvs_set {g : Nat → Nat} {j v : Nat} : (intAVs (gvs g)).set j (.int (v : Int)) = intAVs (gvs fun x => if x = j then v else g x) := by
  unfold intAVs gvs
  rw [List.map_map, set_range, List.map_map]
  refine List.map_congr_left fun x _ => ?_
  by_cases h : x = j
  · subst h; simp
  · simp [h]
theorem Fr.put {P : Nat → Prop} {h h' : List AO} {d : Nat} {o : AO} (x : Fr P h h') (hd : h.length ≤ d) : Fr P h (h'.set d o) := fun m o' n k => set_ne (fun e => by subst e; exact absurd (at_lt k) (by (first | lia | omega))) (x m o' n k)
theorem Fr.mono {P Q : Nat → Prop} {h h' : List AO} (x : Fr P h h') (pq : ∀ m, P m → Q m) : Fr Q h h' := fun m o n k => x m o (fun q => n (pq m q)) k
noncomputable def newC (c : Nat → Nat) (i x : Nat) : Nat := if x = i then c i % 4 else c x + c i / 4
noncomputable def midC (c : Nat → Nat) (i j x : Nat) : Nat := if x < j then newC c i x else c x
structure SInv (N G ru i : Nat) (d r t : Int) (ps : List Pile) (c : Nat → Nat) (hp₀ : List AO) (j : Nat) (loc : List (Str × AV)) (hp : List AO) : Prop where
  tl : TL loc N G ru d r t
  il : loc.lookup (Str.ofString "i") = some (.int (i : Nat))
  stays : loc.lookup (Str.ofString "stays") = some (.int ((c i % 4 : Nat) : Int))
  share : loc.lookup (Str.ofString "share") = some (.int ((c i / 4 : Nat) : Int))
  pg : ∃ o, hp[N + 1]? = some o ∧ o.lst? = some (strAVs (pgs ps (midC c i j)))
  fr : Fr (fun m => m = N + 1) hp₀ hp
theorem turn_5 {n : Nat} {loc : List (Str × AV)} {hp : List AO} {N G ru i : Nat} {d r t : Int} {ps : List Pile} {c g : Nat → Nat} {o og : AO} {R : Fl → St → Prop} (L : TL loc N G ru d r t) (hi : i < 4) (hil : loc.lookup (Str.ofString "i") = some (.int (i : Nat))) (hst : loc.lookup (Str.ofString "stays") = some (.int ((c i % 4 : Nat) : Int))) (hsh : loc.lookup (Str.ofString "share") = some (.int ((c i / 4 : Nat) : Int)))
    (I : Imm N G ru ps hp) (hpg : hp[N + 1]? = some o) (ho : o.lst? = some (strAVs (pgs ps c))) (hg : hp[G]? = some og) (hog : og.lst? = some (intAVs (gvs g))) (hb : ∀ j, j < 4 → j ≠ i → c j + c i / 4 ≤ 40)
    (h : ∀ loc' hp' o' og', TL loc' N G ru d r t → Imm N G ru ps hp' → hp'[N + 1]? = some o' → o'.lst? = some (strAVs (pgs ps (newC c i))) → hp'[G]? = some og' → og'.lst? = some (intAVs (gvs fun x => if x = i then g i + c i / 4 else g x)) → Fr (Mut N G) hp hp' → R .next ⟨loc', hp'⟩) :
    XS (n + 185) ⟨fScope (cell 25), true, 1⟩ (bodyT.drop 15) ⟨loc, hp⟩ R := by
  obtain ⟨m1, m2, m3, m4, m5, m6, m7, m8, od, m9⟩ := L
  conv => arg 3; whnf
  refine XS_con (X_fo ?_)
  walk_at "go"
  refine it_rng app_here (by (first | lia | omega)) ?_
  refine for_any 4 (fun i => .riter (0 + (i : Int)) ((4 : Int) - i) 1) (fun i => .int (0 + (i : Int))) (SInv N G ru i d r t ps c hp) ?_ rfl (fun _ _ _ _ => iter_rng _ 0 4) ?_ ?_ ?_ ?_
  · exact .inl (by decide +kernel)
  · rintro j loc' hp' o o' J hj ⟨k, hk⟩
    obtain ⟨q, q1, q2⟩ := J.pg
    exact ⟨J.tl, J.il, J.stays, J.share, ⟨q, set_other q1 hj (by rw [hk]; intro e; rw [e] at q2; cases q2), q2⟩, J.fr.put (by simp)⟩
  · refine ⟨⟨m1, m2, m3, m4, m5, m6, m7, m8, od, m9⟩, hil, hst, hsh, ⟨o, app_left (app_left hpg), ho⟩, Fr.ext ((Ext.app _ _).trans (Ext.app _ _))⟩
  · rintro j hj loc' hp' J hit
    obtain ⟨⟨m1, m2, m3, m4, m5, m6, m7, m8, od', m9⟩, j2, j3, j4, ⟨q, q1, q2⟩, j7⟩ := J
    have j5 := I.fr (j7.mono (Q := Mut N G) fun m e => .inl e)
    try dsimp only
    rw [show (0 : Int) + (j : Int) = (j : Int) by (first | lia | omega)]
    obtain ⟨ts, t', qq, a1, a2, a3, a4, a5⟩ := j5.pile hj
    have pk := j5.plok hj
    walk_at "go"
    refine I_lst a1 rfl (by (first | lia | omega)) a3 (by (first | lia | omega)) ?_
    walk_at "go"
    refine A_tup a4 ?_
    walk_at "go"
    have pos := I.pos
    have hset : ∀ (hp2 : List AO) (v : Nat), Ext hp' hp2 → v = newC c i j → hp2[N + 1]? = some q ∧ (hp2.set (N + 1) (.list ((strAVs (pgs ps (midC c i j))).set j (.str (sp (PL ps j).p.1 (PL ps j).p.2 v)))))[N + 1]? = some (.list (strAVs (pgs ps (midC c i (j + 1))))) ∧ Fr (fun m => m = N + 1) hp (hp2.set (N + 1) (.list ((strAVs (pgs ps (midC c i j))).set j (.str (sp (PL ps j).p.1 (PL ps j).p.2 v))))) ∧ (hp2.set (N + 1) (.list ((strAVs (pgs ps (midC c i j))).set j (.str (sp (PL ps j).p.1 (PL ps j).p.2 v)))))[(hp ++ [AO.range 0 4 1]).length]? = some (.riter (0 + ((j + 1 : Nat) : Int)) ((4 : Int) - ((j + 1 : Nat) : Int)) 1) := by
      intro hp2 v x hv
      have q1' := x.at q1
      refine ⟨q1', ?_, (j7.trans (Fr.ext x)).trans (Fr.set rfl), set_other (x.at hit) q1' (by intro e; rw [← e] at q2; cases q2)⟩
      rw [set_same q1', pgs_set]
      have : (fun x => if x = j then v else midC c i j x) = midC c i (j + 1) := by
        funext x
        unfold midC
        by_cases e : x = j
        · subst e; rw [if_pos rfl, if_pos (by (first | lia | omega)), hv]
        · rw [if_neg e]
          by_cases e2 : x < j
          · rw [if_pos e2, if_pos (by (first | lia | omega))]
          · rw [if_neg e2, if_neg (by (first | lia | omega))]
      rw [this]
    by_cases e : j = i
    · rw [decide_eq_true (show (j : Int) = (i : Int) by (first | lia | omega))]
      try dsimp only
      walk_at "go"
      refine written_spec (i := (PL ps j).i) (p := (PL ps j).p) pk.1 pk.2.1 (k := 0) (t := c i % 4) (by (first | lia | omega)) fun hp2 x2 => ?_
      rw [Nat.zero_add]
      obtain ⟨s1, s2, s3, s4⟩ := hset hp2 (c i % 4) x2 (by unfold newC; rw [if_pos e])
      walk_at "go"
      refine It_set s1 q2 (by show 1 ≤ N + 1; (first | lia | omega)) (by rw [pgs_len]; (first | lia | omega)) (by rw [pgs_len]; decide) ?_
      rw [Int.toNat_natCast]
      generalize hp2.set (N + 1) _ = hp3 at s2 s3 s4
      walk_at "go"
      refine loop_next hj s4 ⟨⟨?_, ?_, ?_, ?_, ?_, ?_, ?_, ?_, od', ?_⟩, ?_, ?_, ?_, ⟨_, s2, rfl⟩, s3⟩
      all_goals walk_at "lk"
    · rw [decide_eq_false (show ¬ (j : Int) = (i : Int) by (first | lia | omega))]
      try dsimp only
      walk_at "go"
      refine I_lst q1 q2 (by (first | lia | omega)) (pgs_at hj) (by rw [pgs_len]; decide) ?_
      have em : midC c i j j = c j := by unfold midC; rw [if_neg (by (first | lia | omega))]
      rw [em]
      walk_at "go"
      have hbj := hb j hj e
      refine written_spec (i := (PL ps j).i) (p := (PL ps j).p) pk.1 pk.2.1 (k := c j) (t := c i / 4) hbj fun hp2 x2 => ?_
      obtain ⟨s1, s2, s3, s4⟩ := hset hp2 (c j + c i / 4) x2 (by unfold newC; rw [if_neg e])
      walk_at "go"
      refine It_set s1 q2 (by show 1 ≤ N + 1; (first | lia | omega)) (by rw [pgs_len]; (first | lia | omega)) (by rw [pgs_len]; decide) ?_
      rw [Int.toNat_natCast]
      generalize hp2.set (N + 1) _ = hp3 at s2 s3 s4
      walk_at "go"
      refine loop_next hj s4 ⟨⟨?_, ?_, ?_, ?_, ?_, ?_, ?_, ?_, od', ?_⟩, ?_, ?_, ?_, ⟨_, s2, rfl⟩, s3⟩
      all_goals walk_at "lk"
  · rintro loc' hp' ⟨⟨m1, m2, m3, m4, m5, m6, m7, m8, od', m9⟩, j2, j3, j4, ⟨q, q1, q2⟩, j7⟩
    have j5 := I.fr (j7.mono (Q := Mut N G) fun m e => .inl e)
    have hlt := I.lt
    have hg' := j7.at (by (first | lia | omega)) hg
    have pos := I.pos
    walk_at "go"
    refine I_lst hg' hog (by (first | lia | omega)) (gvs_at hi) (by rw [gvs_len]; decide) ?_
    walk_at "go"
    refine It_set hg' hog (by show 1 ≤ G; (first | lia | omega)) (by rw [gvs_len]; (first | lia | omega)) (by rw [gvs_len]; decide) ?_
    rw [Int.toNat_natCast, show (g i : Int) + ((c i / 4 : Nat) : Int) = ((g i + c i / 4 : Nat) : Int) by (first | lia | omega), gvs_set]
    walk_at "go"
    have f1 : Fr (Mut N G) hp (hp'.set G (.list (intAVs (gvs fun x => if x = i then g i + c i / 4 else g x)))) := (j7.mono (Q := Mut N G) fun m e => .inl e).trans (Fr.set (.inr rfl))
    have f3 : pgs ps (midC c i 4) = pgs ps (newC c i) := by
      unfold pgs
      refine List.map_congr_left fun x hx => ?_
      rw [List.mem_range] at hx
      unfold midC
      rw [if_pos hx]
    rw [f3] at q2
    refine h _ _ q _ ⟨m1, m2, m3, m4, m5, m6, m7, m8, od', m9⟩ (I.fr f1) (set_ne (by (first | lia | omega)) q1) q2 (set_same hg') rfl f1
end
section
/-! the table of the 625 beginnings -/
noncomputable def lastV (kl : List Int) (k : Int) : Int := 3 - (2 - k - freeV kl) % 5
noncomputable def lastL (kl : List Int) : List Int := kl.map (lastV kl)
noncomputable def lostV (kl : List Int) : Int := kl.sum - (lastL kl).sum
noncomputable def fV (kl : List Int) (j : Nat) : Int := (kl.getD j 0 - (lastL kl).getD j 0 + lostV kl) / 5
noncomputable def perms : List (Nat × Nat × Nat × Nat) := (List.range 4).flatMap fun a => (List.range 4).flatMap fun b => (List.range 4).flatMap fun c => (List.range 4).filterMap fun e => if a ≠ b ∧ a ≠ c ∧ a ≠ e ∧ b ≠ c ∧ b ≠ e ∧ c ≠ e then some (a, b, c, e) else none
noncomputable def sandOk (kl : List Int) : Bool :=
  let fr := freeV kl
  let la := kl.map fun k => 3 - (2 - k - fr) % 5
  let lo := kl.sum - la.sum
  let f := fun j => (kl.getD j 0 - la.getD j 0 + lo) / 5
  freeOk kl && ((List.range 4).all fun j => decide (0 ≤ la.getD j 0) && decide (la.getD j 0 ≤ 3) && decide (5 * f j = kl.getD j 0 - la.getD j 0 + lo) && decide (0 ≤ f j) && decide (f j ≤ 8))
    && decide (lo = f 0 + f 1 + f 2 + f 3) && decide (lo < 30) && decide (0 ≤ lo)
    && perms.any fun p => decide (3 ≤ la.getD p.1 0) && decide (2 ≤ la.getD p.2.1 0) && decide (1 ≤ la.getD p.2.2.1 0)
noncomputable def wsK (ks : List Int) (m : Int) : Cnt := wsOf (leadT ks ++ rep [32] m)
noncomputable def leadsOk (kl : List Int) : Bool :=
  let fr := freeV kl
  let e := kl.map fun k => 3 - (2 - k - fr) % 5
  let lo := kl.sum - e.sum
  let E := wsK e 0
  let M := wsK e lo
  let B := wsK e 1
  let Nr := wsK (e ++ [0]) 0
  let P := wsK [0] 0
  let D := wsK [kl.getD 0 0] 0
  eqOk E (wsK e.reverse 0) && eqV E (wsK e.reverse 0)
    && eqOk E M && (eqV E M == decide (lo = 0))
    && eqOk (wsK kl 0) M && (eqV (wsK kl 0) M == decide (lo = 0))
    && lessV (wsK [0, 1, 2, 3] 0) B && lessV E Nr && !lessV B Nr && !lessV P D
    && eqOk P D && !eqV P D && !lessV (wsK (e ++ [2]) 0) (wsK (e ++ [1]) 2)
    && decide (E.b ≤ 1000) && decide (B.b ≤ 1000) && decide (Nr.b ≤ 1000) && decide (P.b ≤ 1000) && decide (D.b ≤ 1000) && decide ((wsK [0, 1, 2, 3] 0).b ≤ 1000) && decide ((wsK (e ++ [2]) 0).b ≤ 1000) && decide ((wsK (e ++ [1]) 2).b ≤ 1000)
noncomputable def five : List Int := [3, 4, 5, 6, 7]
theorem sand3 : ∀ b ∈ five, ∀ c ∈ five, ∀ e ∈ five, sandOk [3, b, c, e] = true := by decide +kernel
theorem leads3 : ∀ b ∈ five, ∀ c ∈ five, ∀ e ∈ five, leadsOk [3, b, c, e] = true := by decide +kernel
theorem sand4 : ∀ b ∈ five, ∀ c ∈ five, ∀ e ∈ five, sandOk [4, b, c, e] = true := by decide +kernel
theorem leads4 : ∀ b ∈ five, ∀ c ∈ five, ∀ e ∈ five, leadsOk [4, b, c, e] = true := by decide +kernel
theorem sand5 : ∀ b ∈ five, ∀ c ∈ five, ∀ e ∈ five, sandOk [5, b, c, e] = true := by decide +kernel
theorem leads5 : ∀ b ∈ five, ∀ c ∈ five, ∀ e ∈ five, leadsOk [5, b, c, e] = true := by decide +kernel
theorem sand6 : ∀ b ∈ five, ∀ c ∈ five, ∀ e ∈ five, sandOk [6, b, c, e] = true := by decide +kernel
theorem leads6 : ∀ b ∈ five, ∀ c ∈ five, ∀ e ∈ five, leadsOk [6, b, c, e] = true := by decide +kernel
theorem sand7 : ∀ b ∈ five, ∀ c ∈ five, ∀ e ∈ five, sandOk [7, b, c, e] = true := by decide +kernel
theorem leads7 : ∀ b ∈ five, ∀ c ∈ five, ∀ e ∈ five, leadsOk [7, b, c, e] = true := by decide +kernel
theorem five_all : ∀ k : Nat, k < 8 → 3 ≤ k → (k : Int) ∈ five := by decide +kernel
theorem five_of {k : Nat} (h : 3 ≤ k ∧ k ≤ 7) : (k : Int) ∈ five := five_all k (Nat.lt_succ_of_le h.2) h.1
theorem five_sp {P : Int → Prop} (h3 : P 3) (h4 : P 4) (h5 : P 5) (h6 : P 6) (h7 : P 7) : ∀ a ∈ five, P a :=
  List.forall_mem_cons.mpr ⟨h3, List.forall_mem_cons.mpr ⟨h4, List.forall_mem_cons.mpr ⟨h5, List.forall_mem_cons.mpr ⟨h6, List.forall_mem_cons.mpr ⟨h7, fun _ h => nomatch h⟩⟩⟩⟩⟩
theorem tab_sand {a b c e : Nat} (ha : 3 ≤ a ∧ a ≤ 7) (hb : 3 ≤ b ∧ b ≤ 7) (hc : 3 ≤ c ∧ c ≤ 7) (he : 3 ≤ e ∧ e ≤ 7) : sandOk [(a : Int), (b : Int), (c : Int), (e : Int)] = true :=
  five_sp (P := fun a => ∀ b ∈ five, ∀ c ∈ five, ∀ e ∈ five, sandOk [a, b, c, e] = true) sand3 sand4 sand5 sand6 sand7 _ (five_of ha) _ (five_of hb) _ (five_of hc) _ (five_of he)
theorem tab_leads {a b c e : Nat} (ha : 3 ≤ a ∧ a ≤ 7) (hb : 3 ≤ b ∧ b ≤ 7) (hc : 3 ≤ c ∧ c ≤ 7) (he : 3 ≤ e ∧ e ≤ 7) : leadsOk [(a : Int), (b : Int), (c : Int), (e : Int)] = true :=
  five_sp (P := fun a => ∀ b ∈ five, ∀ c ∈ five, ∀ e ∈ five, leadsOk [a, b, c, e] = true) leads3 leads4 leads5 leads6 leads7 _ (five_of ha) _ (five_of hb) _ (five_of hc) _ (five_of he)
end
section
/-! the plain law of the piles -/
structure Tb (k l f : Nat → Int) (lo : Int) : Prop where
  last : ∀ j, j < 4 → 0 ≤ l j ∧ l j ≤ 3
  five : ∀ j, j < 4 → 5 * f j = k j - l j + lo
  fb : ∀ j, j < 4 → 0 ≤ f j ∧ f j ≤ 8
  sum : lo = f 0 + f 1 + f 2 + f 3
  lt : lo < 30
  nn : 0 ≤ lo
  perm : ∃ a b c e : Nat, (a < 4 ∧ b < 4 ∧ c < 4 ∧ e < 4) ∧ (∀ h : Nat → Int, h a + h b + h c + h e = h 0 + h 1 + h 2 + h 3) ∧ 3 ≤ l a ∧ 2 ≤ l b ∧ 1 ≤ l c
theorem perm_sum (h : Nat → Int) {l m : List Nat} (p : l.Perm m) : (l.map h).sum = (m.map h).sum := by
  induction p with
  | nil => rfl
  | cons x _ ih => rw [List.map_cons, List.map_cons, List.sum_cons, List.sum_cons, ih]
  | swap x y l => rw [List.map_cons, List.map_cons, List.map_cons, List.map_cons, List.sum_cons, List.sum_cons, List.sum_cons, List.sum_cons, Int.add_left_comm]
  | trans _ _ a b => exact a.trans b
theorem perms_ok : ∀ p ∈ perms, (p.1 < 4 ∧ p.2.1 < 4 ∧ p.2.2.1 < 4 ∧ p.2.2.2 < 4) ∧ [p.1, p.2.1, p.2.2.1, p.2.2.2].isPerm [0, 1, 2, 3] = true := by decide +kernel
theorem sum4 (h : Nat → Int) (a b c e : Nat) : ([a, b, c, e].map h).sum = h a + h b + h c + h e := by
  simp only [List.map_cons, List.map_nil, List.sum_cons, List.sum_nil, Int.add_zero, Int.add_assoc]
theorem perms_are (p : Nat × Nat × Nat × Nat) (hp : p ∈ perms) : (p.1 < 4 ∧ p.2.1 < 4 ∧ p.2.2.1 < 4 ∧ p.2.2.2 < 4) ∧ ∀ h : Nat → Int, h p.1 + h p.2.1 + h p.2.2.1 + h p.2.2.2 = h 0 + h 1 + h 2 + h 3 := by
  obtain ⟨h1, h2⟩ := perms_ok p hp
  refine ⟨h1, fun h => ?_⟩
  rw [← sum4, ← sum4]
  exact perm_sum h (List.isPerm_iff.mp h2)
theorem tb_of {kl : List Int} (h : sandOk kl = true) : freeOk kl = true ∧ Tb (fun j => kl.getD j 0) (fun j => (lastL kl).getD j 0) (fV kl) (lostV kl) := by
  have h' : ((((freeOk kl && ((List.range 4).all fun j => decide (0 ≤ (lastL kl).getD j 0) && decide ((lastL kl).getD j 0 ≤ 3) && decide (5 * fV kl j = kl.getD j 0 - (lastL kl).getD j 0 + lostV kl) && decide (0 ≤ fV kl j) && decide (fV kl j ≤ 8)))
    && decide (lostV kl = fV kl 0 + fV kl 1 + fV kl 2 + fV kl 3)) && decide (lostV kl < 30)) && decide (0 ≤ lostV kl)
    && perms.any fun p => decide (3 ≤ (lastL kl).getD p.1 0) && decide (2 ≤ (lastL kl).getD p.2.1 0) && decide (1 ≤ (lastL kl).getD p.2.2.1 0)) = true := h
  simp only [Bool.and_eq_true, decide_eq_true_eq, List.all_eq_true, List.any_eq_true, List.mem_range] at h'
  obtain ⟨⟨⟨⟨⟨h1, h2⟩, h3⟩, h4⟩, h5⟩, p, h6, h7⟩ := h'
  obtain ⟨q1, q2⟩ := perms_are p h6
  exact ⟨h1, fun j hj => ⟨(h2 j hj).1.1.1.1, (h2 j hj).1.1.1.2⟩, fun j hj => (h2 j hj).1.1.2, fun j hj => ⟨(h2 j hj).1.2, (h2 j hj).2⟩, h3, h4, h5, ⟨_, _, _, _, q1, q2, h7.1.1, h7.1.2, h7.2⟩⟩
structure Sd (k f : Nat → Int) (c g : Nat → Nat) : Prop where
  cons : ∀ j, j < 4 → (c j : Int) = k j - 5 * (g j : Int) + ((g 0 : Int) + g 1 + g 2 + g 3)
  le : ∀ j, j < 4 → (g j : Int) ≤ f j
theorem le4 {x : Nat → Int} (h : ∀ j, j < 4 → 0 ≤ x j) : ∀ {i : Nat}, i < 4 → x i ≤ x 0 + x 1 + x 2 + x 3
  | 0, _ => by have a := h 1 (by decide); have b := h 2 (by decide); have c := h 3 (by decide); clear h; (first | lia | omega)
  | 1, _ => by have a := h 0 (by decide); have b := h 2 (by decide); have c := h 3 (by decide); clear h; (first | lia | omega)
  | 2, _ => by have a := h 0 (by decide); have b := h 1 (by decide); have c := h 3 (by decide); clear h; (first | lia | omega)
  | 3, _ => by have a := h 0 (by decide); have b := h 1 (by decide); have c := h 2 (by decide); clear h; (first | lia | omega)
theorem fg4 (f : Nat → Int) (g : Nat → Nat) : f 0 - (g 0 : Int) + (f 1 - (g 1 : Int)) + (f 2 - (g 2 : Int)) + (f 3 - (g 3 : Int)) = f 0 + f 1 + f 2 + f 3 - ((g 0 : Int) + g 1 + g 2 + g 3) := by (first | lia | omega)
theorem bd1 {c k f g G lo l x : Int} (b : c = k - 5 * g + G) (d : 5 * f = k - l + lo) (e : l ≤ 3) (q : f - g ≤ x) (s : x = lo - G) : c ≤ 3 + 4 * (f - g) := by (first | lia | omega)
theorem sd_left {k l f : Nat → Int} {lo : Int} {c g : Nat → Nat} (T : Tb k l f lo) (S : Sd k f c g) {i : Nat} (hi : i < 4) : f i - (g i : Int) ≤ lo - ((g 0 : Int) + g 1 + g 2 + g 3) := by
  have := le4 (x := fun j => f j - (g j : Int)) (fun j hj => Int.sub_nonneg_of_le (S.le j hj)) hi
  try dsimp only at this
  rw [fg4, ← T.sum] at this
  exact this
theorem sd_bound {k l f : Nat → Int} {lo : Int} {c g : Nat → Nat} (T : Tb k l f lo) (S : Sd k f c g) {i : Nat} (hi : i < 4) : (c i : Int) ≤ 3 + 4 * (f i - (g i : Int)) :=
  bd1 (S.cons i hi) (T.five i hi) (T.last i hi).2 (sd_left T S hi) rfl
/-- one of four grows -/
theorem up4 (g : Nat → Nat) (v : Nat) : ∀ {i : Nat}, i < 4 → (if 0 = i then g i + v else g 0) + (if 1 = i then g i + v else g 1) + (if 2 = i then g i + v else g 2) + (if 3 = i then g i + v else g 3) = g 0 + g 1 + g 2 + g 3 + v
  | 0, _ => by rw [if_pos rfl, if_neg (by decide), if_neg (by decide), if_neg (by decide)]; (first | lia | omega)
  | 1, _ => by rw [if_neg (by decide), if_pos rfl, if_neg (by decide), if_neg (by decide)]; (first | lia | omega)
  | 2, _ => by rw [if_neg (by decide), if_neg (by decide), if_pos rfl, if_neg (by decide)]; (first | lia | omega)
  | 3, _ => by rw [if_neg (by decide), if_neg (by decide), if_neg (by decide), if_pos rfl]; (first | lia | omega)
theorem up4i (g : Nat → Nat) (v : Nat) {i : Nat} (hi : i < 4) : ((if 0 = i then g i + v else g 0 : Nat) : Int) + (if 1 = i then g i + v else g 1 : Nat) + (if 2 = i then g i + v else g 2 : Nat) + (if 3 = i then g i + v else g 3 : Nat) = (g 0 : Int) + g 1 + g 2 + g 3 + v := by
  have := up4 g v hi
  exact_mod_cast this
theorem st1 {c v g : Nat} {k G : Int} (b : (c : Int) = k - 5 * g + G) (hv : v = c / 4) : ((c % 4 : Nat) : Int) = k - 5 * ((g + v : Nat) : Int) + (G + v) := by (first | lia | omega)
theorem st2 {c v g : Nat} {k G : Int} (b : (c : Int) = k - 5 * g + G) : ((c + v : Nat) : Int) = k - 5 * (g : Int) + (G + v) := by (first | lia | omega)
theorem st3 {c g : Nat} {f : Int} (hb : (c : Int) ≤ 3 + 4 * (f - g)) : ((g + c / 4 : Nat) : Int) ≤ f := by (first | lia | omega)
theorem sd_step {k l f : Nat → Int} {lo : Int} {c g : Nat → Nat} (T : Tb k l f lo) (S : Sd k f c g) {i : Nat} (hi : i < 4) : Sd k f (newC c i) (fun x => if x = i then g i + c i / 4 else g x) := by
  constructor
  · intro j hj
    have b := S.cons j hj
    try dsimp only
    rw [up4i g (c i / 4) hi]
    unfold newC
    by_cases h : j = i
    · subst h
      rw [if_pos rfl, if_pos rfl]
      exact st1 b rfl
    · rw [if_neg h, if_neg h]
      exact st2 b
  · intro j hj
    try dsimp only
    by_cases h : j = i
    · subst h
      rw [if_pos rfl]
      exact st3 (sd_bound T S hj)
    · rw [if_neg h]; exact S.le j hj
theorem sd_sum {c g : Nat → Nat} {i : Nat} (hi : i < 4) (h : 3 < c i) : g 0 + g 1 + g 2 + g 3 + 1 ≤ (if 0 = i then g i + c i / 4 else g 0) + (if 1 = i then g i + c i / 4 else g 1) + (if 2 = i then g i + c i / 4 else g 2) + (if 3 = i then g i + c i / 4 else g 3) := by
  rw [up4 g (c i / 4) hi]
  exact Nat.add_le_add_left (Nat.div_pos h (by decide)) _
theorem en1 {c g : Nat} {k l f lo G x : Int} (b : (c : Int) = k - 5 * g + G) (d : 5 * f = k - l + lo) (z : c ≤ 3) (hx : x = lo - G) : 5 * (f - g) ≤ x + 3 - l := by (first | lia | omega)
theorem en2 {a b e z x : Int} (h : a + b + e + z = x) (ha : 5 * a ≤ x) (hb : 5 * b ≤ x + 1) (he : 5 * e ≤ x + 2) (hz : 5 * z ≤ x + 3) : x ≤ 0 := by (first | lia | omega)
theorem en3 {c g : Nat} {k l f lo G x : Int} (b : (c : Int) = k - 5 * g + G) (d : 5 * f = k - l + lo) (x0 : x ≤ 0) (hx : x = lo - G) (q : f - g ≤ x) (p : (g : Int) ≤ f) : (g : Int) = f ∧ (c : Int) = l := by (first | lia | omega)
theorem en4 {y x l n : Int} (h : y ≤ x + 3 - l) (m : 3 - n ≤ l) : y ≤ x + n := by (first | lia | omega)
theorem sd_end {k l f : Nat → Int} {lo : Int} {c g : Nat → Nat} (T : Tb k l f lo) (S : Sd k f c g) (h : ∀ j, j < 4 → c j ≤ 3) : ∀ j, j < 4 → (g j : Int) = f j ∧ (c j : Int) = l j := by
  obtain ⟨a, b, e, z, ⟨ha, hb, he, hz⟩, hs, p1, p2, p3⟩ := T.perm
  have q := hs fun j => f j - (g j : Int)
  try dsimp only at q
  rw [fg4, ← T.sum] at q
  have w := fun j (hj : j < 4) => en1 (S.cons j hj) (T.five j hj) (h j hj) rfl
  have x0 := en2 q (by have := en4 (n := 0) (w a ha) p1; rw [Int.add_zero] at this; exact this) (en4 (w b hb) p2) (en4 (w e he) p3) (en4 (w z hz) (T.last z hz).1)
  exact fun j hj => en3 (S.cons j hj) (T.five j hj) x0 rfl (sd_left T S hj) (S.le j hj)
end
section
/-! the thirty turns -/
noncomputable def kL (ps : List Pile) : List Int := [((PL ps 0).k : Int), ((PL ps 1).k : Int), ((PL ps 2).k : Int), ((PL ps 3).k : Int)]
theorem kL_is {ps : List Pile} (hl : ps.length = 4) : (ps.map fun P => (P.k : Int)) = kL ps := by rw [map_pl hl]; rfl
theorem kL_at {ps : List Pile} {j : Nat} (hj : j < 4) : (kL ps).getD j 0 = ((PL ps j).k : Int) := by
  match j, hj with
  | 0, _ => rfl
  | 1, _ => rfl
  | 2, _ => rfl
  | 3, _ => rfl
structure VL (loc : List (Str × AV)) (N G : Nat) (r : Int) : Prop where
  rest : loc.lookup (Str.ofString "rest") = some (.str [r.toNat])
  piles : loc.lookup (Str.ofString "piles") = some (.ref N)
  pages : loc.lookup (Str.ofString "pages") = some (.ref (N + 1))
  counts : loc.lookup (Str.ofString "counts") = some (.ref (N + 2))
  given : loc.lookup (Str.ofString "given") = some (.ref G)
structure DInv (N G ru : Nat) (d r : Int) (ps : List Pile) (hp₀ : List AO) (t : Nat) (c g : Nat → Nat) (o og : AO) (loc : List (Str × AV)) (hp : List AO) : Prop where
  lk : Lk loc N ru d r
  given : loc.lookup (Str.ofString "given") = some (.ref G)
  pg : hp[N + 1]? = some o
  po : o.lst? = some (strAVs (pgs ps c))
  gg : hp[G]? = some og
  go : og.lst? = some (intAVs (gvs g))
  sd : Sd (fun j => (kL ps).getD j 0) (fV (kL ps)) c g
  tt : t ≤ g 0 + g 1 + g 2 + g 3
  fr : Fr (Mut N G) hp₀ hp
theorem pgs_congr {ps : List Pile} {c e : Nat → Nat} (h : ∀ j, j < 4 → c j = e j) : pgs ps c = pgs ps e := by
  unfold pgs
  refine List.map_congr_left fun j hj => ?_
  rw [h j (List.mem_range.mp hj)]
theorem post_d {n : Nat} {loc : List (Str × AV)} {hp : List AO} {N G ru : Nat} {d r : Int} {ps : List Pile} (hr : r ∈ besideL) (L : Lk loc N ru d r) (hgl : loc.lookup (Str.ofString "given") = some (.ref G)) (I : Imm N G ru ps hp) (hpg : hp[N + 1]? = some (.plist (strAVs (pgs ps fun j => (PL ps j).k)))) (hg : hp[G]? = some (.plist (intAVs [0, 0, 0, 0])))
    (T : Tb (fun j => (kL ps).getD j 0) (fun j => (lastL (kL ps)).getD j 0) (fV (kL ps)) (lostV (kL ps)))
    (h : ∀ loc' hp' o og, VL loc' N G r → Imm N G ru ps hp' → hp'[N + 1]? = some o → o.lst? = some (strAVs (pgs ps fun j => ((lastL (kL ps)).getD j 0).toNat)) → hp'[G]? = some og → og.lst? = some (intAVs ((List.range 4).map fun j => fV (kL ps) j)) → XS (n + 209) ⟨fScope (cell 25), true, 1⟩ (lawPost.drop 6) ⟨loc', hp'⟩ RTrue) :
    XS (n + 210) ⟨fScope (cell 25), true, 1⟩ (lawPost.drop 5) ⟨loc, hp⟩ RTrue := by
  conv => arg 3; whnf
  refine XS_con (X_fo ?_)
  walk_at "go"
  refine it_rng app_here (by (first | lia | omega)) ?_
  refine for_any 30 (fun i => .riter (0 + (i : Int)) ((30 : Int) - i) 1) (fun i => .int (0 + (i : Int))) (fun t loc' hp' => ∃ c g o og, DInv N G ru d r ps hp t c g o og loc' hp') ?_ rfl (fun _ _ _ _ => iter_rng _ 0 30) ?_ ?_ ?_ ?_
  · exact .inl (by decide +kernel)
  · rintro t loc' hp' o o' ⟨c, g, q, qg, J⟩ hj ⟨k, hk⟩
    refine ⟨c, g, q, qg, J.lk, J.given, set_other J.pg hj ?_, J.po, set_other J.gg hj ?_, J.go, J.sd, J.tt, J.fr.put (by simp)⟩
    · rw [hk]; intro e; have := J.po; rw [e] at this; cases this
    · rw [hk]; intro e; have := J.go; rw [e] at this; cases this
  · refine ⟨fun j => (PL ps j).k, fun _ => 0, _, _, L, hgl, app_left (app_left hpg), rfl, app_left (app_left hg), rfl, ⟨fun j hj => ?_, fun j hj => (T.fb j hj).1⟩, Nat.zero_le _, Fr.ext ((Ext.app _ _).trans (Ext.app _ _))⟩
    rw [kL_at hj]
    (first | lia | omega)
  · rintro t ht loc' hp' ⟨c, g, q, qg, J⟩ hit
    have I' := I.fr J.fr
    have hcb : ∀ j, j < 4 → c j ≤ 35 := fun j hj => by
      have a := sd_bound T J.sd hj
      have b := (T.fb j hj).2
      (first | lia | omega)
    have TL0 : TL (upd (Str.ofString "turn") (.int (0 + (t : Int))) loc') N G ru d r (0 + (t : Int)) := by
      obtain ⟨y1, y2, y3, y4, y5, y6, od, y7⟩ := J.lk
      have y8 := J.given
      refine ⟨?_, ?_, ?_, ?_, ?_, ?_, ?_, ?_, od, ?_⟩
      all_goals walk_at "lk"
    refine turn_1 (n := n + 8) (c := c) TL0 I' J.pg J.po (fun loc2 hp2 hsm L2 x2 => ?_) fun loc2 hp2 i hi hci L2 hil x2 => ?_
    · obtain ⟨y1, y2, y3, y4, y5, y6, y7, y8, od, y9⟩ := L2
      have E := sd_end T J.sd hsm
      refine h _ _ q qg ⟨y3, y4, y5, y6, y7⟩ (I'.ext x2) (x2.at J.pg) ?_ (x2.at J.gg) ?_
      · rw [J.po, pgs_congr fun j hj => ?_]
        have := (E j hj).2
        (first | lia | omega)
      · rw [J.go]
        congr 2
        unfold gvs
        exact List.map_congr_left fun j hj => (E j (List.mem_range.mp hj)).1
    · refine turn_2 (n := n + 8) (c := c) L2 hi hil (I'.ext x2) (x2.at J.pg) J.po (by have := hcb i hi; (first | lia | omega)) fun loc3 hp3 L3 hil3 hcl htl x3 => ?_
      refine turn_3 (n := n + 8) L3 hr hil3 hcl (by (first | lia | omega)) (by have := hcb i hi; (first | lia | omega)) htl fun loc4 hp4 L4 hil4 hcl4 hsl x4 => ?_
      refine turn_4 (n := n + 8) L4 hr hil4 (by (first | lia | omega)) (by have := hcb i hi; (first | lia | omega)) hsl fun loc5 hp5 L5 hil5 hst hsh x5 => ?_
      have X := ((x2.trans x3).trans x4).trans x5
      have S' := sd_step T J.sd hi
      have hb' : ∀ j, j < 4 → j ≠ i → c j + c i / 4 ≤ 40 := fun j hj hne => by
        have a := sd_bound T S' hj
        have b := (T.fb j hj).2
        have e : newC c i j = c j + c i / 4 := by unfold newC; rw [if_neg hne]
        rw [e] at a
        (first | lia | omega)
      refine turn_5 (n := n + 8) (c := c) (g := g) L5 hi hil5 hst hsh (I'.ext X) (X.at J.pg) J.po (X.at J.gg) J.go hb' fun loc6 hp6 o6 og6 L6 I6 p6 q6 g6 z6 f6 => ?_
      obtain ⟨y1, y2, y3, y4, y5, y6, y7, y8, od, y9⟩ := L6
      refine loop_next ht (f6.at ?_ (X.at hit)) ⟨newC c i, _, o6, og6, ⟨y1, y2, y3, y4, y5, y6, od, y9⟩, y7, p6, q6, g6, z6, S', ?_, (J.fr.trans (Fr.ext X)).trans f6⟩
      · have a1 := at_lt hg
        have a2 := at_lt hpg
        unfold Mut
        simp only [List.length_append]
        (first | lia | omega)
      · have a1 := sd_sum (c := c) (g := g) hi hci
        have a2 := J.tt
        (first | lia | omega)
  · rintro loc' hp' ⟨c, g, q, qg, J⟩
    exfalso
    have a := J.tt
    have l0 := J.sd.le 0 (by decide)
    have l1 := J.sd.le 1 (by decide)
    have l2 := J.sd.le 2 (by decide)
    have l3 := J.sd.le 3 (by decide)
    have s := T.sum
    have lt := T.lt
    (first | lia | omega)
end
section
/-! what the ring tells -/
theorem lastL_len (ps : List Pile) : (lastL (kL ps)).length = 4 := rfl
theorem lastL_at {ps : List Pile} {j : Nat} (hj : j < 4) : (lastL (kL ps)).getD j 0 = lastV (kL ps) ((kL ps).getD j 0) := by
  match j, hj with
  | 0, _ => rfl
  | 1, _ => rfl
  | 2, _ => rfl
  | 3, _ => rfl
theorem range4 {α : Type} (l : List α) (d : α) (h : l.length = 4) : (List.range 4).map (fun j => l.getD j d) = l := by
  rw [← h]; exact range_getD l d
theorem post_e {n : Nat} {loc : List (Str × AV)} {hp : List AO} {N G ru : Nat} {r : Int} {ps : List Pile} {o og : AO} (V : VL loc N G r) (I : Imm N G ru ps hp) (hpg : hp[N + 1]? = some o) (ho : o.lst? = some (strAVs (pgs ps fun j => ((lastL (kL ps)).getD j 0).toNat))) (hg : hp[G]? = some og) (hog : og.lst? = some (intAVs ((List.range 4).map fun j => fV (kL ps) j)))
    (T : Tb (fun j => (kL ps).getD j 0) (fun j => (lastL (kL ps)).getD j 0) (fV (kL ps)) (lostV (kL ps))) (hfree : freeOk (kL ps) = true)
    (h : ∀ loc' hp' lr, VL loc' N G r → Ext hp hp' → loc'.lookup (Str.ofString "last") = some (.ref lr) → hp'[lr]? = some (.plist (intAVs (lastL (kL ps)))) → loc'.lookup (Str.ofString "lost") = some (.int (lostV (kL ps))) → XS (n + 195) ⟨fScope (cell 25), true, 1⟩ (lawPost.drop 11) ⟨loc', hp'⟩ RTrue) :
    XS (n + 200) ⟨fScope (cell 25), true, 1⟩ (lawPost.drop 6) ⟨loc, hp⟩ RTrue := by
  obtain ⟨m1, m2, m3, m4, m5⟩ := V
  have hct := I.counts
  rw [kL_is I.len] at hct
  conv => arg 3; whnf
  walk_at "go"
  refine free_spec hct rfl (by show 4 ≤ 6; decide) hfree fun hp1 x1 => ?_
  walk_at "go"
  have hct1 := x1.at hct
  refine E_com (by kernel_rfl) ?_
  walk_at "go"
  refine it_lst hct1 rfl ?_
  refine comp_no 4 (fun i => .liter (N + 2) i) (fun i => (intAVs (kL ps)).getD i .none) (fun i => .int (lastV (kL ps) ((kL ps).getD i 0))) ?_ rfl (by (first | lia | omega)) ?_ ?_
  · have z := iter_lst hct1 (xs := intAVs (kL ps)) rfl
    rw [intAVs_len] at z
    exact z
  · intro i hi hp' x _ K hK
    try dsimp only
    rw [getD_ints (show i < (kL ps).length from hi)]
    unfold lastV at hK
    generalize (kL ps).getD i 0 = k at hK
    walk_at "go"
    have := hK []
    rw [List.append_nil] at this
    exact this _
  intro hp2 lr x2 hlr _
  have hlr' : hp2[lr]? = some (.plist (intAVs (lastL (kL ps)))) := hlr
  clear hlr
  have hct2 := x2.at hct1
  walk_at "go"
  refine F_sum hct2 rfl (toInts_ints _) ?_
  walk_at "go"
  refine F_sum hlr' rfl (toInts_ints _) ?_
  rw [show (kL ps).sum = (kL ps).sum from rfl]
  refine B_sub ?_
  rw [show (kL ps).sum - (lastL (kL ps)).sum = lostV (kL ps) from rfl]
  walk_at "go"
  refine E_com (by kernel_rfl) ?_
  walk_at "go"
  refine it_rng app_here (by (first | lia | omega)) ?_
  have hok := I.ok
  have hl4 := I.len
  have I2 := (I.ext x1).ext x2
  refine comp_no 4 (fun i => .riter (0 + (i : Int)) ((4 : Int) - i) 1) (fun i => .int (0 + (i : Int))) (fun j => .str (sp (PL ps j).p.1 (PL ps j).p.2 ((lastL (kL ps)).getD j 0).toNat)) (iter_rng _ 0 4) rfl (by (first | lia | omega)) ?_ ?_
  · intro j hj hp' x _ K hK
    try dsimp only
    rw [show (0 : Int) + (j : Int) = (j : Int) by (first | lia | omega)]
    have I' := (I2.ext (Ext.app _ _)).ext x
    obtain ⟨ts, t, q, a1, a2, a3, a4, a5⟩ := I'.pile hj
    have pk := I'.plok hj
    have hlr2 := x.at (app_left hlr')
    have hlj := T.last j hj
    have hle : (((lastL (kL ps)).getD j 0).toNat : Int) = (lastL (kL ps)).getD j 0 := by have := hlj.1; (first | lia | omega)
    have cit : itemAt (intAVs (lastL (kL ps))) (j : Int) = some (.int ((lastL (kL ps)).getD j 0)) := item_ints hj
    rw [← hle] at cit
    have hlu : ((lastL (kL ps)).getD j 0).toNat ≤ 3 := by have := hlj.2; (first | lia | omega)
    generalize ((lastL (kL ps)).getD j 0).toNat = lj at cit hlu hK
    generalize PL ps j = P at a4 a5 pk hK
    walk_at "go"
    refine I_lst a1 rfl (by (first | lia | omega)) a3 (by (first | lia | omega)) ?_
    walk_at "go"
    refine I_lst a1 rfl (by (first | lia | omega)) a3 (by (first | lia | omega)) ?_
    walk_at "go"
    refine I_lst hlr2 rfl (by (first | lia | omega)) cit (by show 4 < 2 ^ 40; decide) ?_
    walk_at "go"
    refine spelled_spec (by (first | lia | omega)) (hnd_nm pk) ?_
    have := hK []
    rw [List.append_nil] at this
    exact this _
  intro hp3 k3 x3 hk3 _
  have X2 := x1.trans x2
  have X3 : Ext hp2 hp3 := (Ext.app _ _).trans x3
  walk_at "go"
  have hk3' : hp3[k3]? = some (.plist (strAVs (pgs ps fun j => ((lastL (kL ps)).getD j 0).toNat))) := by
    rw [hk3]; unfold strAVs pgs; rw [List.map_map]; rfl
  refine C_nes ((X2.trans X3).at hpg) ho hk3' rfl (pgs_small hl4 hok _) ?_
  try dsimp only
  walk_at "go"
  have hg3 := (X2.trans X3).at hg
  refine E_com (by kernel_rfl) ?_
  walk_at "go"
  refine it_lst hg3 hog ?_
  refine comp_no 4 (fun i => .liter G i) (fun i => (intAVs ((List.range 4).map fun j => fV (kL ps) j)).getD i .none) (fun i => .int (5 * fV (kL ps) i)) (iter_lst hg3 hog) rfl (by (first | lia | omega)) ?_ ?_
  · intro i hi hp' x _ K hK
    try dsimp only
    have e : ((List.range 4).map fun j => fV (kL ps) j).getD i 0 = fV (kL ps) i := by
      rw [List.getD_eq_getElem?_getD, List.getElem?_map, List.getElem?_range hi]; rfl
    rw [getD_ints (show i < ((List.range 4).map fun j => fV (kL ps) j).length from hi), e]
    have hf := T.fb i hi
    generalize fV (kL ps) i = f at hK hf
    walk_at "go"
    have := hK []
    rw [List.append_nil] at this
    exact this _
  intro hp4 k4 x4 hk4 _
  walk_at "go"
  refine E_com (by kernel_rfl) ?_
  walk_at "go"
  refine it_rng app_here (by (first | lia | omega)) ?_
  refine comp_no 4 (fun i => .riter (0 + (i : Int)) ((4 : Int) - i) 1) (fun i => .int (0 + (i : Int))) (fun j => .int ((kL ps).getD j 0 - (lastL (kL ps)).getD j 0 + lostV (kL ps))) (iter_rng _ 0 4) rfl (by (first | lia | omega)) ?_ ?_
  · intro j hj hp' x _ K hK
    try dsimp only
    rw [show (0 : Int) + (j : Int) = (j : Int) by (first | lia | omega)]
    have y1 := x.at (app_left (x4.at (X3.at hct2)))
    have y2 := x.at (app_left (x4.at (X3.at hlr')))
    have c1 : itemAt (intAVs (kL ps)) (j : Int) = some (.int ((kL ps).getD j 0)) := item_ints hj
    have c2 : itemAt (intAVs (lastL (kL ps))) (j : Int) = some (.int ((lastL (kL ps)).getD j 0)) := item_ints hj
    walk_at "go"
    refine I_lst y1 rfl (by (first | lia | omega)) c1 (by show 4 < 2 ^ 40; decide) ?_
    walk_at "go"
    refine I_lst y2 rfl (by (first | lia | omega)) c2 (by show 4 < 2 ^ 40; decide) ?_
    walk_at "go"
    have := hK []
    rw [List.append_nil] at this
    exact this _
  intro hp5 k5 x5 hk5 _
  have X5 : Ext hp4 hp5 := (Ext.app _ _).trans x5
  have z4 : hp5[k4]? = some (.plist (intAVs ((List.range 4).map fun i => 5 * fV (kL ps) i))) := by
    rw [X5.at hk4]; unfold intAVs; rw [List.map_map]; rfl
  have z5 : hp5[k5]? = some (.plist (intAVs ((List.range 4).map fun j => (kL ps).getD j 0 - (lastL (kL ps)).getD j 0 + lostV (kL ps)))) := by
    rw [hk5]; unfold intAVs; rw [List.map_map]; rfl
  have ee : ((List.range 4).map fun i => 5 * fV (kL ps) i) = ((List.range 4).map fun j => (kL ps).getD j 0 - (lastL (kL ps)).getD j 0 + lostV (kL ps)) :=
    List.map_congr_left fun j hj => T.five j (List.mem_range.mp hj)
  walk_at "go"
  refine C_nei z4 rfl z5 rfl ?_
  rw [decide_eq_true ee]
  walk_at "in"
  refine h _ _ lr ⟨?_, ?_, ?_, ?_, ?_⟩ (((X2.trans X3).trans x4).trans X5) ?_ (X5.at (x4.at (X3.at hlr'))) ?_
  all_goals walk_at "lk"
end
section
/-! the leads in the end -/
theorem leadT_mem {ks : List Int} : ∀ a ∈ leadT ks, a = 32 ∨ a = 9 := by
  intro a ha
  unfold leadT at ha
  rw [List.mem_flatten] at ha
  obtain ⟨l, h1, h2⟩ := ha
  rw [List.mem_map] at h1
  obtain ⟨k, _, rfl⟩ := h1
  unfold tabOf at h2
  rcases List.mem_append.mp h2 with q | q
  · left
    unfold rep at q
    rw [List.mem_flatten] at q
    obtain ⟨l, q1, q2⟩ := q
    have := (List.mem_replicate.mp q1).2
    subst this
    simpa using q2
  · right; simpa using q
theorem rep32_mem {m : Int} : ∀ a ∈ rep [32] m, a = 32 := by
  intro a q
  unfold rep at q
  rw [List.mem_flatten] at q
  obtain ⟨l, q1, q2⟩ := q
  have := (List.mem_replicate.mp q1).2
  subst this
  simpa using q2
theorem lead_ws {ks : List Int} {m : Int} {rc : Nat} (h1 : rc ≠ 32) (h2 : rc ≠ 9) : wsOf (leadT ks ++ (rep [32] m ++ [rc]) ++ [9]) = wsK ks m := by
  rw [← List.append_assoc, List.append_assoc (leadT ks ++ rep [32] m)]
  refine wsRun_stop h1 h2 [9] _ _ fun a ha => ?_
  rcases List.mem_append.mp ha with q | q
  · exact leadT_mem a q
  · exact .inl (rep32_mem a q)
theorem lead_k {ks : List Int} {m : Int} {rc : Nat} {b : List Nat} {a : Nat} {o : AO} {loc : List (Str × AV)} {hp : List AO} {n : Nat} {Q : AV → St → Prop} (h1 : rc ≠ 32) (h2 : rc ≠ 9) (hb : b = rep [32] m ++ [rc]) (hm : m ≤ 50) (ha : hp[a]? = some o) (ho : o.lst? = some (intAVs ks)) (hk : ∀ k ∈ ks, -60 ≤ k ∧ k ≤ 60) (hl : ks.length ≤ 6)
    (h : ∀ hp' r, Ext hp hp' → IsWs hp' r (wsK ks m) → Q (.ref r) ⟨loc, hp'⟩) : Ap (n + 100) (.con (.ref 224)) [.ref a, .str b] ⟨loc, hp⟩ Q := by
  subst hb
  refine lead_spec ha ho hk hl ?_ fun hp' r x w => ?_
  · unfold rep; simp; (first | lia | omega)
  · rw [lead_ws h1 h2] at w
    exact h _ _ x w
theorem pick_rev : ∀ l : List Int, l.length = 4 → pickA (intAVs l) none none (some (-1)) = intAVs l.reverse
  | [a, b, c, d], _ => by
    unfold intAVs
    rw [pickA_map]
    unfold pickA
    rw [show [a, b, c, d].length = 4 from rfl, show (sliceRange (sliceBounds none none (some (-1)) 4).1 (sliceBounds none none (some (-1)) 4).2.1 (sliceBounds none none (some (-1)) 4).2.2) = [3, 2, 1, 0] by decide +kernel]
    rfl
theorem and_l {a b : Bool} (h : (a && b) = true) : a = true := (Bool.and_eq_true_iff.mp h).1
theorem and_r {a b : Bool} (h : (a && b) = true) : b = true := (Bool.and_eq_true_iff.mp h).2
theorem not_t {a : Bool} (h : (!a) = true) : a = false := by cases a <;> first | rfl | cases h
theorem bb {a b : Bool} (h : a = b) : (a == b) = true := by subst h; simp
theorem lt_bb : (Str.ofString "  ").cps.toList = [32, 32] := by decide +kernel
local macro_rules | `(tactic| walk_at "lit") => `(tactic| with_reducible first | exact lit_q | exact lit_e | exact lt_semi | exact lt_bl | exact lt_bb)
theorem post_f {n : Nat} {loc : List (Str × AV)} {hp : List AO} {N G ru lr : Nat} {r : Int} {ps : List Pile} {o : AO} (hr : r ∈ besideL) (V : VL loc N G r) (I : Imm N G ru ps hp) (hpg : hp[N + 1]? = some o) (ho : o.lst? = some (strAVs (pgs ps fun j => ((lastL (kL ps)).getD j 0).toNat))) (hll : loc.lookup (Str.ofString "last") = some (.ref lr)) (hla : hp[lr]? = some (.plist (intAVs (lastL (kL ps))))) (hlo : loc.lookup (Str.ofString "lost") = some (.int (lostV (kL ps))))
    (T : Tb (fun j => (kL ps).getD j 0) (fun j => (lastL (kL ps)).getD j 0) (fV (kL ps)) (lostV (kL ps))) (hleads : leadsOk (kL ps) = true) :
    XS (n + 190) ⟨fScope (cell 25), true, 1⟩ (lawPost.drop 11) ⟨loc, hp⟩ RTrue := by
  obtain ⟨m1, m2, m3, m4, m5⟩ := V
  have hne := beside_ne r hr
  obtain ⟨rc, hrc⟩ : ∃ rc, r.toNat = rc := ⟨_, rfl⟩
  rw [hrc] at hne m1
  have hct := I.counts
  rw [kL_is I.len] at hct
  have hkk : ∀ k ∈ kL ps, -60 ≤ k ∧ k ≤ 60 := by
    intro k hk
    rw [← kL_is I.len, List.mem_map] at hk
    obtain ⟨P, h1, rfl⟩ := hk
    have := I.ok P h1
    have h3 := this.2.2.1
    have h4 := this.2.2.2
    (first | lia | omega)
  have hlk : ∀ k ∈ lastL (kL ps), -60 ≤ k ∧ k ≤ 60 := by
    intro k hk
    unfold lastL at hk
    rw [List.mem_map] at hk
    obtain ⟨q, _, rfl⟩ := hk
    unfold lastV
    (first | lia | omega)
  have hlt := T.lt
  have hnn := T.nn
  conv => arg 3; whnf
  walk_at "go"
  refine E_com (by kernel_rfl) ?_
  walk_at "go"
  refine it_lst hpg ho ?_
  refine comp_no 4 (fun i => .liter (N + 1) i) (fun i => (strAVs (pgs ps fun j => ((lastL (kL ps)).getD j 0).toNat)).getD i .none) (fun i => .int ((lastL (kL ps)).getD i 0)) ?_ rfl (by (first | lia | omega)) ?_ ?_
  · have z := iter_lst hpg ho
    rw [pgs_len] at z
    exact z
  · intro i hi hp' x _ K hK
    try dsimp only
    have e : (strAVs (pgs ps fun j => ((lastL (kL ps)).getD j 0).toNat)).getD i .none = .str (sp (PL ps i).p.1 (PL ps i).p.2 ((lastL (kL ps)).getD i 0).toNat) := by
      unfold strAVs pgs
      rw [List.map_map, List.getD_eq_getElem?_getD, List.getElem?_map, List.getElem?_range hi]; rfl
    rw [e]
    have pk := I.plok hi
    have hct := sp_count pk.1 pk.2.1 ((lastL (kL ps)).getD i 0).toNat
    have hlj := (T.last i hi).1
    have hle : (((lastL (kL ps)).getD i 0).toNat : Int) = (lastL (kL ps)).getD i 0 := by (first | lia | omega)
    walk_at "go"
    rw [hct, hle]
    have := hK []
    rw [List.append_nil] at this
    exact this _
  intro hp1 er x1 her _
  have her' : hp1[er]? = some (.plist (intAVs (lastL (kL ps)))) := her
  clear her
  have y1 := x1.at hla
  have y2 := x1.at hct
  have len1 : (lastL (kL ps)).length = 4 := rfl
  have len2 : (kL ps).length = 4 := rfl
  have n32 := hne.2.2.1
  have n9 := hne.2.2.2.1
  generalize hkl : kL ps = kl at *
  walk_at "go"
  refine lead_k (ks := lastL kl) (m := 0) n32 n9 rfl (by (first | lia | omega)) her' rfl hlk (by (first | lia | omega)) fun hp2 wE x2 WE => ?_
  walk_at "go"
  refine B_rep (by simp; (first | lia | omega)) ?_
  have hrl : (rep [32] (lostV kl)).length ≤ 50 := by unfold rep; simp; (first | lia | omega)
  walk_at "go"
  refine lead_k (ks := lastL kl) (m := lostV kl) n32 n9 rfl (by (first | lia | omega)) (x2.at her') rfl hlk (by (first | lia | omega)) fun hp3 wM x3 WM => ?_
  walk_at "go"
  refine A_tup app_here ?_
  walk_at "go"
  have z3 : Ext hp1 (hp3 ++ [AO.tup [.ref wE, .ref wM]]) := (x2.trans x3).trans (Ext.app _ _)
  have WE4 := (WE.ext x3).ext (Ext.app hp3 [AO.tup [.ref wE, .ref wM]])
  have WM4 := WM.ext (Ext.app hp3 [AO.tup [.ref wE, .ref wM]])
  generalize hp3 ++ [AO.tup [.ref wE, .ref wM]] = hp4 at z3 WE4 WM4
  refine lead_k (ks := lastL kl) (m := 1) n32 n9 rfl (by (first | lia | omega)) (z3.at her') rfl hlk (by (first | lia | omega)) fun hp5 wB x5 WB => ?_
  walk_at "go"
  rw [show intAVs (lastL kl) ++ [AV.int 0] = intAVs (lastL kl ++ [0]) by unfold intAVs; rw [List.map_append]; rfl]
  refine lead_k (ks := lastL kl ++ [0]) (m := 0) n32 n9 rfl (by (first | lia | omega)) app_here rfl (fun k hk => by
    rcases List.mem_append.mp hk with q | q
    · exact hlk k q
    · have : k = 0 := by simpa using q
      (first | lia | omega)) (by rw [List.length_append, len1]; decide) fun hp6 wN x6 WN => ?_
  have z6 : Ext hp5 hp6 := ((Ext.app _ _).trans (Ext.app _ _)).trans x6
  walk_at "go"
  refine A_tup app_here ?_
  walk_at "go"
  have z7 : Ext hp5 (hp6 ++ [AO.tup [.ref wB, .ref wN]]) := z6.trans (Ext.app _ _)
  have WE7 := (WE4.ext x5).ext z7
  have WM7 := (WM4.ext x5).ext z7
  have WB7 := WB.ext z7
  have WN7 := WN.ext (Ext.app hp6 [AO.tup [.ref wB, .ref wN]])
  have y7 := (z3.trans (x5.trans z7)).at y1
  have c7 := (z3.trans (x5.trans z7)).at y2
  have e7 := (z3.trans (x5.trans z7)).at her'
  generalize hp6 ++ [AO.tup [.ref wB, .ref wN]] = hp7 at WE7 WM7 WB7 WN7 y7 c7 e7
  refine lead_k (ks := [0]) (m := 0) n32 n9 rfl (by (first | lia | omega)) app_here rfl (by simp) (by simp) fun hp8 wP x8 WP => ?_
  have z8 : Ext hp7 hp8 := (Ext.app _ _).trans x8
  walk_at "go"
  refine I_lst (z8.at c7) rfl (by (first | lia | omega)) (item_ints (b := 0) (by (first | lia | omega))) (by rw [intAVs_len, len2]; decide) ?_
  walk_at "go"
  have hk0 : -60 ≤ kl.getD 0 0 ∧ kl.getD 0 0 ≤ 60 := hkk _ (mem_getD (by (first | lia | omega)))
  refine lead_k (ks := [kl.getD 0 0]) (m := 0) n32 n9 rfl (by (first | lia | omega)) app_here rfl (by simpa using hk0) (by simp) fun hp9 wD x9 WD => ?_
  have z9 : Ext hp8 hp9 := (Ext.app _ _).trans x9
  walk_at "go"
  refine A_tup app_here ?_
  walk_at "go"
  have zA : Ext hp8 (hp9 ++ [AO.tup [.ref wP, .ref wD]]) := z9.trans (Ext.app _ _)
  have WEa := (WE7.ext z8).ext zA
  have WMa := (WM7.ext z8).ext zA
  have WBa := (WB7.ext z8).ext zA
  have WNa := (WN7.ext z8).ext zA
  have WPa := WP.ext zA
  have WDa := WD.ext (Ext.app hp9 [AO.tup [.ref wP, .ref wD]])
  have ya := (z8.trans zA).at y7
  have ca := (z8.trans zA).at c7
  have ea := (z8.trans zA).at e7
  generalize hp9 ++ [AO.tup [.ref wP, .ref wD]] = hpA at WEa WMa WBa WNa WPa WDa ya ca ea
  have hL : (eqOk (wsK (lastL kl) 0) (wsK (lastL kl).reverse 0) && eqV (wsK (lastL kl) 0) (wsK (lastL kl).reverse 0)
    && eqOk (wsK (lastL kl) 0) (wsK (lastL kl) (lostV kl)) && (eqV (wsK (lastL kl) 0) (wsK (lastL kl) (lostV kl)) == decide (lostV kl = 0))
    && eqOk (wsK kl 0) (wsK (lastL kl) (lostV kl)) && (eqV (wsK kl 0) (wsK (lastL kl) (lostV kl)) == decide (lostV kl = 0))
    && lessV (wsK [0, 1, 2, 3] 0) (wsK (lastL kl) 1) && lessV (wsK (lastL kl) 0) (wsK (lastL kl ++ [0]) 0) && !lessV (wsK (lastL kl) 1) (wsK (lastL kl ++ [0]) 0) && !lessV (wsK [0] 0) (wsK [kl.getD 0 0] 0)
    && eqOk (wsK [0] 0) (wsK [kl.getD 0 0] 0) && !eqV (wsK [0] 0) (wsK [kl.getD 0 0] 0) && !lessV (wsK (lastL kl ++ [2]) 0) (wsK (lastL kl ++ [1]) 2)
    && decide ((wsK (lastL kl) 0).b ≤ 1000) && decide ((wsK (lastL kl) 1).b ≤ 1000) && decide ((wsK (lastL kl ++ [0]) 0).b ≤ 1000) && decide ((wsK [0] 0).b ≤ 1000) && decide ((wsK [kl.getD 0 0] 0).b ≤ 1000) && decide ((wsK [0, 1, 2, 3] 0).b ≤ 1000) && decide ((wsK (lastL kl ++ [2]) 0).b ≤ 1000) && decide ((wsK (lastL kl ++ [1]) 2).b ≤ 1000)) = true := hleads
  have b8 := of_decide_eq_true (and_r hL)
  have cb8 := and_l hL
  have b7 := of_decide_eq_true (and_r cb8)
  have cb7 := and_l cb8
  have b6 := of_decide_eq_true (and_r cb7)
  have cb6 := and_l cb7
  have b5 := of_decide_eq_true (and_r cb6)
  have cb5 := and_l cb6
  have b4 := of_decide_eq_true (and_r cb5)
  have cb4 := and_l cb5
  have b3 := of_decide_eq_true (and_r cb4)
  have cb3 := and_l cb4
  have b2 := of_decide_eq_true (and_r cb3)
  have cb2 := and_l cb3
  have b1 := of_decide_eq_true (and_r cb2)
  have cb1 := and_l cb2
  have g13 := not_t (and_r cb1)
  have cg13 := and_l cb1
  have g12 := not_t (and_r cg13)
  have cg12 := and_l cg13
  have g11 := and_r cg12
  have cg11 := and_l cg12
  have g10 := not_t (and_r cg11)
  have cg10 := and_l cg11
  have g9 := not_t (and_r cg10)
  have cg9 := and_l cg10
  have g8 := and_r cg9
  have cg8 := and_l cg9
  have g7 := and_r cg8
  have cg7 := and_l cg8
  have g6 := eq_of_beq (and_r cg7)
  have cg6 := and_l cg7
  have g5 := and_r cg6
  have cg5 := and_l cg6
  have g4 := eq_of_beq (and_r cg5)
  have cg4 := and_l cg5
  have g3 := and_r cg4
  have cg3 := and_l cg4
  have g2 := and_r cg3
  have cg2 := and_l cg3
  have g1 := cg2
  walk_at "go"
  refine mw_equ WEa ?_
  walk_at "go"
  refine S_lst (i := none) (j := none) (s := some (-1)) ya rfl rfl rfl rfl (by rw [intAVs_len, len1]; decide) (by simp) ?_
  rw [pick_rev _ len1]
  walk_at "go"
  refine lead_k (ks := (lastL kl).reverse) (m := 0) n32 n9 rfl (by (first | lia | omega)) app_here rfl (fun k hk => hlk k (List.mem_reverse.mp hk)) (by rw [List.length_reverse, len1]; decide) fun hB w1 x1' W1 => ?_
  have zB : Ext hpA hB := (Ext.app _ _).trans x1'
  walk_at "go"
  refine equal_spec (WEa.ext zB) W1 g1 ?_
  walk_at "go"
  rw [bb g2]
  try dsimp only
  walk_at "go"
  refine mw_equ (WEa.ext zB) ?_
  walk_at "go"
  refine equal_spec (WEa.ext zB) (WMa.ext zB) g3 ?_
  walk_at "go"
  rw [bb g4]
  try dsimp only
  walk_at "go"
  refine lead_k (ks := kl) (m := 0) n32 n9 rfl (by (first | lia | omega)) (zB.at ca) rfl hkk (by (first | lia | omega)) fun hC w2 xC W2 => ?_
  walk_at "go"
  refine mw_equ W2 ?_
  walk_at "go"
  refine equal_spec W2 (WMa.ext (zB.trans xC)) g5 ?_
  walk_at "go"
  rw [bb g6]
  try dsimp only
  walk_at "go"
  refine lead_k (ks := [0, 1, 2, 3]) (m := 0) n32 n9 rfl (by (first | lia | omega)) app_here rfl (by simp) (by simp) fun hD w3 xD W3 => ?_
  have zD : Ext hpA hD := ((zB.trans xC).trans (Ext.app _ _)).trans xD
  walk_at "go"
  refine mw_les W3 ?_
  walk_at "go"
  refine less_spec b6 b2 W3 (WBa.ext zD) fun hE xE => ?_
  walk_at "go"
  rw [bb g7]
  try dsimp only
  walk_at "go"
  refine mw_les (WEa.ext (zD.trans xE)) ?_
  walk_at "go"
  refine less_spec b1 b3 (WEa.ext (zD.trans xE)) (WNa.ext (zD.trans xE)) fun hF xF => ?_
  walk_at "go"
  rw [bb g8]
  try dsimp only
  walk_at "go"
  have zF := (zD.trans xE).trans xF
  refine mw_les (WBa.ext zF) ?_
  walk_at "go"
  refine less_spec b2 b3 (WBa.ext zF) (WNa.ext zF) fun hG xG => ?_
  walk_at "go"
  rw [bb g9]
  try dsimp only
  walk_at "go"
  have zG := zF.trans xG
  refine mw_les (WPa.ext zG) ?_
  walk_at "go"
  refine less_spec b4 b5 (WPa.ext zG) (WDa.ext zG) fun hH xH => ?_
  walk_at "go"
  rw [bb g10]
  try dsimp only
  walk_at "go"
  have zH := zG.trans xH
  refine mw_equ (WPa.ext zH) ?_
  walk_at "go"
  refine equal_spec (WPa.ext zH) (WDa.ext zH) g11 ?_
  walk_at "go"
  rw [bb g12]
  try dsimp only
  walk_at "go"
  have eI := ((zH.at ea))
  have ap (v : Int) : intAVs (lastL kl) ++ [AV.int v] = intAVs (lastL kl ++ [v]) := by unfold intAVs; rw [List.map_append]; rfl
  have apk (v : Int) (hv : v = 1 ∨ v = 2) : ∀ k ∈ lastL kl ++ [v], -60 ≤ k ∧ k ≤ 60 := fun k hk => by
    rcases List.mem_append.mp hk with q | q
    · exact hlk k q
    · have : k = v := by simpa using q
      (first | lia | omega)
  rw [ap 2]
  refine lead_k (ks := lastL kl ++ [2]) (m := 0) n32 n9 rfl (by (first | lia | omega)) app_here rfl (apk 2 (.inr rfl)) (by rw [List.length_append, len1]; decide) fun hI w9 xI W9 => ?_
  have zI : Ext hpA hI := ((zH.trans (Ext.app _ _)).trans (Ext.app _ _)).trans xI
  have eJ := zI.at ea
  walk_at "go"
  refine mw_les W9 ?_
  walk_at "go"
  rw [ap 1]
  refine lead_k (ks := lastL kl ++ [1]) (m := 2) n32 n9 rfl (by (first | lia | omega)) app_here rfl (apk 1 (.inl rfl)) (by rw [List.length_append, len1]; decide) fun hJ wZ xJ WZ => ?_
  walk_at "go"
  refine less_spec b7 b8 (W9.ext (((Ext.app _ _).trans (Ext.app _ _)).trans xJ)) WZ fun hK xK => ?_
  walk_at "go"
  rw [bb g13]
end
section
/-! the whole -/
theorem law_ok (ns : List Int) (hl : ns.length ≤ 63) : LawOk ns := by
  unfold LawOk
  refine pre_ok hl fun loc hp c0 c1 c2 c3 d r l F hrep hlen h3 hca => ⟨rfl, l, hrep, hlen, h3, hca, ?_⟩
  show XS 300 ⟨fScope (cell 25), true, 1⟩ lawPost ⟨loc, hp⟩ RTrue
  obtain ⟨ru, u1, u2⟩ := F.unseen
  refine post_a (n := 200) (ru := ru) ⟨F.dress, F.dpos, u1, u2, F.rest, F.rin⟩ fun hp1 x1 => ?_
  have F1 : PreF loc hp1 c0 c1 c2 c3 d r := by
    obtain ⟨m, c4, c5, k1, k2⟩ := F.cells
    exact ⟨⟨m, c4, c5, k1, x1.at k2⟩, F.order, F.dress, F.dpos, ⟨ru, u1, x1.at u2⟩, F.rest, F.rin⟩
  have pos : 1 ≤ hp1.length := by
    have := at_lt (x1.at u2)
    (first | lia | omega)
  refine post_b (n := 100) pos F1 fun loc2 hp2 N ru2 L2 hu2 hn2 H2 => ?_
  have hl4 : ([c0, c1, c2, c3].map pileOf).length = 4 := rfl
  have ok : ∀ P ∈ [c0, c1, c2, c3].map pileOf, P.ok := by
    intro P hP
    obtain ⟨x, _, rfl⟩ := List.mem_map.mp hP
    exact pile_ok x
  generalize [c0, c1, c2, c3].map pileOf = ps at H2 hl4 ok
  refine post_c (n := 100) L2 hu2 hn2 H2 hl4 ok fun loc3 hp3 G L3 hg3 I3 hpg3 hG3 => ?_
  have pk : ∀ j, j < 4 → 3 ≤ (PL ps j).k ∧ (PL ps j).k ≤ 7 := fun j hj => (I3.plok hj).2.2
  have hs : sandOk (kL ps) = true := tab_sand (pk 0 (by decide)) (pk 1 (by decide)) (pk 2 (by decide)) (pk 3 (by decide))
  have hq : leadsOk (kL ps) = true := tab_leads (pk 0 (by decide)) (pk 1 (by decide)) (pk 2 (by decide)) (pk 3 (by decide))
  obtain ⟨hfree, T⟩ := tb_of hs
  refine post_d (n := 85) F.rin L3 hg3 I3 hpg3 hG3 T fun loc4 hp4 o og V4 I4 p4 q4 g4 z4 => ?_
  refine post_e (n := 94) V4 I4 p4 q4 g4 z4 T hfree fun loc5 hp5 lr V5 x5 l1 l2 l3 => ?_
  exact post_f (n := 99) F.rin V5 (I4.ext x5) (x5.at p4) q4 l1 l2 l3 T hq
theorem claim : PySem.Challenge.rw_wo0058_01.Holds := head (law_walk law_ok)
end
end W58
end
theorem PySem.Challenge.cw_wo0058_01_holds : PySem.Challenge.rw_wo0058_01.Holds :=
  W58.claim
