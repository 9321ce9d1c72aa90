import PyProof.Rows.All
import Wide.All
import OpenK.AllK
import Wide.FinOn
import PySem.Challenge.RW_bq0028_01
open PySem PySem.W PySem.Calls PyProof.Rows PyProof.V PySem.Spec
set_option Elab.async false
set_option maxRecDepth 100000
set_option maxHeartbeats 4000000
set_option linter.unusedVariables false
set_option linter.unusedSectionVars false

namespace Mine
open_top hd for PySem.Challenge.rw_bq0028_01
-- part Base
/-- the pairs of an ordered set's dict -/
abbrev kv (ks : List Int) : List (Int × Value) := ks.map fun k => (k, Value.none)
def put1 (ks : List Int) (k : Int) : List Int := if k ∈ ks then ks else ks ++ [k]
/-- the dict of an own object -/
abbrev attrs (w : World) (t : Tok) (d : Addr) : List DictEntry := [⟨PyData.keyHash w.params (Str.ofString "_data"), .str (Str.ofString "_data") t, .ref d⟩]
abbrev IK (w : World) : KeyKind PySem.Challenge.rw_bq0028_01.row.prog w Int := intKind PySem.Challenge.rw_bq0028_01.row.prog w

theorem kv_length (ks : List Int) : (kv ks).length = ks.length := List.length_map ..
theorem kv_keys (ks : List Int) : (kv ks).map (·.1) = ks := by simp [kv, Function.comp_def]
theorem stored_kv (ks : List Int) (k : Int) : stored (kv ks) k .none = kv (put1 ks k) := by
  unfold stored put1
  by_cases h : k ∈ ks
  · rw [if_pos h, if_pos (by simp only [List.any_eq_true, decide_eq_true_eq]; exact ⟨(k, .none), List.mem_map.mpr ⟨k, h, rfl⟩, rfl⟩)]
    rw [kv, List.map_map]
    apply List.map_congr_left
    intro a _
    simp only [Function.comp]
    split
    · rename_i e; rw [e]
    · rfl
  · rw [if_neg h, if_neg (by simp only [List.any_eq_true, decide_eq_true_eq]; rintro ⟨p, hp, e⟩; obtain ⟨a, ha, rfl⟩ := List.mem_map.mp hp; exact h (e ▸ ha))]
    simp [kv]
theorem without_kv (ks : List Int) (k : Int) : without (kv ks) k = kv (ks.filter fun x => x != k) := by
  unfold without kv
  rw [List.filter_map]
  congr 1
  apply List.filter_congr
  intro a _
  simp only [Function.comp, bne]
  by_cases h : a = k <;> simp [h]
theorem valueAt_kv (ks : List Int) (k : Int) : valueAt (kv ks) k = if k ∈ ks then some .none else none := by
  unfold valueAt
  induction ks with
  | nil => simp [kv]
  | cons a r ih =>
    simp only [kv, List.map_cons, List.find?_cons, List.mem_cons]
    by_cases h : a = k
    · simp [h]
    · have h' : ¬ k = a := fun e => h e.symm
      simp only [h, decide_false, h', false_or]
      exact ih
theorem dict_nodup {w : World} {o : Obj} {ks : List Int} (h : o.IsDictOf (IK w) (kv ks)) : ks.Nodup := by
  obtain ⟨es, ep, h1, h2, h3, h4, h5⟩ := h
  rw [kv_keys] at h5
  exact h5
theorem inst_ne {h₀ h : Heap} {L x C dx d : Addr} {o : Obj} {w : World} {ks : List Int} {news : List (Addr × Obj)} (N : News h₀ L h news) (mx : (x, instObj C dx) ∈ news) (md : (d, o) ∈ news) (ho : o.IsDictOf (IK w) (kv ks)) : x ≠ d := by
  rintro rfl
  have h3 : instObj C dx = o := Option.some.inj ((N _ mx).1.symm.trans (N _ md).1)
  obtain ⟨es, ep, hc, _⟩ := ho
  rw [← h3] at hc
  cases hc.1
theorem attr_ne {h₀ h : Heap} {L dx d d' : Addr} {o : Obj} {w : World} {t : Tok} {n : Nat} {ks : List Int} {news : List (Addr × Obj)} (N : News h₀ L h news) (mx : (dx, dictOf (attrs w t d') n) ∈ news) (md : (d, o) ∈ news) (ho : o.IsDictOf (IK w) (kv ks)) : dx ≠ d := by
  rintro rfl
  have h3 : dictOf (attrs w t d') n = o := Option.some.inj ((N _ mx).1.symm.trans (N _ md).1)
  obtain ⟨es, ep, hc, hd, _, hp, _⟩ := ho
  rw [← h3] at hd
  cases hd
  cases ks with
  | nil => cases hp
  | cons k r =>
    cases hp with
    | cons h1 _ _ => cases h1
theorem list_ne {h₀ h : Heap} {L l d : Addr} {o lo : Obj} {w : World} {ks : List Int} {news : List (Addr × Obj)} (N : News h₀ L h news) (ml : (l, lo) ∈ news) (hl : lo.cls = .type "list") (md : (d, o) ∈ news) (ho : o.IsDictOf (IK w) (kv ks)) : l ≠ d := by
  rintro rfl
  have h3 : lo = o := Option.some.inj ((N _ ml).1.symm.trans (N _ md).1)
  obtain ⟨es, ep, hc, _⟩ := ho
  rw [← h3] at hc
  rw [hc.1] at hl
  exact absurd hl (by decide)

/-- a set's three objects, written ahead of the rest -/
abbrev can (w : World) (x dx d : Addr) (t : Tok) (n : Nat) (o : Obj) (rest : List (Addr × Obj)) : List (Addr × Obj) := (x, instObj 203 dx) :: (dx, dictOf (attrs w t d) n) :: (d, o) :: rest

theorem canM {h₀ h : Heap} {L x dx d : Addr} {o : Obj} {w : World} {t : Tok} {n : Nat} {news : List (Addr × Obj)} (N : News h₀ L h news) (mx : (x, instObj 203 dx) ∈ news) (mdx : (dx, dictOf (attrs w t d) n) ∈ news) (md : (d, o) ∈ news) : News h₀ L h (can w x dx d t n o news) := by
  intro p hp
  refine N p ?_
  rcases List.mem_cons.mp hp with rfl | hp
  · exact mx
  rcases List.mem_cons.mp hp with rfl | hp
  · exact mdx
  rcases List.mem_cons.mp hp with rfl | hp
  · exact md
  exact hp
theorem drop3 {α : Type} {a b c : α} {l : List α} : ∀ p ∈ l, p ∈ a :: b :: c :: l := fun _ hp => .tail _ (.tail _ (.tail _ hp))

theorem perm_copy {α : Type} {A B C D E F' : α} {l : List α} : ∀ p ∈ B :: C :: A :: l, p ∈ A :: B :: C :: D :: E :: F' :: l := by
  intro p hp
  simp only [List.mem_cons] at hp ⊢
  rcases hp with h | h | h | h
  · exact .inr (.inl h)
  · exact .inr (.inr (.inl h))
  · exact .inl h
  · exact .inr (.inr (.inr (.inr (.inr (.inr h)))))

theorem perm_or {α : Type} {A B C D E F' G H I : α} {l : List α} : ∀ p ∈ A :: B :: C :: l, p ∈ A :: B :: C :: D :: E :: F' :: G :: H :: I :: l := by
  intro p hp
  simp only [List.mem_cons] at hp ⊢
  rcases hp with h | h | h | h
  · exact .inl h
  · exact .inr (.inl h)
  · exact .inr (.inr (.inl h))
  · exact .inr (.inr (.inr (.inr (.inr (.inr (.inr (.inr (.inr h))))))))

theorem ins3 {h₀ h : Heap} {L : Addr} {a b c d e f : Addr × Obj} {l : List (Addr × Obj)} (N : News h₀ L h (a :: b :: c :: l)) (hd : d ∈ l) (he : e ∈ l) (hf : f ∈ l) : News h₀ L h (a :: b :: c :: d :: e :: f :: l) := by
  intro p hp
  refine N p ?_
  simp only [List.mem_cons] at hp ⊢
  rcases hp with h | h | h | h | h | h | h
  · exact .inl h
  · exact .inr (.inl h)
  · exact .inr (.inr (.inl h))
  · exact .inr (.inr (.inr (h ▸ hd)))
  · exact .inr (.inr (.inr (h ▸ he)))
  · exact .inr (.inr (.inr (h ▸ hf)))
  · exact .inr (.inr (.inr h))
theorem del3 {α : Type} {A B C D E F' : α} {l : List α} : ∀ p ∈ A :: B :: C :: l, p ∈ A :: B :: C :: D :: E :: F' :: l := by
  intro p hp
  simp only [List.mem_cons] at hp ⊢
  rcases hp with h | h | h | h
  · exact .inl h
  · exact .inr (.inl h)
  · exact .inr (.inr (.inl h))
  · exact .inr (.inr (.inr (.inr (.inr (.inr h)))))

theorem perm_init {α : Type} {A B C : α} {l : List α} : ∀ p ∈ B :: C :: A :: l, p ∈ A :: B :: C :: l := by
  intro p hp
  simp only [List.mem_cons] at hp ⊢
  rcases hp with h | h | h | h
  · exact .inr (.inl h)
  · exact .inr (.inr (.inl h))
  · exact .inl h
  · exact .inr (.inr (.inr h))
theorem perm_init2 {α : Type} {A B C D : α} {l : List α} : ∀ p ∈ B :: C :: A :: l, p ∈ A :: D :: B :: C :: l := by
  intro p hp
  simp only [List.mem_cons] at hp ⊢
  rcases hp with h | h | h | h
  · exact .inr (.inr (.inl h))
  · exact .inr (.inr (.inr (.inl h)))
  · exact .inl h
  · exact .inr (.inr (.inr (.inr h)))

theorem canon {h₀ h : Heap} {L x dx d : Addr} {o : Obj} {w : World} {t : Tok} {n : Nat} {ks : List Int} {news : List (Addr × Obj)} {g : Obj → List (Addr × Obj)} (N : News h₀ L h news) (mx : (x, instObj 203 dx) ∈ news) (mdx : (dx, dictOf (attrs w t d) n) ∈ news)
    (U : UpdF d o news g) (ho : o.IsDictOf (IK w) (kv ks)) :
    ∃ rest, News h₀ L h (can w x dx d t n o rest) ∧ OwnOff rest [d] ∧ x ≠ d ∧ dx ≠ d ∧ (∀ p ∈ news, p.1 ≠ d → p ∈ rest) ∧ ∀ h₁ L₁ h' o', News h₁ L₁ h' (can w x dx d t n o' rest) → News h₁ L₁ h' (g o') := by
  obtain ⟨pre, post, rfl, hg, ha, hb⟩ := U.split
  have md : (d, o) ∈ pre ++ (d, o) :: post := List.mem_append_right _ (.head _)
  refine ⟨pre ++ post, ?_, ?_, inst_ne N mx md ho, attr_ne N mdx md ho, ?_, ?_⟩
  · intro p hp
    refine N p ?_
    rcases List.mem_cons.mp hp with rfl | hp
    · exact mx
    rcases List.mem_cons.mp hp with rfl | hp
    · exact mdx
    rcases List.mem_cons.mp hp with rfl | hp
    · exact md
    rcases List.mem_append.mp hp with hp | hp
    · exact List.mem_append_left _ hp
    · exact List.mem_append_right _ (.tail _ hp)
  · intro p hp b hb'
    rw [List.mem_singleton.mp hb']
    rcases List.mem_append.mp hp with hp | hp
    · exact ha p hp
    · exact hb p hp
  · intro p hp hne
    rcases List.mem_append.mp hp with hp | hp
    · exact List.mem_append_left _ hp
    · rcases List.mem_cons.mp hp with rfl | hp
      · exact absurd rfl hne
      · exact List.mem_append_right _ hp
  · intro h₁ L₁ h' o' N' p hp
    rw [hg] at hp
    refine N' p ?_
    rcases List.mem_append.mp hp with hp | hp
    · exact .tail _ (.tail _ (.tail _ (List.mem_append_left _ hp)))
    · rcases List.mem_cons.mp hp with rfl | hp
      · exact .tail _ (.tail _ (.head _))
      · exact .tail _ (.tail _ (.tail _ (List.mem_append_right _ hp)))

section
variable {w : World} {A : Around} {E : Value → Shared → Prop} {s : Shared} {h₀ : Heap} {L d : Addr} {m : Str → Option Value} {news : List (Addr × Obj)} {g : Obj → List (Addr × Obj)} {o : Obj} {ks : List Int} {k : Int} {t : Tok}
theorem set_I {Q : Unit → Shared → Prop} (F : Fr h₀ L s.heap m) (N : News h₀ L s.heap news) (U : UpdF d o news g) (hd : o.IsDictOf (IK w) (kv ks)) (hsz : ks.length ≤ 1000)
    (h : ∀ h' o', Fr h₀ L h' m → News h₀ L h' (g o') → o'.IsDictOf (IK w) (kv (put1 ks k)) → Q () { s with heap := h', toks := s.toks + 1 }) : wpAny (model PySem.Challenge.rw_bq0028_01.row.prog w) A (setItem (.ref d) (.int k t) .none) Q E s :=
  kda_set F N U hd (intKind_is _ _ _ _) (by rw [kv_length, sizeLine_eq]; omega) fun h' o' F' N' hd' => h h' o' F' N' (by rw [← stored_kv]; exact hd')
end
local macro_rules | `(tactic| walk_at "setItem ref int") => `(tactic| (k_here; k_dflt (refine' set_I ?F ?N ?U ?d ?z ?_; (case F => k_asm); (case N => k_asm); (case U => k_updF); (case d => k_asm); (case z => first | assumption | omega)); intro h' o' F' N' hd'; (try dsimp only at N')))

section
variable {w : World} {dp un : Nat} {gd : Option (List Code)} {cn : Str} {cs : Scope} {a : Addr} {ccd : Value} {cl : List (Str × Addr)} {outer : List Env} {A₀ : Around} {base h₀ : Heap} {L : Addr} {m : Str → Option Value} {s : Shared}
    {mean : ExcName → Option Value} {mg mb : Str → Option Value} {x dx d : Addr} {ta : Tok} {na : Nat} {o : Obj} {ks : List Int} {rest : List (Addr × Obj)} {k : Int} {t : Tok} {R : Result → Shared → Prop}
variable (B : Below A₀ base outer h₀) (F : Fr h₀ L s.heap m) (X : (hd.heap_39 w.params).In h₀) (T : Top hd.view_39 (looseW hd.view_39 [Str.ofString "OrderedSet"]) mean mg mb h₀) (hk : cs.kind = .function)
include B F X T hk
theorem add_core (hdp : dp + 2 < recursionLimit) (hun : un + 20 < cLine) (N : News h₀ L s.heap (can w x dx d ta na o rest)) (hx : x ≠ d) (hdx : dx ≠ d) (hoff : OwnOff rest [d]) (ho : o.IsDictOf (IK w) (kv ks)) (hz : ks.length ≤ 1000)
    (h : ∀ h' tk o', Fr h₀ L h' m → News h₀ L h' (can w x dx d ta na o' rest) → o'.IsDictOf (IK w) (kv (put1 ks k)) → R (.ok (.ret .none)) { s with heap := h', toks := tk }) :
    codeAny (model PySem.Challenge.rw_bq0028_01.row.prog w) (ktrTop dp un gd cn cs L a ccd cl outer) (.call (.ref 92) ⟨[.ref x, .int k t], []⟩) R s := by
  revert X; k_fill; intro X
  k_dflt cell_enter
  k_steps
  exact h _ _ _ (by k_asm) (by k_asm) (by k_asm)
end

-- part Rules1
/-! rules of the dict's own operations, over `IsDictOf` -/
section
variable {w : World} {A : Around} {E : Value → Shared → Prop} {s : Shared} {h₀ : Heap} {L d : Addr} {m : Str → Option Value} {news : List (Addr × Obj)} {g : Obj → List (Addr × Obj)} {o : Obj} {ks : List Int} {k : Int} {t : Tok} {Q : Value → Shared → Prop}
theorem contains_I (N : News h₀ L s.heap news) (hp : (d, o) ∈ news) (ho : o.IsDictOf (IK w) (kv ks)) (lo : (d == sysModules) = false) (h : Q (.bool (decide (k ∈ ks))) { s with toks := s.toks + 1 }) :
    wpAny (model PySem.Challenge.rw_bq0028_01.row.prog w) A (call (.builtin "dict.__contains__") [.ref d, .int k t]) Q E s := by
  have hD := kda_dict N hp ho
  refine call_meetsIn PySem.F.slot_dict_contains hD.typeIs PySem.F.entry_dict_contains (PySem.F.args_dict_contains_2 _ _) (meets_dict_contains (IK w) d (intKind_is _ _ k t) lo) ⟨_, hD.mapOf, ?_⟩
  rw [valueAt_kv]
  by_cases hm : k ∈ ks
  · rw [if_pos hm, Option.isSome_some]; rw [decide_eq_true hm] at h; exact h
  · rw [if_neg hm, Option.isSome_none]; rw [decide_eq_false hm] at h; exact h
theorem len_I (N : News h₀ L s.heap news) (hp : (d, o) ∈ news) (ho : o.IsDictOf (IK w) (kv ks)) (lo : (d == sysModules) = false) (hz : ks.length ≤ 1000) (h : Q (.int ks.length (s.toks + 1)) { s with toks := s.toks + 1 + 1 }) :
    wpAny (model PySem.Challenge.rw_bq0028_01.row.prog w) A (call (.builtin "len") [.ref d]) Q E s :=
  kda_len N hp ho lo (by rw [kv_length]; omega) (by rw [kv_length]; exact h)
theorem del_I {Q : Unit → Shared → Prop} (F : Fr h₀ L s.heap m) (N : News h₀ L s.heap news) (U : UpdF d o news g) (ho : o.IsDictOf (IK w) (kv ks)) (hm : k ∈ ks) (hz : ks.length ≤ 1000)
    (h : ∀ h' o', Fr h₀ L h' m → News h₀ L h' (g o') → o'.IsDictOf (IK w) (kv (ks.filter fun x => x != k)) → Q () { s with heap := h', toks := s.toks + 1 }) :
    wpAny (model PySem.Challenge.rw_bq0028_01.row.prog w) A (delItem (.ref d) (.int k t)) Q E s :=
  kob_del F N U ho (intKind_is _ _ _ _) (by rw [valueAt_kv, if_pos hm]; rfl) (by rw [kv_length, sizeLine_eq]; omega) fun h' o' F' N' hd' => h h' o' F' N' (by rw [← without_kv]; exact hd')
theorem del_I_none {Q : Unit → Shared → Prop} (hh : A.handled = none) (N : News h₀ L s.heap news) (hp : (d, o) ∈ news) (ho : o.IsDictOf (IK w) (kv ks)) (lo : (d == sysModules) = false) (hm : k ∉ ks)
    (h : ∀ h' tk e, Heap.NewExc s.heap h' e "KeyError" → E (.ref e) { s with heap := h', toks := tk }) :
    wpAny (model PySem.Challenge.rw_bq0028_01.row.prog w) A (delItem (.ref d) (.int k t)) Q E s := by
  have hD := kda_dict N hp ho
  unfold delItem
  try with_reducible refine wpAny_holding ?_
  refine wpAny_bind (wpAny_sequenceKey hD.typeIs (by decide) ?_)
  refine wpAny_bind (wpAny_callSpecial?_slot (name := Str.ofString "__delitem__") hD.typeIs PySem.F.slot_dict_delitem
    (call_meetsIn PySem.F.slot_dict_delitem hD.typeIs PySem.F.entry_dict_delitem (PySem.F.args_dict_delitem_2 _ _) (meets_dict_delitem_missing (IK w) d (intKind_is _ _ k t) lo) ⟨hh, _, hD, by rw [valueAt_kv, if_neg hm], fun h' e x => ?_⟩))
  exact h h' _ e x
theorem pop_I (F : Fr h₀ L s.heap m) (N : News h₀ L s.heap news) (U : UpdF d o news g) (ho : o.IsDictOf (IK w) (kv ks)) (lo : (d == sysModules) = false) (hz : ks.length ≤ 1000)
    (h : ∀ h' o', Fr h₀ L h' m → News h₀ L h' (g o') → o'.IsDictOf (IK w) (kv (ks.filter fun x => x != k)) → Q .none { s with heap := h', toks := s.toks + 1 }) :
    wpAny (model PySem.Challenge.rw_bq0028_01.row.prog w) A (call (.builtin "dict.pop") [.ref d, .int k t, .none]) Q E s := by
  by_cases hm : k ∈ ks
  · exact kob_pop (more := [.none]) F N U ho (intKind_is _ _ _ _) (.inr ⟨_, rfl⟩) (by rfl) (PySem.F.args_dict_pop_3 _ _ _) (by rw [valueAt_kv, if_pos hm]) (by rw [kv_length, sizeLine_eq]; omega) fun h' o' F' N' hd' => h h' o' F' N' (by rw [← without_kv]; exact hd')
  · obtain ⟨pre, post, rfl, hg, ha, hb⟩ := U.split
    have hp : (d, o) ∈ pre ++ (d, o) :: post := List.mem_append_right _ (.head _)
    have hD := kda_dict N hp ho
    refine call_meetsIn PySem.F.slot_dict_pop hD.typeIs PySem.F.entry_dict_pop (PySem.F.args_dict_pop_3 _ _ _) (meets_dict_pop_default (IK w) d (intKind_is _ _ k t) lo (by rfl) .none) ⟨_, hD, by rw [valueAt_kv, if_neg hm], ?_⟩
    refine h s.heap o F (by rw [hg]; exact N) ?_
    rw [List.filter_eq_self.mpr]
    · exact ho
    · intro a ha'
      simp only [bne_iff_ne, ne_eq]
      rintro rfl
      exact hm ha'
theorem clear_I (F : Fr h₀ L s.heap m) (N : News h₀ L s.heap news) (U : UpdF d o news g) (ho : o.IsDictOf (IK w) (kv ks)) (hz : ks.length ≤ 1000)
    (h : ∀ h' o', Fr h₀ L h' m → News h₀ L h' (g o') → o'.IsDictOf (IK w) (kv []) → Q .none { s with heap := h' }) :
    wpAny (model PySem.Challenge.rw_bq0028_01.row.prog w) A (call (.builtin "dict.clear") [.ref d]) Q E s := by
  obtain ⟨pre, post, rfl, hg, a, b⟩ := U.split
  have hm := N (d, o) (List.mem_append_right _ (.head _))
  have hD : s.heap.DictOf (IK w) d (kv ks) := Heap.dictOf_iff.mpr ⟨o, hm.1, ho⟩
  refine call_meetsIn PySem.F.slot_dict_clear hD.typeIs PySem.F.entry_dict_clear (PySem.F.args_dict_clear_1 _) (meets_dict_clear (IK w) d) ⟨kv ks, hD, by rw [kv_length, sizeLine_eq]; omega, fun h' hmm hs => ?_⟩
  obtain ⟨o', ho', hd'⟩ := Heap.dictOf_iff.mp hmm
  exact h h' o' (F.change hs hm.2.1 hm.2.2) (hg o' ▸ N.setIn a b hs ho') hd'
theorem copy_I (F : Fr h₀ L s.heap m) (N : News h₀ L s.heap news) (hp : (d, o) ∈ news) (ho : o.IsDictOf (IK w) (kv ks)) (lo : (d == sysModules) = false) (hz : ks.length ≤ 1000)
    (h : ∀ (D : Addr) h' o', Fr h₀ L h' m → News h₀ L h' ((D, o') :: news) → (∀ p ∈ news, p.1 < D) → o'.IsDictOf (IK w) (kv ks) → Q (.ref D) { s with heap := h' }) :
    wpAny (model PySem.Challenge.rw_bq0028_01.row.prog w) A (call (.builtin "dict.copy") [.ref d]) Q E s := by
  have hD := kda_dict N hp ho
  refine call_meetsIn PySem.F.slot_dict_copy hD.typeIs PySem.F.entry_dict_copy (PySem.F.args_dict_copy_1 _) (meets_dict_copy (IK w) d lo) ⟨kv ks, hD, by rw [kv_length, sizeLine_eq]; omega, fun h' hmm hmm' hs => ?_⟩
  obtain ⟨o', ho', hd'⟩ := Heap.dictOf_iff.mp hmm
  have hF : Fr h₀ L h' m := by
    obtain ⟨oL, a1, a2, hL, a3⟩ := F.ns
    exact ⟨⟨oL, a1, a2, hs _ _ hL, a3⟩, fun b o' e => hs b o' (F.keep b o' e), F.above⟩
  refine h _ h' o' hF ?_ (fun p hp => Heap.lt_size (N p hp).1) hd'
  intro p hp'
  rcases List.mem_cons.mp hp' with rfl | hp'
  · refine ⟨ho', ?_, ?_⟩
    · obtain ⟨oL, a1, a2, hL, a3⟩ := F.ns
      exact fun e => absurd (Heap.lt_size hL) (by rw [← e]; exact Nat.lt_irrefl _)
    · cases hq : h₀.get? s.heap.objs.size with
      | none => rfl
      | some o' => exact absurd (Heap.lt_size (F.keep _ _ hq)) (Nat.lt_irrefl _)
  · exact ⟨hs _ _ (N p hp').1, (N p hp').2⟩
theorem objNew_I (F : Fr h₀ L s.heap m) (X : (hd.heap_39 w.params).In s.heap) (N : News h₀ L s.heap news) (hm : makesIn (hd.heap_39 w.params) 203 = true) (hi : findIn (hd.heap_39 w.params) (.ref 203) "__init__" = some (some (.ref 29)))
    (h : ∀ (x dx : Addr) h', Fr h₀ L h' m → News h₀ L h' ((x, instObj 203 dx) :: (dx, dictOf [] 0) :: news) → (∀ p ∈ news, p.1 < dx) → dx < x → Q (.ref x) { s with heap := h' }) :
    wpAny (model PySem.Challenge.rw_bq0028_01.row.prog w) A (call (.builtin "object.__new__") [.ref 203]) Q E s := by
  obtain ⟨hh, g, d, t, os⟩ := s
  have N' := (N.push F emptyDict).push (F.push _) (instObj 203 hh.objs.size)
  rw [Heap.size_push] at N'
  exact wpAny_call (new_K (makes_of X hm) (looks_findIn X hi) (.inl rfl) (h _ hh.objs.size _ ((F.push _).push _) N' (fun p hp => Heap.lt_size (N p hp).1) (Nat.lt_succ_self _)))
end


-- part Rules2
/-! the reversed walk over a dict -/
theorem owner_drk : Manifest.owners.lookup (String.ofList ['r','o','t','a','r','e','t','i','y','e','k','e','s','r','e','v','e','r','_','t','c','i','d'].reverse) = some Manifest.sig_dict_reversekeyiterator := by kernel_rfl
theorem slot_drk_next : Slot "dict_reversekeyiterator" "__next__" "dict_reversekeyiterator.__next__" :=
  .of (owner := "dict_reversekeyiterator") (n := "__next__") (by rw [typeLookup_type, builtinLookup_eq_fast]; kernel_rfl) (by decide +kernel) (by decide +kernel) (by decide +kernel)
    (by first | exact .inl (by decide +kernel) | exact .inr (by decide +kernel)) (by rw [isSubtype_type]; kernel_rfl)
theorem entry_drk_next : entryFor table "dict_reversekeyiterator.__next__" = some Builtin.«dict_reverseitemiterator.__next__» :=
  entryFor_alias (id' := "dict_reverseitemiterator.__next__") (by kernel_rfl) (by first | rfl | decide +kernel | (unfold String.splitOn; simp +decide [String.splitOnAux])) (by decide +kernel) (by kernel_rfl)
theorem args_drk_next_1 (a : Value) : argsOk "dict_reversekeyiterator.__next__" ⟨[a], []⟩ := by
  unfold argsOk; rw [signature?_of (id := "dict_reversekeyiterator.__next__") (n := ['_', '_', 't', 'x', 'e', 'n', '_', '_']) (o := ['r','o','t','a','r','e','t','i','y','e','k','e','s','r','e','v','e','r','_','t','c','i','d']) (by kernel_rfl) owner_drk]; kernel_rfl
theorem slot_drk_iter : Slot "dict_reversekeyiterator" "__iter__" "dict_reversekeyiterator.__iter__" :=
  .of (owner := "dict_reversekeyiterator") (n := "__iter__") (by rw [typeLookup_type, builtinLookup_eq_fast]; kernel_rfl) (by decide +kernel) (by decide +kernel) (by decide +kernel)
    (by first | exact .inl (by decide +kernel) | exact .inr (by decide +kernel)) (by rw [isSubtype_type]; kernel_rfl)
theorem args_drk_iter_1 (a : Value) : argsOk "dict_reversekeyiterator.__iter__" ⟨[a], []⟩ := by
  unfold argsOk; rw [signature?_of (id := "dict_reversekeyiterator.__iter__") (n := ['_', '_', 'r', 'e', 't', 'i', '_', '_']) (o := ['r','o','t','a','r','e','t','i','y','e','k','e','s','r','e','v','e','r','_','t','c','i','d']) (by kernel_rfl) owner_drk]; kernel_rfl
theorem entry_drk_iter : entryFor table "dict_reversekeyiterator.__iter__" = some Builtin.«dict_keyiterator.__iter__» :=
  entryFor_alias (id' := "dict_keyiterator.__iter__") (by kernel_rfl) (by first | rfl | decide +kernel | (unfold String.splitOn; simp +decide [String.splitOnAux])) (by decide +kernel) (by kernel_rfl)
theorem mroOf_drk : mroOf (.type "dict_reversekeyiterator") = pure [.type "dict_reversekeyiterator", .type "object"] := by rw [mroOf_type]; kernel_rfl
theorem sub_drk_reversed : isSubtype (.type "dict_reversekeyiterator") (.type "reversed") = pure false := by rw [isSubtype_type]; kernel_rfl

def IsRev (h : Heap) (it d : Addr) (i : Int) (n ep : Nat) : Prop :=
  ∃ o, h.get? it = some o ∧ o.cls = .type "dict_reversekeyiterator" ∧ o.data = .fields #[.ref d, .int i 0, .int n 0, .int ep 0]
theorem IsRev.at {h h' : Heap} {it d : Addr} {i : Int} {n ep : Nat} (x : IsRev h it d i n ep) (e : ∀ o, h.get? it = some o → h'.get? it = some o) : IsRev h' it d i n ep := let ⟨o, ho, r⟩ := x; ⟨o, e _ ho, r⟩
theorem IsRev.typeIs {s : Shared} {it d : Addr} {i : Int} {n ep : Nat} (x : IsRev s.heap it d i n ep) : s.TypeIs (.ref it) "dict_reversekeyiterator" := let ⟨o, ho, hc, _⟩ := x; ⟨o, ho, hc⟩
section
variable {prog : Program} {w : World} {K : Type} [DecidableEq K] {knd : KeyKind prog w K} {A : Around} {E : Value → Shared → Prop} {s : Shared} {it d : Addr} {ep : Nat} {kvs : List (K × Value)} {k : K} {v : Value}
theorem drk_name {Q : String → Shared → Prop} (hT : s.TypeIs (.ref it) "dict_reversekeyiterator") (h : Q "dict_reversekeyiterator" s) : wpAny (model prog w) A (typeNameOfWhole (.ref it)) Q E s := by
  unfold typeNameOfWhole shownTypeOf
  refine wpAny_bind (wpAny_bind (wpAny_typeOf hT ?_))
  simp only [show (Value.type "dict_reversekeyiterator" == Value.type "builtin_function_or_method") = false by decide, Bool.false_eq_true, if_false]
  refine wpAny_pure ?_
  have e : typeName (.type "dict_reversekeyiterator") = pure "dict_reversekeyiterator" := by unfold typeName; rw [find?_eq_fast]; kernel_rfl
  rw [show typeNameWhole (.type "dict_reversekeyiterator") = typeName (.type "dict_reversekeyiterator") from rfl, e]; exact wpAny_pure h
theorem drk_oneOf {types : List String} {Q : Bool → Shared → Prop} (hT : s.TypeIs (.ref it) "dict_reversekeyiterator")
    (h : Q (types.any fun t => [Value.type "dict_reversekeyiterator", Value.type "object"].contains (.type t)) s) : wpAny (model prog w) A (Builtin.Dict_items.isOneOf (.ref it) types) Q E s := by
  unfold Builtin.Dict_items.isOneOf
  refine wpAny_bind (wpAny_typeOf hT ?_)
  rw [mroOf_drk]
  exact wpAny_bind (wpAny_pure (wpAny_pure h))

theorem drk_special {i : Nat} {Q : Option Value → Shared → Prop} (hit : IsRev s.heap it d i kvs.length ep) (hm : s.heap.DictAt knd d kvs ep) (hx : kvs[i]? = some (k, v))
    (hQ : ∀ key h', knd.is k key = true → IsRev h' it d ((i : Int) - 1) kvs.length ep → Heap.SameBut it s.heap h' → Q (some key) { s with heap := h' }) :
    wpAny (model prog w) A (callSpecial? (.ref it) (Str.ofString "__next__")) Q E s := by
  obtain ⟨o, ho, hc, hd⟩ := id hit
  obtain ⟨od, es, hod, hcd, hdd, hk, hp, hn⟩ := id hm
  refine wpAny_callSpecial?_slot (name := Str.ofString "__next__") hit.typeIs slot_drk_next (wpAny_call_entry slot_drk_next hit.typeIs entry_drk_next ?_ (args_drk_next_1 _))
  refine wpAny_bind (wpAny_pure ?_)
  refine wpAny_bind ?_
  refine wpAny_bind ?_
  refine wpAny_bind (drk_name hit.typeIs (wpAny_pure ?_))
  refine wpAny_bind (wpAny_fieldsOf ho hd ?_)
  have hown : Builtin.Dict_items.ownsTuple "dict_reversekeyiterator" = false := by decide
  simp only [hown, Bool.false_eq_true, if_false]
  show wpAny _ _ (if (Value.ref d == Value.none) = true then _ else _) _ _ s
  rw [if_neg (show ¬ ((Value.ref d == Value.none) = true) from Bool.false_ne_true)]
  refine wpAny_bind (wpAny_pure ?_)
  refine wpAny_bind (wpAny_dictEntries hod hdd ?_)
  have hsz : es.size = kvs.length := by rw [← hp.length]; simp
  rw [if_neg (by rw [hsz]; simp)]
  refine wpAny_bind (wpAny_pure ?_)
  refine wpAny_bind (wpAny_dictEpoch hod hdd ?_)
  rw [if_neg (by simp)]
  refine wpAny_pure ?_
  have hlt : i < kvs.length := by
    rcases Nat.lt_or_ge i kvs.length with h | h
    · exact h
    · simp [List.getElem?_eq_none h] at hx
  have hlt' : i < es.size := by rw [hsz]; exact hlt
  have hkey : knd.is k es[i].key = true := (hp.get? (e := es[i]) (by simp [hlt']) hx).1
  simp only [show ¬ ((i : Int) < 0) from by omega, if_false, Int.toNat_natCast, Array.getElem?_eq_getElem hlt']
  refine wpAny_bind ?_
  refine wpAny_bind (drk_name hit.typeIs (wpAny_pure ?_))
  refine wpAny_bind (drk_oneOf hit.typeIs ?_)
  show wpAny _ _ (setField (.ref it) 1 (rawInt ((i : Int) - 1)) >>= _) _ _ s
  refine wpAny_bind (wpAny_setField ho hd (by simp) ?_)
  have hit' : IsRev (s.heap.update it (Obj.mapFields (·.setIfInBounds 1 (rawInt ((i : Int) - 1))))) it d ((i : Int) - 1) kvs.length ep :=
    ⟨_, Heap.get?_update_self _ ho (Obj.isFreed_of_fields (Obj.data_mapFields hd _)), (Obj.cls_mapFields ..).trans hc, by rw [Obj.data_mapFields hd]; simp [rawInt]⟩
  refine wpAny_bind (wpAny_holding ?_)
  refine wpAny_bind (drk_oneOf (s := { s with heap := s.heap.update it (Obj.mapFields (·.setIfInBounds 1 (rawInt ((i : Int) - 1)))) }) hit'.typeIs ?_)
  show wpAny _ _ (pure es[i].key) _ _ _
  exact wpAny_pure (wpAny_pure ⟨_, rfl, hQ _ _ hkey hit' (Heap.SameBut.update ..)⟩)
theorem drk_item {i : Nat} {Q : Option Value → Shared → Prop} (hit : IsRev s.heap it d i kvs.length ep) (hm : s.heap.DictAt knd d kvs ep) (hx : kvs[i]? = some (k, v))
    (hQ : ∀ key h', knd.is k key = true → IsRev h' it d ((i : Int) - 1) kvs.length ep → Heap.SameBut it s.heap h' → Q (some key) { s with heap := h' }) :
    wpAny (model prog w) A (pyNext (.ref it)) Q E s := by
  unfold pyNext
  exact wpAny_bind (wpAny_attempt (drk_special hit hm hx fun key h' a b c => wpAny_pure (hQ key h' a b c)))
theorem drk_end {Q : Option Value → Shared → Prop} (hh : A.handled = none) (hit : IsRev s.heap it d (-1) kvs.length ep) (hm : s.heap.DictAt knd d kvs ep)
    (hQ : ∀ h', Heap.ExtBut it s.heap h' → Q none { s with heap := h' }) : wpAny (model prog w) A (pyNext (.ref it)) Q E s := by
  obtain ⟨o, ho, hc, hd⟩ := id hit
  obtain ⟨od, es, hod, hcd, hdd, hk, hp, hn⟩ := id hm
  unfold pyNext
  refine wpAny_bind (wpAny_attempt (wpAny_callSpecial?_slot (name := Str.ofString "__next__") hit.typeIs slot_drk_next (wpAny_call_entry slot_drk_next hit.typeIs entry_drk_next ?_ (args_drk_next_1 _))))
  refine wpAny_bind (wpAny_pure ?_)
  refine wpAny_bind ?_
  refine wpAny_bind ?_
  refine wpAny_bind (drk_name hit.typeIs (wpAny_pure ?_))
  refine wpAny_bind (wpAny_fieldsOf ho hd ?_)
  have hown : Builtin.Dict_items.ownsTuple "dict_reversekeyiterator" = false := by decide
  simp only [hown, Bool.false_eq_true, if_false]
  show wpAny _ _ (if (Value.ref d == Value.none) = true then _ else _) _ _ s
  rw [if_neg (show ¬ ((Value.ref d == Value.none) = true) from Bool.false_ne_true)]
  refine wpAny_bind (wpAny_pure ?_)
  refine wpAny_bind (wpAny_dictEntries hod hdd ?_)
  have hsz : es.size = kvs.length := by rw [← hp.length]; simp
  rw [if_neg (by rw [hsz]; simp)]
  refine wpAny_bind (wpAny_pure ?_)
  refine wpAny_bind (wpAny_dictEpoch hod hdd ?_)
  rw [if_neg (by simp)]
  refine wpAny_pure ?_
  simp only [show ((-1 : Int) < 0) from by omega, if_true]
  refine wpAny_bind ?_
  refine wpAny_bind (drk_name hit.typeIs (wpAny_pure ?_))
  show wpAny _ _ (setField (.ref it) 0 .none >>= _) _ _ s
  refine wpAny_bind (wpAny_setField ho hd (by simp) ?_)
  show wpAny _ _ (newExc (.type "StopIteration") [] >>= _) _ _ _
  refine wpAny_bind ?_
  simp only [newExc, newTuple]
  refine wpAny_bind (wpAny_newObj_type ?_ (by size_fits))
  refine wpAny_bind (m := firstArgMember _ _) (wpAny_of_eq (a := Value.none) (by first | rfl | (simp only [firstArgMember]; rfl)) ?_)
  refine wpAny_newObj_type ?_ (by size_fits)
  simp only [raiseNew]
  refine wpAny_bind (wpAny_handled ?_)
  rw [show A.in1.handled = none from hh]
  refine wpAny_bind (wpAny_pure (wpAny_throw ?_))
  refine wpAny_bind (wpAny_isInstance (T := "StopIteration") (b := true) ⟨_, Heap.get?_push_size _ rfl, rfl⟩ isSubtype_stop ?_)
  exact wpAny_pure (hQ _ (((Heap.SameBut.update ..).extBut.push _).push _))
theorem drk_self {i : Int} {n : Nat} {Q : Value → Shared → Prop} (hit : IsRev s.heap it d i n ep) (h : Q (.ref it) s) : wpAny (model prog w) A (pyIter (.ref it)) Q E s := by
  refine wpAny_pyIter_slot hit.typeIs slot_drk_iter (wpAny_call_entry slot_drk_iter hit.typeIs entry_drk_iter ?_ (args_drk_iter_1 _))
  show wpAny _ _ (ret (.ref it)) _ _ s
  exact wpAny_pure ⟨_, rfl, "dict_reversekeyiterator", _, hit.typeIs, slot_drk_next.lookup, h⟩
theorem drk_walks (hh : A.handled = none) (I d : Addr) (hne : d ≠ I) (kvs : List (K × Value)) (ep : Nat) :
    Walks prog w A I [I, d] [I] kvs.length (fun i v => ∃ k x, kvs.reverse[i]? = some (k, x) ∧ knd.is k v = true) (fun i h => IsRev h I d ((kvs.length : Int) - 1 - i) kvs.length ep ∧ h.DictAt knd d kvs ep) where
  sub := fun b hb => by simp at hb; simp [hb]
  frame := fun _ _ _ st hk => ⟨st.1.at fun o e => hk I (by simp) o e, st.2.at' fun o e => hk d (by simp) o e⟩
  item := fun i s Q E hi st hQ => by
    have e1 : ((kvs.length : Int) - 1 - i) = ((kvs.length - 1 - i : Nat) : Int) := by omega
    have hlt : kvs.length - 1 - i < kvs.length := by omega
    have st1 := st.1
    rw [e1] at st1
    obtain ⟨⟨k, x⟩, hx⟩ : ∃ p, kvs[kvs.length - 1 - i]? = some p := ⟨_, List.getElem?_eq_getElem hlt⟩
    refine drk_item st1 st.2 hx fun key h' a b c => ?_
    refine hQ key h' s.toks ⟨k, x, ?_, a⟩ ⟨?_, ?_⟩ ?_
    · rw [List.getElem?_reverse hi]; exact hx
    · have e2 : ((kvs.length : Int) - 1 - (i + 1 : Nat)) = ((kvs.length - 1 - i : Nat) : Int) - 1 := by omega
      rw [e2]; exact b
    · exact st.2.at' fun o e => (c.2 d hne).trans e
    · intro b o hb e
      exact (c.2 b (fun q => hb (by rw [q]; exact .head _))).trans e
  done := fun s Q E st hQ => by
    have e1 : ((kvs.length : Int) - 1 - kvs.length) = -1 := by omega
    have st1 := st.1
    rw [e1] at st1
    exact drk_end hh st1 st.2 fun h' x => hQ h' s.toks fun b o hb e => x b o (fun q => hb (by rw [q]; exact .head _)) e
  self := fun i s Q E st hQ => drk_self st.1 hQ
theorem call_drev {Q : Value → Shared → Prop} (hm : s.heap.DictAt knd d kvs ep) (lo : (d == sysModules) = false)
    (h : Q (.ref s.heap.objs.size) { s with heap := s.heap.push { cls := .type "dict_reversekeyiterator", data := .fields #[.ref d, .int ((kvs.length : Int) - 1) 0, .int kvs.length 0, .int ep 0] } }) :
    wpAny (model prog w) A (call (.builtin "dict.__reversed__") [.ref d]) Q E s := by
  obtain ⟨o, es, ho, hc, hdat, hk, hp, hn⟩ := id hm
  have hT := hm.dictOf.typeIs
  refine wpAny_call_entry PySem.F.slot_dict_reversed hT PySem.F.entry_dict_reversed ?_ (PySem.F.args_dict_reversed_1 _)
  refine wpAny_bind ?_
  unfold Builtin.Dict.noArgs
  refine wpAny_bind (wpAny_notOrdered_dict hT ?_)
  show wpAny _ _ (pure d) _ _ s
  refine wpAny_pure ?_
  show wpAny _ _ (Builtin.Dict.showsAll d >>= _) _ _ s
  unfold Builtin.Dict.showsAll
  rw [if_neg (by rw [lo]; exact Bool.false_ne_true)]
  refine wpAny_bind (wpAny_pure ?_)
  refine wpAny_bind (wpAny_dictEntries ho hdat ?_)
  refine wpAny_bind (wpAny_dictEpoch ho hdat ?_)
  have hsz : es.size = kvs.length := by rw [← hp.length]; simp
  refine wpAny_bind (wpAny_newObj_type (wpAny_pure ⟨_, rfl, ?_⟩))
  simpa [rawInt, hsz] using h
end

/-- `reversed(v)` where v's type has a way of its own -/
theorem code_rev {prog : Program} {w : World} {A : Around} {E : Value → Shared → Prop} {s : Shared} {x : Addr} {f g : Value} {first : List Value} {Q₁ : Value → Shared → Prop}
    (h1 : ∀ (Q : Option Value → Shared → Prop) (A' : Around), Q (some f) s → wpAny (model prog w) A' (specialOf (.ref x) (Str.ofString "__reversed__")) Q E s)
    (h2 : ∀ (Q : Value × List Value → Shared → Prop) (A' : Around), Q (g, first) s → wpAny (model prog w) A' (bindSpecial f (.ref x)) Q E s) (hg : (g == Value.none) = false)
    (h : wpAny (model prog w) A.in1 (call g first) Q₁ E s) :
    codeAny (model prog w) A (.call (.builtin "reversed.__new__") ⟨[.type "reversed", .ref x], []⟩) (wants Q₁ E) s := by
  refine codeAny_of_tree ?_
  show wpAny _ A.in1 (do checkBuiltinCall "reversed.__new__" ⟨[.type "reversed", .ref x], []⟩; again (.builtin "reversed.__new__" ⟨[.type "reversed", .ref x], []⟩)) _ _ s
  refine wpAny_bind (wpAny_of_eq (PySem.F.newCall_reversed_1 _) (wpAny_pure ⟨plainId_quiet PySem.F.plain_reversed_new _, codeAny_builtin PySem.F.entry_reversed_new ?_⟩))
  rw [Around.under_plainId PySem.F.plain_reversed_new _]
  unfold Builtin.«reversed.__new__»
  refine wpAny_bind (wpAny_of_eq (PySem.newClass_reversed _) ?_)
  try dsimp only
  refine wpAny_bind (wpAny_of_eq (a := ()) (by first | rfl | kernel_rfl) ?_)
  refine wpAny_bind (wpAny_of_eq (a := ()) (by first | rfl | kernel_rfl) ?_)
  try dsimp only
  refine wpAny_bind (h1 _ _ ?_)
  try dsimp only
  refine wpAny_bind (h2 _ _ ?_)
  try dsimp only
  rw [if_neg (by rw [hg]; exact Bool.false_ne_true)]
  refine wpAny_bind (wpAny_rule ?_)
  refine wpAny_bind (m := runValue (.call g ⟨first, []⟩)) (show wpAny _ _ (call g first) _ _ _ from wpAny_mono h (fun v s' hv => ?_) fun _ _ e => e)
  first
  | exact wpAny_pure hv
  | exact wpAny_bind (wpAny_pure (wpAny_pure hv))

-- part Rules3
def KdkRev (o : Obj) (d : Addr) (i : Int) (n ep : Nat) : Prop := o.cls = .type "dict_reversekeyiterator" ∧ o.data = .fields #[.ref d, .int i 0, .int n 0, .int ep 0]
theorem KdkRev.at {h : Heap} {it d : Addr} {i : Int} {n ep : Nat} {io : Obj} (a : KdkRev io d i n ep) (ho : h.get? it = some io) : IsRev h it d i n ep := ⟨io, ho, a.1, a.2⟩

theorem pairs_snoc {prog : Program} {w : World} {K : Type} [DecidableEq K] {knd : KeyKind prog w K} {p : K × Value} : ∀ {kvs : List (K × Value)} {es : List DictEntry}, Pairs knd es (kvs ++ [p]) → ∃ es' e, es = es' ++ [e] ∧ Pairs knd es' kvs ∧ knd.is p.1 e.key = true ∧ e.val = p.2
  | [], _, .cons h1 h2 .nil => ⟨[], _, rfl, .nil, h1, h2⟩
  | q :: r, _, .cons h1 h2 h3 => by
    obtain ⟨es', e, rfl, a, b, c⟩ := pairs_snoc (kvs := r) h3
    exact ⟨_ :: es', e, rfl, .cons h1 h2 a, b, c⟩

/-- what a call leaves: all of the heap kept but for one object -/
theorem sameBut_upd {h₀ h h' : Heap} {L d : Addr} {m : Str → Option Value} {news : List (Addr × Obj)} {g : Obj → List (Addr × Obj)} {o o' : Obj} (F : Fr h₀ L h m) (N : News h₀ L h news) (U : UpdF d o news g) (hs : Heap.SameBut d h h') (ho : h'.get? d = some o') :
    Fr h₀ L h' m ∧ News h₀ L h' (g o') := by
  obtain ⟨pre, post, rfl, hg, a, b⟩ := U.split
  have hm := N (d, o) (List.mem_append_right _ (.head _))
  exact ⟨F.change hs hm.2.1 hm.2.2, hg o' ▸ N.setIn a b hs ho⟩
theorem upd_mem {d : Addr} {o : Obj} {news : List (Addr × Obj)} {g : Obj → List (Addr × Obj)} (U : UpdF d o news g) : (d, o) ∈ news := by
  obtain ⟨pre, post, rfl, _⟩ := U.split
  exact List.mem_append_right _ (.head _)
theorem upd_lt {d I : Addr} {o o' : Obj} {news : List (Addr × Obj)} {g : Obj → List (Addr × Obj)} (U : UpdF d o news g) (h : ∀ p ∈ news, p.1 < I) : ∀ p ∈ g o', p.1 < I := by
  obtain ⟨pre, post, rfl, hg, _⟩ := U.split
  intro p hp
  rw [hg] at hp
  rcases List.mem_append.mp hp with hp | hp
  · exact h p (List.mem_append_left _ hp)
  · rcases List.mem_cons.mp hp with rfl | hp
    · exact h (d, o) (List.mem_append_right _ (.head _))
    · exact h p (List.mem_append_right _ (.tail _ hp))

section
variable {w : World} {A : Around} {E : Value → Shared → Prop} {s : Shared} {h₀ : Heap} {L d it : Addr} {m : Str → Option Value} {news : List (Addr × Obj)} {g : Obj → List (Addr × Obj)} {o io : Obj} {ks : List Int} {k : Int} {t : Tok} {ep : Nat} {Q : Value → Shared → Prop}
theorem popitem_I (F : Fr h₀ L s.heap m) (N : News h₀ L s.heap news) (U : UpdF d o news g) (ho : o.IsDictOf (IK w) (kv (ks ++ [k]))) (lo : (d == sysModules) = false) (hz : ks.length ≤ 1000)
    (h : ∀ (D : Addr) h' o' t, Fr h₀ L h' m → News h₀ L h' ((D, { cls := .type "tuple", data := .seq #[.int k t, .none] }) :: g o') → (∀ p ∈ g o', p.1 < D) → o'.IsDictOf (IK w) (kv ks) → Q (.ref D) { s with heap := h' }) :
    wpAny (model PySem.Challenge.rw_bq0028_01.row.prog w) A (call (.builtin "dict.popitem") [.ref d]) Q E s := by
  have hp := upd_mem U
  have hmem := N _ hp
  have hD := kda_dict N hp ho
  obtain ⟨es, ep, hx, hdat, hkeys, hpairs, hnd⟩ := id ho
  have hsnoc : Pairs (IK w) es.toList (kv ks ++ [(k, .none)]) := by simpa [kv] using hpairs
  obtain ⟨es', e, hes, hp', hek, hev⟩ := pairs_snoc hsnoc
  have hes2 : es = (es' ++ [e]).toArray := by rw [← hes]
  have hback : es.back? = some e := by rw [hes2]; simp
  have hpop : es.pop = es'.toArray := by rw [hes2]; simp
  obtain ⟨t, hkey⟩ := PySem.Value.isInt_shape hek
  refine wpAny_call_entry PySem.F.slot_dict_popitem hD.typeIs PySem.F.entry_dict_popitem ?_ (PySem.F.args_dict_popitem_1 _)
  refine wpAny_bind ?_
  unfold Builtin.Dict.noArgs
  refine wpAny_bind (wpAny_notOrdered_dict hD.typeIs ?_)
  show wpAny _ _ (pure d) _ _ s
  refine wpAny_pure ?_
  show wpAny _ _ (Builtin.Dict.showsAll d >>= _) _ _ s
  unfold Builtin.Dict.showsAll
  rw [if_neg (by rw [lo]; exact Bool.false_ne_true)]
  refine wpAny_bind (wpAny_pure ?_)
  refine wpAny_bind (wpAny_dictEntries hmem.1 hdat ?_)
  rw [hback]
  have hsz : es.size ≤ sizeLine := by
    have e1 := hpairs.length
    rw [kv_length, List.length_append, List.length_singleton] at e1
    have e2 : es.toList.length = es.size := by simp
    rw [sizeLine_eq]; omega
  refine wpAny_bind (wpAny_updateDictKeys (hz := hsz) (hf := by simp; omega) hmem.1 hdat ?_)
  have hget : (s.heap.update d (Obj.mapDictKeys (·.pop))).get? d = some (Obj.mapDictKeys (·.pop) o) := Heap.get?_update_self _ hmem.1 (Obj.isFreed_of_dict (Obj.data_mapDictKeys hdat _))
  obtain ⟨F', N'⟩ := sameBut_upd F N U (Heap.SameBut.update ..) hget
  refine wpAny_bind (wpAny_newObj_type (wpAny_pure ⟨_, rfl, ?_⟩))
  refine h _ _ (Obj.mapDictKeys (·.pop) o) t (F'.push _) (by rw [hkey, hev]; exact News.push F' N' _ rfl) ?_ ?_
  · exact fun p hp => Heap.lt_size (N' p hp).1
  · refine ⟨es.pop, ep + 1, hx.mapDictKeys _, Obj.data_mapDictKeys hdat _, ?_, ?_, ?_⟩
    · intro e' he'
      refine hkeys e' ?_
      rw [hes2]
      rw [hpop] at he'
      simp at he' ⊢
      exact .inl he'
    · rw [hpop]; exact hp'
    · rw [kv_keys] at hnd ⊢
      exact (List.nodup_append.mp hnd).1
theorem reversed_I (F : Fr h₀ L s.heap m) (N : News h₀ L s.heap news) (hp : (d, o) ∈ news) (ho : o.IsDictOf (IK w) (kv ks)) (lo : (d == sysModules) = false)
    (h : ∀ (I : Addr) h' oI ep, Fr h₀ L h' m → News h₀ L h' ((I, oI) :: news) → (∀ p ∈ news, p.1 < I) → KdkRev oI d ((ks.length : Int) - 1) ks.length ep → KdkAt (IK w) o (kv ks) ep → Q (.ref I) { s with heap := h' }) :
    wpAny (model PySem.Challenge.rw_bq0028_01.row.prog w) A (call (.type "reversed") [.ref d]) Q E s := by
  obtain ⟨ep, ha⟩ := KdkAt.of ho
  have hm := ha.dictAt (N _ hp).1
  have hT := hm.dictOf.typeIs
  refine PySem.callType_other (U := "dict_reversekeyiterator") (Q₁ := fun obj s₁ => obj = .ref s.heap.objs.size ∧ s₁ = { s with heap := s.heap.push { cls := .type "dict_reversekeyiterator", data := .fields #[.ref d, .int (((kv ks).length : Int) - 1) 0, .int (kv ks).length 0, .int ep 0] } })
    (by decide +kernel) PySem.F.create_reversed ⟨_, _, PySem.F.mro_reversed⟩ PySem.F.made_reversed sub_drk_reversed (PySem.F.typeCall_reversed_1 _)
    (code_rev (fun Q A' hq => wpAny_specialOf hT PySem.F.slot_dict_reversed.lookup hq) (fun Q A' hq => wpAny_of_eq (PySem.F.slot_dict_reversed.bind _) hq) rfl ?_) ?_
  · exact call_drev hm lo ⟨rfl, rfl⟩
  · rintro obj s₁ ⟨rfl, rfl⟩
    refine ⟨⟨_, Heap.get?_push_size _ rfl, rfl⟩, ?_⟩
    exact h _ _ _ ep (F.push _) (News.push F N _ rfl) (fun p hp => Heap.lt_size (N p hp).1) ⟨rfl, by rw [kv_length]⟩ ha
/-- next of a reversed walk -/
theorem revnext_I {i : Nat} {j : Int} (F : Fr h₀ L s.heap m) (N : News h₀ L s.heap news) (U : UpdF it io news g) (hi : KdkRev io d j ks.length ep) (ha : KdkAt (IK w) o (kv ks) ep) (hp : (d, o) ∈ news) (hj : j = (i : Int)) (hx : ks[i]? = some k)
    (h : ∀ h' o' t, Fr h₀ L h' m → News h₀ L h' (g o') → KdkRev o' d (j - 1) ks.length ep → Q (.int k t) { s with heap := h' }) :
    wpAny (model PySem.Challenge.rw_bq0028_01.row.prog w) A (call (.builtin "next") [.ref it]) Q E s := by
  subst hj
  have hmem := upd_mem U
  have hm := N (it, io) hmem
  have hit := hi.at hm.1
  rw [← kv_length ks] at hit
  have hx' : (kv ks)[i]? = some (k, .none) := by simp [kv, hx]
  refine call_function_entry (by decide +kernel) (by decide +kernel) kdk_entry_next (kdk_args_next _) ?_
  unfold Builtin.«next»
  refine wpAny_bind (m := someArgs "next" 1 2 _) (wpAny_of_eq (a := [Value.ref it]) (by first | rfl | kernel_rfl!) ?_)
  dsimp only
  refine wpAny_bind (wpAny_specialOf (name := Str.ofString "__next__") hit.typeIs slot_drk_next.lookup ?_)
  refine wpAny_ite_split (fun hab => absurd hab (by decide)) (fun _ => ?_)
  refine wpAny_bind (drk_special hit (ha.dictAt (N _ hp).1) hx' fun key h' hkey hit' hs => ?_)
  obtain ⟨o', ho', hc', hd'⟩ := hit'
  obtain ⟨t, rfl⟩ := PySem.Value.isInt_shape hkey
  obtain ⟨F', N'⟩ := sameBut_upd F N U hs ho'
  exact wpAny_pure ⟨_, rfl, h h' o' t F' N' ⟨hc', by rw [hd', kv_length]⟩⟩
/-- next of a walk over the keys -/
theorem next_I {i : Nat} (F : Fr h₀ L s.heap m) (N : News h₀ L s.heap news) (U : UpdF it io news g) (hi : KdkIter io d i ks.length ep) (ha : KdkAt (IK w) o (kv ks) ep) (hp : (d, o) ∈ news) (hx : ks[i]? = some k)
    (h : ∀ h' o' t, Fr h₀ L h' m → News h₀ L h' (g o') → KdkIter o' d (i + 1) ks.length ep → Q (.int k t) { s with heap := h' }) :
    wpAny (model PySem.Challenge.rw_bq0028_01.row.prog w) A (call (.builtin "next") [.ref it]) Q E s := by
  rw [← kv_length ks] at hi
  refine kdk_next F N U hi ha hp (k := k) (x := .none) (by simp [kv, hx]) fun h' o' key hkey F' N' hi' => ?_
  obtain ⟨t, rfl⟩ := PySem.Value.isInt_shape hkey
  rw [kv_length] at hi'
  exact h h' o' t F' N' hi'
/-- the walk's own iter -/
theorem iter_I (F : Fr h₀ L s.heap m) (N : News h₀ L s.heap news) (hp : (d, o) ∈ news) (ho : o.IsDictOf (IK w) (kv ks)) (lo : (d == sysModules) = false)
    (h : ∀ (I : Addr) h' oI ep, Fr h₀ L h' m → News h₀ L h' ((I, oI) :: news) → (∀ p ∈ news, p.1 < I) → KdkIter oI d 0 ks.length ep → KdkAt (IK w) o (kv ks) ep → Q (.ref I) { s with heap := h' }) :
    wpAny (model PySem.Challenge.rw_bq0028_01.row.prog w) A (call (.builtin "iter") [.ref d]) Q E s :=
  kdk_iter F N hp ho lo fun I h' oI ep F' N' l hi ha => h I h' oI ep F' N' l (by rw [kv_length] at hi; exact hi) ha
end

theorem allLt_ne {d : Addr} : ∀ {l : List (Addr × Obj)}, AllLt d l → ∀ p ∈ l, p.1 ≠ d
  | [], _, _, hp => nomatch hp
  | _ :: _, h, p, hp => by
    rcases List.mem_cons.mp hp with rfl | hp
    · exact Nat.ne_of_lt h.1
    · exact allLt_ne h.2 p hp

local macro_rules | `(tactic| walk_at "getMethod ref") => `(tactic| (k_here; k_dflt (first
  | ((with_reducible show wpAny _ _ (getMethod (Value.ref _) (Str.ofString "__contains__") _) _ _ _); refine kob_method (knd := IK _) PySem.F.slot_dict_contains PySem.F.type_dict_contains (by k_asm) (by k_mem) (by k_asm) ?_)
  | ((with_reducible show wpAny _ _ (getMethod (Value.ref _) (Str.ofString "popitem") _) _ _ _); refine kob_method (knd := IK _) PySem.F.slot_dict_popitem PySem.F.type_dict_popitem (by k_asm) (by k_mem) (by k_asm) ?_)
  | ((with_reducible show wpAny _ _ (getMethod (Value.ref _) (Str.ofString "pop") _) _ _ _); refine kob_method (knd := IK _) PySem.F.slot_dict_pop PySem.F.type_dict_pop (by k_asm) (by k_mem) (by k_asm) ?_)
  | ((with_reducible show wpAny _ _ (getMethod (Value.ref _) (Str.ofString "clear") _) _ _ _); refine kob_method (knd := IK _) PySem.F.slot_dict_clear PySem.F.type_dict_clear (by k_asm) (by k_mem) (by k_asm) ?_)
  | ((with_reducible show wpAny _ _ (getMethod (Value.ref _) (Str.ofString "copy") _) _ _ _); refine kob_method (knd := IK _) PySem.F.slot_dict_copy PySem.F.type_dict_copy (by k_asm) (by k_mem) (by k_asm) ?_)
  | ((with_reducible show wpAny _ _ (getMethod (Value.ref _) (Str.ofString "keys") _) _ _ _); refine kob_method (knd := IK _) PySem.F.slot_dict_keys PySem.F.type_dict_keys (by k_asm) (by k_mem) (by k_asm) ?_))))
local macro_rules | `(tactic| walk_at "call builtin:dict.__contains__") => `(tactic| (k_here; k_dflt (refine contains_I (by k_asm) (by k_mem) (by k_asm) (by k_asm) ?_)))
local macro_rules | `(tactic| walk_at "call builtin:len") => `(tactic| (k_here; (with_reducible show wpAny _ _ (call (Value.builtin "len") [Value.ref _]) _ _ _); k_dflt (refine' len_I ?N ?p ?d ?l ?z ?_; (case N => k_asm); (case p => k_mem); (case d => k_asm); (case l => k_asm); (case z => first | k_asm | omega))))
local macro_rules | `(tactic| walk_at "call builtin:dict.pop") => `(tactic| (k_here; k_dflt (refine' pop_I ?F ?N ?U ?d ?l ?z ?_; (case F => k_asm); (case N => k_asm); (case U => k_updF); (case d => k_asm); (case l => k_asm); (case z => first | k_asm | omega)); intro h' o' F' N' hd'; (try dsimp only at N')))
local macro_rules | `(tactic| walk_at "call builtin:dict.popitem") => `(tactic| (k_here; k_dflt (refine' popitem_I ?F ?N ?U ?d ?l ?z ?_; (case F => k_asm); (case N => k_asm); (case U => k_updF); (case d => k_asm); (case l => k_asm); (case z => first | k_asm | omega)); intro D' h' o' t' F' N' l1 hd'; (try dsimp only at N' l1); (try k_lt l1)))
local macro_rules | `(tactic| walk_at "call builtin:dict.clear") => `(tactic| (k_here; k_dflt (refine' clear_I ?F ?N ?U ?d ?z ?_; (case F => k_asm); (case N => k_asm); (case U => k_updF); (case d => k_asm); (case z => first | k_asm | omega)); intro h' o' F' N' hd'; (try dsimp only at N')))
local macro_rules | `(tactic| walk_at "call builtin:dict.copy") => `(tactic| (k_here; k_dflt (refine copy_I (by k_asm) (by k_asm) (by k_mem) (by k_asm) (by k_asm) (by first | k_asm | omega) ?_); intro D' h' o' F' N' l1 hd'; (try k_lt l1)))
local macro_rules | `(tactic| walk_at "delItem ref int") => `(tactic| (k_here; k_dflt (refine' del_I ?F ?N ?U ?d ?mm ?z ?_; (case F => k_asm); (case N => k_asm); (case U => k_updF); (case d => k_asm); (case mm => k_asm); (case z => first | k_asm | omega)); intro h' o' F' N' hd'; (try dsimp only at N')))
local macro_rules | `(tactic| walk_at "delItem ref int") => `(tactic| (k_here; k_dflt (refine' del_I_none (by rfl) ?N ?p ?d ?l ?mm ?_; (case N => k_asm); (case p => k_mem); (case d => k_asm); (case l => k_asm); (case mm => k_asm)); intro h' tk' e' x'))
local macro_rules | `(tactic| walk_at "call builtin:object.__new__") => `(tactic| (k_here; k_dflt (refine' objNew_I ?F ?X ?N ?mm ?i ?_; (case F => k_asm); (case X => exact Frag.In.keeps (by k_asm) (Fr.keep (by k_asm))); (case N => k_asm); (case mm => k_is); (case i => k_is)); intro x' dx' h' F' N' l1 l2; (try k_lt l1); (try k_lt2 l2)))
local macro_rules | `(tactic| walk_at "call type:reversed") => `(tactic| (k_here; k_dflt (refine reversed_I (by k_asm) (by k_asm) (by k_mem) (by k_asm) (by k_asm) ?_); intro D' h' o' ep' F' N' l1 hi' ha'; (try k_lt l1)))
local macro_rules | `(tactic| walk_at "call builtin:iter") => `(tactic| (k_here; k_dflt (refine iter_I (by k_asm) (by k_asm) (by k_mem) (by k_asm) (by k_asm) ?_); intro D' h' o' ep' F' N' l1 hi' ha'; (try k_lt l1)))
local macro_rules | `(tactic| k_all) => `(tactic| exact allLt_ne (by assumption))

-- part Leaf
/-! the contracts of the class's plain methods -/
theorem not_modules {D : Nat} (h : 1 < D) : (D == sysModules) = false := beq_eq_false_iff_ne.mpr (fun e => by rw [e] at h; exact absurd h (by decide))
section
variable {w : World} {dp un : Nat} {gd : Option (List Code)} {cn : Str} {cs : Scope} {a : Addr} {ccd : Value} {cl : List (Str × Addr)} {outer : List Env} {A₀ : Around} {base h₀ : Heap} {L : Addr} {m : Str → Option Value} {s : Shared}
    {mean : ExcName → Option Value} {mg mb : Str → Option Value} {x dx d : Addr} {ta : Tok} {na : Nat} {o : Obj} {ks : List Int} {rest news : List (Addr × Obj)} {g : Obj → List (Addr × Obj)} {k : Int} {t : Tok} {R : Result → Shared → Prop}
variable (B : Below A₀ base outer h₀) (F : Fr h₀ L s.heap m) (X : (hd.heap_39 w.params).In h₀) (T : Top hd.view_39 (looseW hd.view_39 [Str.ofString "OrderedSet"]) mean mg mb h₀) (hk : cs.kind = .function)
  (hdp : dp + 2 < recursionLimit) (hun : un + 20 < cLine) (N : News h₀ L s.heap news) (mx : (x, instObj 203 dx) ∈ news) (mdx : (dx, dictOf (attrs w ta d) na) ∈ news)
include B F X T hk hdp hun N mx mdx
section
variable (md : (d, o) ∈ news) (ho : o.IsDictOf (IK w) (kv ks)) (lo : (d == sysModules) = false)
include md ho lo
theorem iter_K (h : ∀ h' tk I oI ep, Fr h₀ L h' m → News h₀ L h' ((I, oI) :: news) → (∀ p ∈ news, p.1 < I) → KdkIter oI d 0 ks.length ep → KdkAt (IK w) o (kv ks) ep → R (.ok (.ret (.ref I))) { s with heap := h', toks := tk }) :
    codeAny (model PySem.Challenge.rw_bq0028_01.row.prog w) (ktrTop dp un gd cn cs L a ccd cl outer) (.call (.ref 43) ⟨[.ref x], []⟩) R s := by
  revert X; k_fill; intro X
  k_dflt cell_enter
  k_steps
  exact h _ _ _ _ _ (by k_asm) (by k_asm) (by k_asm) (by k_asm) (by k_asm)
theorem reversed_K (h : ∀ h' tk I oI ep, Fr h₀ L h' m → News h₀ L h' ((I, oI) :: news) → (∀ p ∈ news, p.1 < I) → KdkRev oI d ((ks.length : Int) - 1) ks.length ep → KdkAt (IK w) o (kv ks) ep → R (.ok (.ret (.ref I))) { s with heap := h', toks := tk }) :
    codeAny (model PySem.Challenge.rw_bq0028_01.row.prog w) (ktrTop dp un gd cn cs L a ccd cl outer) (.call (.ref 50) ⟨[.ref x], []⟩) R s := by
  revert X; k_fill; intro X
  k_dflt cell_enter
  k_steps
  exact h _ _ _ _ _ (by k_asm) (by k_asm) (by k_asm) (by k_asm) (by k_asm)
theorem contains_K (h : ∀ h' tk, Fr h₀ L h' m → News h₀ L h' news → R (.ok (.ret (.bool (decide (k ∈ ks))))) { s with heap := h', toks := tk }) :
    codeAny (model PySem.Challenge.rw_bq0028_01.row.prog w) (ktrTop dp un gd cn cs L a ccd cl outer) (.call (.ref 57) ⟨[.ref x, .int k t], []⟩) R s := by
  revert X; k_fill; intro X
  k_dflt cell_enter
  k_steps
  exact h _ _ (by k_asm) (by k_asm)
theorem len_K (hz : ks.length ≤ 1000) (h : ∀ h' tk t, Fr h₀ L h' m → News h₀ L h' news → R (.ok (.ret (.int ks.length t))) { s with heap := h', toks := tk }) :
    codeAny (model PySem.Challenge.rw_bq0028_01.row.prog w) (ktrTop dp un gd cn cs L a ccd cl outer) (.call (.ref 64) ⟨[.ref x], []⟩) R s := by
  revert X; k_fill; intro X
  k_dflt cell_enter
  k_steps
  exact h _ _ _ (by k_asm) (by k_asm)
theorem copy_K (hz : ks.length ≤ 1000) (h : ∀ h' tk x' dx' d' o' ta' na', Fr h₀ L h' m → News h₀ L h' (can w x' dx' d' ta' na' o' news) → (∀ p ∈ news, p.1 < dx') → @LT.lt Nat _ dx' x' → @LT.lt Nat _ x' d' → o'.IsDictOf (IK w) (kv ks) → (d' == sysModules) = false →
      R (.ok (.ret (.ref x'))) { s with heap := h', toks := tk }) :
    codeAny (model PySem.Challenge.rw_bq0028_01.row.prog w) (ktrTop dp un gd cn cs L a ccd cl outer) (.call (.ref 190) ⟨[.ref x], []⟩) R s := by
  have N := canM N mx mdx md
  revert X; k_fill; intro X
  k_dflt cell_enter
  k_steps
  rename x < _ ∧ dx < _ ∧ d < _ ∧ AllLt _ news => q1
  rename _ ∧ _ ∧ x < _ ∧ dx < _ ∧ d < _ ∧ AllLt _ news => q2
  refine' h _ _ _ _ _ _ _ _ ?f (cb_drop ?n ?s) (kst_ltOf q1.2.2.2) ?b ?c ?e ?l
  case f => k_asm
  case n => k_asm
  case s => exact perm_copy
  case b => exact ltN (by omega)
  case c => exact ltN (by omega)
  case e => k_asm
  case l => exact not_modules (ltN (by omega))
end
section
variable (U : UpdF d o news g) (ho : o.IsDictOf (IK w) (kv ks)) (lo : (d == sysModules) = false) (hz : ks.length ≤ 1000)
include U ho lo hz
theorem add_K (h : ∀ h' tk o', Fr h₀ L h' m → News h₀ L h' (g o') → o'.IsDictOf (IK w) (kv (put1 ks k)) → R (.ok (.ret .none)) { s with heap := h', toks := tk }) :
    codeAny (model PySem.Challenge.rw_bq0028_01.row.prog w) (ktrTop dp un gd cn cs L a ccd cl outer) (.call (.ref 92) ⟨[.ref x, .int k t], []⟩) R s := by
  obtain ⟨rest, N, hoff, hx, hdx, _, back⟩ := canon N mx mdx U ho
  revert X; k_fill; intro X
  k_dflt cell_enter
  k_steps
  exact h _ _ _ (by k_asm) (back _ _ _ _ (by k_asm)) (by k_asm)
theorem discard_K (h : ∀ h' tk o', Fr h₀ L h' m → News h₀ L h' (g o') → o'.IsDictOf (IK w) (kv (ks.filter fun x => x != k)) → R (.ok (.ret .none)) { s with heap := h', toks := tk }) :
    codeAny (model PySem.Challenge.rw_bq0028_01.row.prog w) (ktrTop dp un gd cn cs L a ccd cl outer) (.call (.ref 113) ⟨[.ref x, .int k t], []⟩) R s := by
  obtain ⟨rest, N, hoff, hx, hdx, _, back⟩ := canon N mx mdx U ho
  revert X; k_fill; intro X
  k_dflt cell_enter
  k_steps
  exact h _ _ _ (by k_asm) (back _ _ _ _ (by k_asm)) (by k_asm)
theorem clear_K (h : ∀ h' tk o', Fr h₀ L h' m → News h₀ L h' (g o') → o'.IsDictOf (IK w) (kv []) → R (.ok (.ret .none)) { s with heap := h', toks := tk }) :
    codeAny (model PySem.Challenge.rw_bq0028_01.row.prog w) (ktrTop dp un gd cn cs L a ccd cl outer) (.call (.ref 127) ⟨[.ref x], []⟩) R s := by
  obtain ⟨rest, N, hoff, hx, hdx, _, back⟩ := canon N mx mdx U ho
  revert X; k_fill; intro X
  k_dflt cell_enter
  k_steps
  exact h _ _ _ (by k_asm) (back _ _ _ _ (by k_asm)) (by k_asm)
end
theorem pop_K (U : UpdF d o news g) (ho : o.IsDictOf (IK w) (kv (ks ++ [k]))) (lo : (d == sysModules) = false) (hz : ks.length ≤ 1000)
    (h : ∀ h' tk o' t, Fr h₀ L h' m → News h₀ L h' (g o') → o'.IsDictOf (IK w) (kv ks) → R (.ok (.ret (.int k t))) { s with heap := h', toks := tk }) :
    codeAny (model PySem.Challenge.rw_bq0028_01.row.prog w) (ktrTop dp un gd cn cs L a ccd cl outer) (.call (.ref 85) ⟨[.ref x], []⟩) R s := by
  obtain ⟨rest, N, hoff, hx, hdx, _, back⟩ := canon N mx mdx U ho
  revert X; k_fill; intro X
  k_dflt cell_enter
  k_steps
  exact h _ _ _ _ (by k_asm) (back _ _ _ _ (cb_drop (by k_asm) fun p hp => .tail _ hp)) (by k_asm)
end

-- part Own
/-! builtins that call the class's own methods -/
section
variable {w : World} {dp un : Nat} {gd : Option (List Code)} {cn : Str} {cs : Scope} {a : Addr} {ccd : Value} {cl : List (Str × Addr)} {outer : List Env} {A₀ : Around} {base h₀ : Heap} {L : Addr} {m : Str → Option Value} {s : Shared}
    {mean : ExcName → Option Value} {mg mb : Str → Option Value} {x dx d : Addr} {ta : Tok} {na : Nat} {o : Obj} {ks : List Int} {rest news : List (Addr × Obj)} {g : Obj → List (Addr × Obj)} {k : Int} {t : Tok} {R : Result → Shared → Prop} {Q E : Value → Shared → Prop}
variable (B : Below A₀ base outer h₀) (F : Fr h₀ L s.heap m) (X : (hd.heap_39 w.params).In h₀) (T : Top hd.view_39 (looseW hd.view_39 [Str.ofString "OrderedSet"]) mean mg mb h₀) (hk : cs.kind = .function)
  (hdp : dp + 2 < recursionLimit) (hun : un + 30 < cLine) (N : News h₀ L s.heap news) (mx : (x, instObj 203 dx) ∈ news) (mdx : (dx, dictOf (attrs w ta d) na) ∈ news) (md : (d, o) ∈ news) (ho : o.IsDictOf (IK w) (kv ks)) (lo : (d == sysModules) = false)
include B F X T hk hdp hun N mx mdx md ho lo
omit hun in
theorem pyIter_own (hun : un + 25 < cLine) (h : ∀ h' tk I oI ep, Fr h₀ L h' m → News h₀ L h' ((I, oI) :: news) → (∀ p ∈ news, p.1 < I) → KdkIter oI d 0 ks.length ep → KdkAt (IK w) o (kv ks) ep → Q (.ref I) { s with heap := h', toks := tk }) :
    wpAny (model PySem.Challenge.rw_bq0028_01.row.prog w) (ktrTop dp un gd cn cs L a ccd cl outer) (pyIter (.ref x)) Q E s := by
  revert X; k_fill; intro X
  refine owit_iter F X (InstAt.of_news N mx mdx) (f := 43) (by k_is) (by k_is) (wpAny_call (iter_K B F X T hk hdp (by omega) N mx mdx md ho lo ?_))
  intro h' tk I oI ep F' N' hlt hi ha
  unfold OwitIt
  have hit : (⟨h', s.gens, s.drawn, tk, s.os⟩ : Shared).heap.IsKeyIter I d 0 ks.length ep := hi.at (N' _ (.head _)).1
  exact wpAny_specialOf (name := Str.ofString "__next__") hit.typeIs PySem.F.slot_dict_keyiterator_next.lookup (h h' tk I oI ep F' N' hlt hi ha)
theorem iter_own (h : ∀ h' tk I oI ep, Fr h₀ L h' m → News h₀ L h' ((I, oI) :: news) → (∀ p ∈ news, p.1 < I) → KdkIter oI d 0 ks.length ep → KdkAt (IK w) o (kv ks) ep → Q (.ref I) { s with heap := h', toks := tk }) :
    wpAny (model PySem.Challenge.rw_bq0028_01.row.prog w) (ktrTop dp un gd cn cs L a ccd cl outer) (call (.builtin "iter") [.ref x]) Q E s := by
  refine call_function_entry (by decide +kernel) (by decide +kernel) kdk_entry_iter (kdk_args_iter _) ?_
  unfold Builtin.«iter»
  refine wpAny_bind (m := someArgs "iter" 1 2 _) (wpAny_of_eq (a := [Value.ref x]) (by first | rfl | kernel_rfl!) ?_)
  show wpAny _ _ (pyIter (.ref x) >>= _) _ _ _
  refine wpAny_bind (pyIter_own (un := un + 1) B F X T hk hdp N mx mdx md ho lo (by omega) ?_)
  intro h' tk I oI ep F' N' hlt hi ha
  exact wpAny_pure ⟨_, rfl, h h' tk I oI ep F' N' hlt hi ha⟩
theorem rev_own (h : ∀ h' tk I oI ep, Fr h₀ L h' m → News h₀ L h' ((I, oI) :: news) → (∀ p ∈ news, p.1 < I) → KdkRev oI d ((ks.length : Int) - 1) ks.length ep → KdkAt (IK w) o (kv ks) ep → Q (.ref I) { s with heap := h', toks := tk }) :
    wpAny (model PySem.Challenge.rw_bq0028_01.row.prog w) (ktrTop dp un gd cn cs L a ccd cl outer) (call (.type "reversed") [.ref x]) Q E s := by
  revert X; k_fill; intro X
  have X' := X.keeps F.keep
  have I : InstAt s.heap x (instObj 203 dx) 203 (some (dictOf (attrs w ta d) na)) := InstAt.of_news N mx mdx
  have hs : findIn (hd.heap_39 w.params) (.ref 203) "__reversed__" = some (some (.ref 50)) := by k_is
  have hf : isFn (hd.heap_39 w.params) (.ref 50) = true := by k_is
  refine PySem.callType_other (U := "dict_reversekeyiterator") (Q₁ := fun obj s₁ => s₁.TypeIs obj "dict_reversekeyiterator" ∧ Q obj s₁)
    (by decide +kernel) PySem.F.create_reversed ⟨_, _, PySem.F.mro_reversed⟩ PySem.F.made_reversed sub_drk_reversed (PySem.F.typeCall_reversed_1 _)
    (code_rev (f := .ref 50) (g := .ref 50) (first := [.ref x]) (fun Q A' hq => wpAny_bind (I.type.here ((looks_findIn X' hs).here hq))) (fun Q A' hq => (bind_fn X' (.ref x) (beq_iff_eq.mp hf)).here hq) rfl ?_) (fun _ _ h => h)
  refine wpAny_call (reversed_K (un := un + 2) B F X T hk hdp (by omega) N mx mdx md ho lo ?_)
  intro h' tk I oI ep F' N' hlt hi ha
  exact ⟨(hi.at (N' _ (.head _)).1).typeIs (s := ⟨h', s.gens, s.drawn, tk, s.os⟩), h h' tk I oI ep F' N' hlt hi ha⟩
end
local macro_rules | `(tactic| walk_at "call builtin:iter") => `(tactic| (k_here; k_dflt (refine' iter_own ?B ?F ?X ?T ?k ?hd ?hu ?N ?mx ?mdx ?md ?ho ?lo ?_; (case B => k_asm); (case F => k_asm); (case X => k_asm); (case T => k_asm); (case k => first | exact rfl | assumption); (case N => k_asm); (case mx => k_mem); (case mdx => k_mem); (case md => k_mem); (case ho => k_asm); (case lo => k_asm); (case hd => ktr_room); (case hu => ktr_units)); intro h' tk' I' o' ep' F' N' l1 hi' ha'; (try k_lt l1)))
local macro_rules | `(tactic| walk_at "call type:reversed") => `(tactic| (k_here; k_dflt (refine' rev_own ?B ?F ?X ?T ?k ?hd ?hu ?N ?mx ?mdx ?md ?ho ?lo ?_; (case B => k_asm); (case F => k_asm); (case X => k_asm); (case T => k_asm); (case k => first | exact rfl | assumption); (case N => k_asm); (case mx => k_mem); (case mdx => k_mem); (case md => k_mem); (case ho => k_asm); (case lo => k_asm); (case hd => ktr_room); (case hu => ktr_units)); intro h' tk' I' o' ep' F' N' l1 hi' ha'; (try k_lt l1)))
local macro_rules | `(tactic| walk_at "call builtin:next") => `(tactic| (k_here; k_dflt (first
  | (refine' next_I ?F ?N ?U ?i ?a ?p ?x ?_; (case F => k_asm); (case N => k_asm); (case U => k_updF); (case i => k_asm); (case a => k_asm); (case p => k_mem); (case x => first | k_asm | rfl); intro h' o' t' F' N' hi')
  | (refine' revnext_I ?F ?N ?U ?i ?a ?p ?j ?x ?_; (case F => k_asm); (case N => k_asm); (case U => k_updF); (case i => k_asm); (case a => k_asm); (case p => k_mem); (case j => k_asm); (case x => first | k_asm | rfl); intro h' o' t' F' N' hi')); (try dsimp only at N')))
section
variable {w : World} {dp un : Nat} {gd : Option (List Code)} {cn : Str} {cs : Scope} {a : Addr} {ccd : Value} {cl : List (Str × Addr)} {outer : List Env} {A₀ : Around} {base h₀ : Heap} {L : Addr} {m : Str → Option Value} {s : Shared}
    {mean : ExcName → Option Value} {mg mb : Str → Option Value} {x dx d : Addr} {ta : Tok} {na : Nat} {o : Obj} {ks : List Int} {rest news : List (Addr × Obj)} {g : Obj → List (Addr × Obj)} {k : Int} {t : Tok} {R : Result → Shared → Prop} {Q E : Value → Shared → Prop}
variable (B : Below A₀ base outer h₀) (F : Fr h₀ L s.heap m) (X : (hd.heap_39 w.params).In h₀) (T : Top hd.view_39 (looseW hd.view_39 [Str.ofString "OrderedSet"]) mean mg mb h₀) (hk : cs.kind = .function)
  (hdp : dp + 4 < recursionLimit) (hun : un + 50 < cLine) (N : News h₀ L s.heap news) (mx : (x, instObj 203 dx) ∈ news) (mdx : (dx, dictOf (attrs w ta d) na) ∈ news) (md : (d, o) ∈ news) (ho : o.IsDictOf (IK w) (kv ks)) (lo : (d == sysModules) = false)
include B F X T hk hdp hun N mx mdx md ho lo
theorem first_K (hx0 : ks[0]? = some k) (h : ∀ h' tk t, Fr h₀ L h' m → News h₀ L h' news → R (.ok (.ret (.int k t))) { s with heap := h', toks := tk }) :
    codeAny (model PySem.Challenge.rw_bq0028_01.row.prog w) (ktrTop dp un gd cn cs L a ccd cl outer) (.call (.ref 71) ⟨[.ref x], []⟩) R s := by
  have N := canM N mx mdx md
  revert X; k_fill; intro X
  k_dflt cell_enter
  k_steps
  exact h _ _ _ (by k_asm) (cb_drop (by k_asm) fun p hp => .tail _ (drop3 p hp))
theorem last_K {i : Nat} (hl : ((ks.length : Int) - 1) = (i : Int)) (hx0 : ks[i]? = some k) (h : ∀ h' tk t, Fr h₀ L h' m → News h₀ L h' news → R (.ok (.ret (.int k t))) { s with heap := h', toks := tk }) :
    codeAny (model PySem.Challenge.rw_bq0028_01.row.prog w) (ktrTop dp un gd cn cs L a ccd cl outer) (.call (.ref 78) ⟨[.ref x], []⟩) R s := by
  have N := canM N mx mdx md
  revert X; k_fill; intro X
  k_dflt cell_enter
  k_steps
  exact h _ _ _ (by k_asm) (cb_drop (by k_asm) fun p hp => .tail _ (drop3 p hp))
end

-- part Loops
/-! loops that change one ordered set's dict -/
def TurnD (h₀ : Heap) (L : Addr) (m₀ : Str → Option Value) (y : Str) (w : World) (x dx d : Addr) (ta : Tok) (na : Nat) (ks : List Int) (rest : List (Addr × Obj)) (s₁ : Shared) (f : Flow) (s₂ : Shared) : Prop :=
  match f with
  | .ret _ => False
  | .brk => False
  | _ => ∃ h' tk m' o', s₂ = { s₁ with heap := h', toks := tk } ∧ Fr h₀ L h' m' ∧ News h₀ L h' (can w x dx d ta na o' rest) ∧ o'.IsDictOf (IK w) (kv ks) ∧ ∀ z, z ≠ y → m' z = m₀ z
theorem TurnD.mk {h₀ : Heap} {L : Addr} {m₀ m' : Str → Option Value} {y : Str} {w : World} {x dx d : Addr} {ta : Tok} {na : Nat} {ks : List Int} {rest : List (Addr × Obj)} {s₁ : Shared} {h' : Heap} {tk : Nat} {o' : Obj}
    (F : Fr h₀ L h' m') (N : News h₀ L h' (can w x dx d ta na o' rest)) (ho : o'.IsDictOf (IK w) (kv ks)) (hm : ∀ z, z ≠ y → m' z = m₀ z) : TurnD h₀ L m₀ y w x dx d ta na ks rest s₁ .next { s₁ with heap := h', toks := tk } :=
  ⟨h', tk, m', o', rfl, F, N, ho, hm⟩
theorem frame_at {h₀ h : Heap} {L : Addr} {m₀ m₁ : Str → Option Value} {y : Str} {v : Value} (F : Fr h₀ L h (fun z => if z = y then some v else m₁ z)) (hm : ∀ z, z ≠ y → m₁ z = m₀ z) : Fr h₀ L h (fun z => if z = y then some v else m₀ z) := by
  have e : (fun z => if z = y then some v else m₁ z) = fun z => if z = y then some v else m₀ z := by
    funext z
    by_cases h : z = y
    · simp [h]
    · simp only [if_neg h]; exact hm z h
  rw [← e]; exact F
theorem frame_out {h₀ h : Heap} {L : Addr} {m₀ m₁ : Str → Option Value} {y : Str} (F : Fr h₀ L h m₁) (hm : ∀ z, z ≠ y → m₁ z = m₀ z) : Fr h₀ L h (fun z => if z = y then m₁ z else m₀ z) := by
  have e : (fun z => if z = y then m₁ z else m₀ z) = m₁ := by
    funext z
    by_cases h : z = y
    · simp [h]
    · simp only [if_neg h]; exact (hm z h).symm
  rw [e]; exact F
theorem foldl_take_succ {α β : Type} (f : β → α → β) (b : β) : ∀ (l : List α) (i : Nat) {a : α}, l[i]? = some a → (l.take (i + 1)).foldl f b = f ((l.take i).foldl f b) a := by
  intro l i a h
  rw [List.take_add_one, h]; simp

section
variable {w : World} {A : Around} {E : Value → Shared → Prop} {s : Shared} {env : Env} {h₀ : Heap} {y : Str} {body : List Stmt} {Q : Flow → Shared → Prop} {x dx d I src : Addr} {ta : Tok} {na : Nat} {o : Obj} {ks ns : List Int} {rest : List (Addr × Obj)}
  {P : Nat → Value → Prop} {St : Nat → Heap → Prop} {m₀ : Str → Option Value}
theorem loop_upd (W : Walks PySem.Challenge.rw_bq0028_01.row.prog w A I [I, src] [I] ns.length P St) (hP : ∀ i v, P i v → ∃ k t, ns[i]? = some k ∧ v = .int k t)
    (hLI : env.locals ≠ I) (hLs : env.locals ≠ src) (hI : h₀.get? I = none) (hId : I ≠ d) (hsd : src ≠ d) (hr : ∀ p ∈ rest, p.1 ≠ I) (hxI : x ≠ I) (hdxI : dx ≠ I)
    (st : St 0 s.heap) (F : Fr h₀ env.locals s.heap m₀) (N : News h₀ env.locals s.heap (can w x dx d ta na o rest)) (ho : o.IsDictOf (IK w) (kv ks)) (hoff : OwnOff rest [d]) (f : List Int → Int → List Int)
    (turn : ∀ i k t o' h tk own, ns[i]? = some k → OwnOff (rest ++ own) [d] → o'.IsDictOf (IK w) (kv ((ns.take i).foldl f ks)) → Fr h₀ env.locals h (fun z => if z = y then some (.int k t) else m₀ z) → News h₀ env.locals h (can w x dx d ta na o' (rest ++ own)) →
      wpAny (model PySem.Challenge.rw_bq0028_01.row.prog w) A (execs body env) (TurnD h₀ env.locals m₀ y w x dx d ta na (f ((ns.take i).foldl f ks) k) (rest ++ own) { s with heap := h, toks := tk }) E { s with heap := h, toks := tk })
    (done : ∀ (u : Str → Option Value) o' h tk, o'.IsDictOf (IK w) (kv (ns.foldl f ks)) → Fr h₀ env.locals h (fun z => if z = y then u z else m₀ z) → News h₀ env.locals h (can w x dx d ta na o' rest) → Q .next { s with heap := h, toks := tk }) :
    LoopAtV PySem.Challenge.rw_bq0028_01.row.prog w A h₀ env y body Q E (.ref I) s := by
  have nI : ∀ o' : Obj, ∀ p ∈ can w x dx d ta na o' rest, p.1 ∉ [I] := by
    intro o' p hp
    rw [List.mem_singleton]
    rcases List.mem_cons.mp hp with rfl | hp
    · exact hxI
    rcases List.mem_cons.mp hp with rfl | hp
    · exact hdxI
    rcases List.mem_cons.mp hp with rfl | hp
    · exact hId.symm
    exact hr p hp
  refine ⟨I, [I, src], [I], ns.length, P, St, m₀, can w x dx d ta na o rest,
    (fun i m₁ news₁ => ∃ o', news₁ = can w x dx d ta na o' rest ∧ o'.IsDictOf (IK w) (kv ((ns.take i).foldl f ks)) ∧ ∀ z, z ≠ y → m₁ z = m₀ z), rfl, W, ?_, ?_, nI o, st, F, N, ⟨o, rfl, by simpa using ho, fun _ _ => rfl⟩, ?_, ?_⟩
  · intro hm
    rcases List.mem_cons.mp hm with e | hm
    · exact hLI e
    · exact hLs (List.mem_singleton.mp hm)
  · intro b hb
    rw [List.mem_singleton.mp hb]; exact hI
  · rintro i v m₁ news₁ s₁ own ⟨hh, tk, rfl⟩ hi hv ⟨o', rfl, ho', hm⟩ _ hown _ _ _ F₁ N₁
    obtain ⟨k, t, hk, rfl⟩ := hP i v hv
    have hoff' : OwnOff (rest ++ own) [d] := by
      intro p hp b hb
      rw [List.mem_singleton.mp hb]
      rcases List.mem_append.mp hp with hp | hp
      · exact hoff p hp d (.head _)
      · rcases List.mem_cons.mp (hown p hp) with e | e
        · rw [e]; exact hId
        · rw [List.mem_singleton.mp e]; exact hsd
    have N₂ : News h₀ env.locals hh (can w x dx d ta na o' (rest ++ own)) := by
      intro p hp
      refine N₁ p ?_
      rcases List.mem_cons.mp hp with rfl | hp
      · exact List.mem_append_right _ (.head _)
      rcases List.mem_cons.mp hp with rfl | hp
      · exact List.mem_append_right _ (.tail _ (.head _))
      rcases List.mem_cons.mp hp with rfl | hp
      · exact List.mem_append_right _ (.tail _ (.tail _ (.head _)))
      rcases List.mem_append.mp hp with hp | hp
      · exact List.mem_append_right _ (.tail _ (.tail _ (.tail _ hp)))
      · exact List.mem_append_left _ hp
    refine wpAny_mono (turn i k t o' hh tk own hk hoff' ho' (frame_at F₁ hm) N₂) (fun fl s₂ p => ?_) fun _ _ e => e
    have fin : (∃ h' tk' m' o', s₂ = { s with heap := h', toks := tk' } ∧ Fr h₀ env.locals h' m' ∧ News h₀ env.locals h' (can w x dx d ta na o' (rest ++ own)) ∧ o'.IsDictOf (IK w) (kv (f ((ns.take i).foldl f ks) k)) ∧ ∀ z, z ≠ y → m' z = m₀ z) →
        LoopStepU h₀ env.locals [I] own (fun m₁ news₁ => ∃ o', news₁ = can w x dx d ta na o' rest ∧ o'.IsDictOf (IK w) (kv ((ns.take (i + 1)).foldl f ks)) ∧ ∀ z, z ≠ y → m₁ z = m₀ z) { s with heap := hh, toks := tk } .next s₂ := by
      rintro ⟨h', tk', m', o'', rfl, F', N', ho'', hm'⟩
      refine ⟨rfl, h', tk', m', can w x dx d ta na o'' rest, rfl, F', ?_, nI o'', o'', rfl, ?_, hm'⟩
      · intro p hp
        refine N' p ?_
        rcases List.mem_append.mp hp with hp | hp
        · exact .tail _ (.tail _ (.tail _ (List.mem_append_right _ hp)))
        rcases List.mem_cons.mp hp with rfl | hp
        · exact .head _
        rcases List.mem_cons.mp hp with rfl | hp
        · exact .tail _ (.head _)
        rcases List.mem_cons.mp hp with rfl | hp
        · exact .tail _ (.tail _ (.head _))
        exact .tail _ (.tail _ (.tail _ (List.mem_append_left _ hp)))
      · rw [foldl_take_succ f ks ns i hk]; exact ho''
    cases fl with
    | ret v => exact p.elim
    | brk => exact p.elim
    | next => exact .next (fin p)
    | cont => exact .cont (fin p)
  · rintro h' tk m' news' F' N' _ ⟨o', rfl, ho', hm⟩
    rw [List.take_length] at ho'
    exact done m' o' h' tk ho' (frame_out F' hm) N'
end
section
variable {w : World} {A : Around} {E : Value → Shared → Prop} {s : Shared} {env : Env} {h₀ : Heap} {y : Str} {body : List Stmt} {Q : Flow → Shared → Prop} {x dx d l : Addr} {ta : Tok} {na : Nat} {o lo : Obj} {ks ns : List Int} {vs : List Value} {nl : Nat} {rest : List (Addr × Obj)} {m₀ : Str → Option Value}
theorem pyIter_listD (f : List Int → Int → List Int) (hh : A.handled = none) (F : Fr h₀ env.locals s.heap m₀) (N : News h₀ env.locals s.heap (can w x dx d ta na o rest)) (ml : (l, lo) ∈ rest) (hc : lo.cls = .type "list") (hdat : lo.data = .seq vs.toArray nl) (hi : IntsAre vs ns)
    (ho : o.IsDictOf (IK w) (kv ks)) (hoff : OwnOff rest [d])
    (turn : ∀ i k t o' h tk own, ns[i]? = some k → OwnOff (rest ++ own) [d] → o'.IsDictOf (IK w) (kv ((ns.take i).foldl f ks)) → Fr h₀ env.locals h (fun z => if z = y then some (.int k t) else m₀ z) → News h₀ env.locals h (can w x dx d ta na o' (rest ++ own)) →
      wpAny (model PySem.Challenge.rw_bq0028_01.row.prog w) A (execs body env) (TurnD h₀ env.locals m₀ y w x dx d ta na (f ((ns.take i).foldl f ks) k) (rest ++ own) { s with heap := h, toks := tk }) E { s with heap := h, toks := tk })
    (done : ∀ (u : Str → Option Value) o' h tk, o'.IsDictOf (IK w) (kv (ns.foldl f ks)) → Fr h₀ env.locals h (fun z => if z = y then u z else m₀ z) → News h₀ env.locals h (can w x dx d ta na o' rest) → Q .next { s with heap := h, toks := tk }) :
    wpAny (model PySem.Challenge.rw_bq0028_01.row.prog w) A (pyIter (.ref l)) (fun it s₂ => LoopAtV PySem.Challenge.rw_bq0028_01.row.prog w A h₀ env y body Q E it s₂) E s := by
  have hml := N (l, lo) (drop3 _ ml)
  have hls : s.heap.IsList l vs.toArray := ⟨lo, hml.1, hc, nl, hdat⟩
  have hlt : l < s.heap.objs.size := Heap.lt_size hml.1
  refine wpAny_pyIter_list hls ?_
  have W := Walks.list (prog := PySem.Challenge.rw_bq0028_01.row.prog) (w := w) hh s.heap.objs.size l (Nat.ne_of_lt hlt) vs.toArray
  have hlen : vs.toArray.size = ns.length := by simp [hi.length]
  rw [hlen] at W
  have lts : ∀ p ∈ can w x dx d ta na o rest, p.1 ≠ s.heap.objs.size := fun p hp => Nat.ne_of_lt (Heap.lt_size (N p hp).1)
  refine loop_upd W (fun i v hv => ?_) (Nat.ne_of_lt F.ns.lt) (Ne.symm hml.2.1) (next_is_new F) (Ne.symm (lts _ (.tail _ (.tail _ (.head _))))) (hoff _ ml d (.head _)) (fun p hp => lts p (drop3 p hp)) (lts _ (.head _)) (lts _ (.tail _ (.head _)))
    ⟨⟨_, Heap.get?_push_size _ rfl, rfl, rfl⟩, hls.at fun o e => Heap.get?_push_of_some _ e⟩ (F.push _) (fun p hp => ⟨Heap.get?_push_of_some _ (N p hp).1, (N p hp).2⟩) ho hoff f turn done
  have hv' : vs[i]? = some v := by simpa using hv
  have hlt' : i < ns.length := by
    rw [← hi.length]
    exact (List.getElem?_eq_some_iff.mp hv').1
  obtain ⟨t, hx⟩ := hi.get i ns[i] (by simp [hlt'])
  rw [hx] at hv'
  exact ⟨ns[i], t, by simp [hlt'], (Option.some.inj hv').symm⟩
end
section
variable {w : World} {dp un : Nat} {gd : Option (List Code)} {cn : Str} {cs : Scope} {a : Addr} {ccd : Value} {cl : List (Str × Addr)} {outer : List Env} {A₀ : Around} {base h₀ : Heap} {L : Addr} {s : Shared}
    {mean : ExcName → Option Value} {mg mb : Str → Option Value} {E : Value → Shared → Prop} {y : Str} {body : List Stmt} {Q : Flow → Shared → Prop} {x dx d x2 dx2 d2 : Addr} {ta ta2 : Tok} {na na2 : Nat} {o o2 : Obj} {ks ns : List Int} {rest : List (Addr × Obj)} {m₀ : Str → Option Value}
theorem pyIter_ownD (f : List Int → Int → List Int) (B : Below A₀ base outer h₀) (F : Fr h₀ L s.heap m₀) (X : (hd.heap_39 w.params).In h₀) (T : Top hd.view_39 (looseW hd.view_39 [Str.ofString "OrderedSet"]) mean mg mb h₀) (hk : cs.kind = .function)
    (hdp : dp + 2 < recursionLimit) (hun : un + 25 < cLine) (N : News h₀ L s.heap (can w x dx d ta na o rest)) (mx : (x2, instObj 203 dx2) ∈ rest) (mdx : (dx2, dictOf (attrs w ta2 d2) na2) ∈ rest) (md : (d2, o2) ∈ rest) (ho2 : o2.IsDictOf (IK w) (kv ns)) (lo2 : (d2 == sysModules) = false)
    (ho : o.IsDictOf (IK w) (kv ks)) (hoff : OwnOff rest [d])
    (turn : ∀ i k t o' h tk own, ns[i]? = some k → OwnOff (rest ++ own) [d] → o'.IsDictOf (IK w) (kv ((ns.take i).foldl f ks)) → Fr h₀ L h (fun z => if z = y then some (.int k t) else m₀ z) → News h₀ L h (can w x dx d ta na o' (rest ++ own)) →
      wpAny (model PySem.Challenge.rw_bq0028_01.row.prog w) (ktrTop dp un gd cn cs L a ccd cl outer) (execs body (envX cn cs L a ccd cl)) (TurnD h₀ L m₀ y w x dx d ta na (f ((ns.take i).foldl f ks) k) (rest ++ own) { s with heap := h, toks := tk }) E { s with heap := h, toks := tk })
    (done : ∀ (u : Str → Option Value) o' h tk, o'.IsDictOf (IK w) (kv (ns.foldl f ks)) → Fr h₀ L h (fun z => if z = y then u z else m₀ z) → News h₀ L h (can w x dx d ta na o' rest) → Q .next { s with heap := h, toks := tk }) :
    wpAny (model PySem.Challenge.rw_bq0028_01.row.prog w) (ktrTop dp un gd cn cs L a ccd cl outer) (pyIter (.ref x2)) (fun it s₂ => LoopAtV PySem.Challenge.rw_bq0028_01.row.prog w (ktrTop dp un gd cn cs L a ccd cl outer) h₀ (envX cn cs L a ccd cl) y body Q E it s₂) E s := by
  refine pyIter_own B F X T hk hdp N (drop3 _ mx) (drop3 _ mdx) (drop3 _ md) ho2 lo2 hun ?_
  intro h' tk I oI ep F' N' hlt hi' ha
  have hI := N' _ (.head _)
  have hd2 := N' (d2, o2) (.tail _ (drop3 _ md))
  have W := Walks.dictKeys (prog := PySem.Challenge.rw_bq0028_01.row.prog) (w := w) (knd := IK w) (A := ktrTop dp un gd cn cs L a ccd cl outer) rfl I d2 (Nat.ne_of_lt (hlt _ (drop3 _ md))) (kv ns) ep
  rw [kv_length] at W
  have lts : ∀ p ∈ can w x dx d ta na o rest, p.1 ≠ I := fun p hp => Nat.ne_of_lt (hlt p hp)
  refine loop_upd W (fun i v hv => ?_) (Ne.symm hI.2.1) (Ne.symm hd2.2.1) hI.2.2 (Ne.symm (lts _ (.tail _ (.tail _ (.head _))))) (hoff _ md d (.head _)) (fun p hp => lts p (drop3 p hp)) (lts _ (.head _)) (lts _ (.tail _ (.head _)))
    ⟨hi'.at hI.1, ha.dictAt hd2.1⟩ F' (fun p hp => N' p (.tail _ hp)) ho hoff f turn done
  obtain ⟨k, x', hx', hkey⟩ := hv
  obtain ⟨t, rfl⟩ := PySem.Value.isInt_shape hkey
  refine ⟨k, t, ?_, rfl⟩
  rw [kv, List.getElem?_map] at hx'
  cases hq : ns[i]? with
  | none => rw [hq] at hx'; cases hx'
  | some q => rw [hq] at hx'; simp only [Option.map_some, Option.some.injEq, Prod.mk.injEq] at hx'; rw [hx'.1]
end

-- part Many
theorem put1_length (ks : List Int) (k : Int) : (put1 ks k).length ≤ ks.length + 1 := by
  unfold put1
  split
  · omega
  · simp
theorem foldl_put1_length : ∀ (l ks : List Int), (l.foldl put1 ks).length ≤ ks.length + l.length
  | [], ks => by simp
  | k :: l, ks => by
    have := foldl_put1_length l (put1 ks k)
    have h := put1_length ks k
    simp only [List.foldl_cons, List.length_cons]; omega
def drop1 (ks : List Int) (k : Int) : List Int := ks.filter fun x => x != k
theorem drop1_length (ks : List Int) (k : Int) : (drop1 ks k).length ≤ ks.length := List.length_filter_le ..
theorem foldl_drop1_length : ∀ (l ks : List Int), (l.foldl drop1 ks).length ≤ ks.length
  | [], ks => by simp
  | k :: l, ks => by
    have := foldl_drop1_length l (drop1 ks k)
    have h := drop1_length ks k
    simp only [List.foldl_cons]; omega
local macro_rules | `(tactic| walk_at "exec For Name Name cons nil") => `(tactic| (k_here; (rename Fr _ _ _ _ => lF'); (with_unfolding_all refine' For_invVF lF' ?k1 ?k2 ?_; (case k1 => exact rfl); (case k2 => exact rfl); k_whole)))
section
variable {w : World} {dp un : Nat} {gd : Option (List Code)} {cn : Str} {cs : Scope} {a : Addr} {ccd : Value} {cl : List (Str × Addr)} {outer : List Env} {A₀ : Around} {base h₀ : Heap} {L : Addr} {m : Str → Option Value} {s : Shared}
    {mean : ExcName → Option Value} {mg mb : Str → Option Value} {x dx d : Addr} {ta : Tok} {na : Nat} {o : Obj} {ks ns : List Int} {rest news : List (Addr × Obj)} {g : Obj → List (Addr × Obj)} {k : Int} {t : Tok} {R : Result → Shared → Prop}
variable (B : Below A₀ base outer h₀) (F : Fr h₀ L s.heap m) (X : (hd.heap_39 w.params).In h₀) (T : Top hd.view_39 (looseW hd.view_39 [Str.ofString "OrderedSet"]) mean mg mb h₀) (hk : cs.kind = .function)
  (hdp : dp + 4 < recursionLimit) (hun : un + 50 < cLine) (N : News h₀ L s.heap news) (mx : (x, instObj 203 dx) ∈ news) (mdx : (dx, dictOf (attrs w ta d) na) ∈ news)
  (U : UpdF d o news g) (ho : o.IsDictOf (IK w) (kv ks)) (lo : (d == sysModules) = false) (hz : ks.length + ns.length ≤ 1000)
include B F X T hk hdp hun N mx mdx U ho lo hz
section
variable {l : Addr} {lo' : Obj} {vs : List Value} {nl : Nat} (ml : (l, lo') ∈ news) (hc : lo'.cls = .type "list") (hdat : lo'.data = .seq vs.toArray nl) (hi : IntsAre vs ns)
include ml hc hdat hi
theorem addmany_K (h : ∀ h' tk o', Fr h₀ L h' m → News h₀ L h' (g o') → o'.IsDictOf (IK w) (kv (ns.foldl put1 ks)) → R (.ok (.ret .none)) { s with heap := h', toks := tk }) :
    codeAny (model PySem.Challenge.rw_bq0028_01.row.prog w) (ktrTop dp un gd cn cs L a ccd cl outer) (.call (.ref 99) ⟨[.ref x, .ref l], []⟩) R s := by
  have hne := list_ne N ml hc (upd_mem U) ho
  obtain ⟨rest, N, hoff, hx, hdx, hin, back⟩ := canon N mx mdx U ho
  have ml' := hin _ ml hne
  revert X; k_fill; intro X
  k_dflt cell_enter
  k_steps
  refine' pyIter_listD put1 (by rfl) ?F ?N ml' hc hdat hi ho hoff ?turn ?done
  case F => k_asm
  case N => k_asm
  case turn =>
    intro i k t o' h' tk own hk' hoff' ho' F' N'
    have hz' : ((ns.take i).foldl put1 ks).length ≤ 1000 := by
      have := foldl_put1_length (ns.take i) ks
      have h2 : (ns.take i).length ≤ ns.length := List.length_take_le' ..
      omega
    k_steps
    exact TurnD.mk (by k_asm) (by k_asm) (by k_asm) (by intro z hz; simp [hz])
  case done =>
    intro u o' h' tk ho' F' N'
    k_steps
    exact h _ _ _ (by k_asm) (back _ _ _ _ (by k_asm)) (by k_asm)
theorem dropmany_K (h : ∀ h' tk o', Fr h₀ L h' m → News h₀ L h' (g o') → o'.IsDictOf (IK w) (kv (ns.foldl drop1 ks)) → R (.ok (.ret .none)) { s with heap := h', toks := tk }) :
    codeAny (model PySem.Challenge.rw_bq0028_01.row.prog w) (ktrTop dp un gd cn cs L a ccd cl outer) (.call (.ref 120) ⟨[.ref x, .ref l], []⟩) R s := by
  have hne := list_ne N ml hc (upd_mem U) ho
  obtain ⟨rest, N, hoff, hx, hdx, hin, back⟩ := canon N mx mdx U ho
  have ml' := hin _ ml hne
  revert X; k_fill; intro X
  k_dflt cell_enter
  k_steps
  refine' pyIter_listD drop1 (by rfl) ?F ?N ml' hc hdat hi ho hoff ?turn ?done
  case F => k_asm
  case N => k_asm
  case turn =>
    intro i k t o' h' tk own hk' hoff' ho' F' N'
    have hz' : ((ns.take i).foldl drop1 ks).length ≤ 1000 := by
      have := foldl_drop1_length (ns.take i) ks
      have h2 : (ns.take i).length ≤ ns.length := List.length_take_le' ..
      omega
    k_steps
    exact TurnD.mk (by k_asm) (by k_asm) (by k_asm) (by intro z hz; simp [hz])
  case done =>
    intro u o' h' tk ho' F' N'
    k_steps
    exact h _ _ _ (by k_asm) (back _ _ _ _ (by k_asm)) (by k_asm)
theorem update_K (h : ∀ h' tk o', Fr h₀ L h' m → News h₀ L h' (g o') → o'.IsDictOf (IK w) (kv (ns.foldl put1 ks)) → R (.ok (.ret .none)) { s with heap := h', toks := tk }) :
    codeAny (model PySem.Challenge.rw_bq0028_01.row.prog w) (ktrTop dp un gd cn cs L a ccd cl outer) (.call (.ref 141) ⟨[.ref x, .ref l], []⟩) R s := by
  have hne := list_ne N ml hc (upd_mem U) ho
  obtain ⟨rest, N, hoff, hx, hdx, hin, back⟩ := canon N mx mdx U ho
  have ml' := hin _ ml hne
  revert X; k_fill; intro X
  k_dflt cell_enter
  k_steps
  refine' pyIter_listD put1 (by rfl) ?F ?N ml' hc hdat hi ho hoff ?turn ?done
  case F => k_asm
  case N => k_asm
  case turn =>
    intro i k t o' h' tk own hk' hoff' ho' F' N'
    have hz' : ((ns.take i).foldl put1 ks).length ≤ 1000 := by
      have := foldl_put1_length (ns.take i) ks
      have h2 : (ns.take i).length ≤ ns.length := List.length_take_le' ..
      omega
    k_steps
    exact TurnD.mk (by k_asm) (by k_asm) (by k_asm) (by intro z hz; simp [hz])
  case done =>
    intro u o' h' tk ho' F' N'
    k_steps
    exact h _ _ _ (by k_asm) (back _ _ _ _ (by k_asm)) (by k_asm)
end
section
variable {x2 dx2 d2 : Addr} {ta2 : Tok} {na2 : Nat} {o2 : Obj} (mx2 : (x2, instObj 203 dx2) ∈ news) (mdx2 : (dx2, dictOf (attrs w ta2 d2) na2) ∈ news) (md2 : (d2, o2) ∈ news) (ho2 : o2.IsDictOf (IK w) (kv ns)) (lo2 : (d2 == sysModules) = false) (hdd : d2 ≠ d)
include mx2 mdx2 md2 ho2 lo2 hdd
theorem update_own_K (h : ∀ h' tk o', Fr h₀ L h' m → News h₀ L h' (g o') → o'.IsDictOf (IK w) (kv (ns.foldl put1 ks)) → R (.ok (.ret .none)) { s with heap := h', toks := tk }) :
    codeAny (model PySem.Challenge.rw_bq0028_01.row.prog w) (ktrTop dp un gd cn cs L a ccd cl outer) (.call (.ref 141) ⟨[.ref x, .ref x2], []⟩) R s := by
  have n1 := inst_ne N mx2 (upd_mem U) ho
  have n2 := attr_ne N mdx2 (upd_mem U) ho
  obtain ⟨rest, N, hoff, hx, hdx, hin, back⟩ := canon N mx mdx U ho
  have mx2' := hin _ mx2 n1
  have mdx2' := hin _ mdx2 n2
  have md2' := hin _ md2 hdd
  revert X; k_fill; intro X
  k_dflt cell_enter
  k_steps
  refine' pyIter_ownD put1 ?B ?F ?X ?T rfl ?hd ?hu ?N mx2' mdx2' md2' ho2 lo2 ho hoff ?turn ?done
  case B => k_asm
  case F => k_asm
  case X => k_asm
  case T => k_asm
  case N => k_asm
  case hd => ktr_room
  case hu => ktr_units
  case turn =>
    intro i k t o' h' tk own hk' hoff' ho' F' N'
    have hz' : ((ns.take i).foldl put1 ks).length ≤ 1000 := by
      have := foldl_put1_length (ns.take i) ks
      have h2 : (ns.take i).length ≤ ns.length := List.length_take_le' ..
      omega
    k_steps
    exact TurnD.mk (by k_asm) (by k_asm) (by k_asm) (by intro z hz; simp [hz])
  case done =>
    intro u o' h' tk ho' F' N'
    k_steps
    exact h _ _ _ (by k_asm) (back _ _ _ _ (by k_asm)) (by k_asm)
theorem dropmany_own_K (h : ∀ h' tk o', Fr h₀ L h' m → News h₀ L h' (g o') → o'.IsDictOf (IK w) (kv (ns.foldl drop1 ks)) → R (.ok (.ret .none)) { s with heap := h', toks := tk }) :
    codeAny (model PySem.Challenge.rw_bq0028_01.row.prog w) (ktrTop dp un gd cn cs L a ccd cl outer) (.call (.ref 120) ⟨[.ref x, .ref x2], []⟩) R s := by
  have n1 := inst_ne N mx2 (upd_mem U) ho
  have n2 := attr_ne N mdx2 (upd_mem U) ho
  obtain ⟨rest, N, hoff, hx, hdx, hin, back⟩ := canon N mx mdx U ho
  have mx2' := hin _ mx2 n1
  have mdx2' := hin _ mdx2 n2
  have md2' := hin _ md2 hdd
  revert X; k_fill; intro X
  k_dflt cell_enter
  k_steps
  refine' pyIter_ownD drop1 ?B ?F ?X ?T rfl ?hd ?hu ?N mx2' mdx2' md2' ho2 lo2 ho hoff ?turn ?done
  case B => k_asm
  case F => k_asm
  case X => k_asm
  case T => k_asm
  case N => k_asm
  case hd => ktr_room
  case hu => ktr_units
  case turn =>
    intro i k t o' h' tk own hk' hoff' ho' F' N'
    have hz' : ((ns.take i).foldl drop1 ks).length ≤ 1000 := by
      have := foldl_drop1_length (ns.take i) ks
      have h2 : (ns.take i).length ≤ ns.length := List.length_take_le' ..
      omega
    k_steps
    exact TurnD.mk (by k_asm) (by k_asm) (by k_asm) (by intro z hz; simp [hz])
  case done =>
    intro u o' h' tk ho' F' N'
    k_steps
    exact h _ _ _ (by k_asm) (back _ _ _ _ (by k_asm)) (by k_asm)
end
end

-- part Ops
/-! the operators -/
theorem allLt_ne2 {c d : Addr} {l : List (Addr × Obj)} (h : AllLt c l) (hcd : @LE.le Nat _ c d) : ∀ p ∈ l, p.1 ≠ d := fun p hp => Nat.ne_of_lt (Nat.lt_of_lt_of_le (kst_ltOf h p hp) hcd)
theorem leN {a b : Nat} (h : a ≤ b) : a ≤ b := h
local macro_rules | `(tactic| k_all) => `(tactic| exact allLt_ne2 (by assumption) (leN (by omega)))
local macro_rules | `(tactic| walk_at "call ref") => `(tactic| (k_here; (with_reducible show wpAny _ _ (call (Value.ref 190) _) _ _ _); k_dflt (show wpAny _ _ (call (Value.ref 190) [Value.ref _]) _ _ _); refine wpAny_call ?_; k_dflt (refine' copy_K ?B ?F ?X ?T ?k ?hd ?hu ?N ?mx ?mdx ?md ?ho ?lo ?z ?_; (case B => k_asm); (case F => k_asm); (case X => k_asm); (case T => k_asm); (case k => first | exact rfl | assumption); (case hd => ktr_room); (case hu => ktr_units); (case N => k_asm); (case mx => k_mem); (case mdx => k_mem); (case md => k_mem); (case ho => k_asm); (case lo => k_asm); (case z => first | k_asm | omega)); intro h' tk' x' dx' d' o' ta' na' F' N' l1 l2 l3 ho' lo'; (try k_lt l1); walk_say "COPY"))
local macro_rules | `(tactic| walk_at "call ref") => `(tactic| (k_here; (with_reducible show wpAny _ _ (call (Value.ref 141) [Value.ref _, Value.ref _]) _ _ _); refine wpAny_call ?_; k_dflt (refine' update_own_K ?B ?F ?X ?T ?k ?hd ?hu ?N ?mx ?mdx ?U ?ho ?lo ?z ?mx2 ?mdx2 ?md2 ?ho2 ?lo2 ?dd ?_; (case B => k_asm); (case F => k_asm); (case X => k_asm); (case T => k_asm); (case k => first | exact rfl | assumption); (case hd => ktr_room); (case hu => ktr_units); (case N => k_asm); (case mx => k_mem); (case mdx => k_mem); (case mx2 => k_mem); (case mdx2 => k_mem); (case md2 => k_mem); (case U => k_updF); (case ho => k_asm); (case lo => k_asm); (case ho2 => k_asm); (case lo2 => k_asm); (case z => first | k_asm | omega); (case dd => first | k_asm | (apply Ne.symm; k_asm) | k_ne)); intro h' tk' o' F' N' ho'; (try dsimp only at N'); walk_say "UPDATE OWN"))
local macro_rules | `(tactic| walk_at "call ref") => `(tactic| (k_here; (with_reducible show wpAny _ _ (call (Value.ref 120) [Value.ref _, Value.ref _]) _ _ _); refine wpAny_call ?_; k_dflt (refine' dropmany_own_K ?B ?F ?X ?T ?k ?hd ?hu ?N ?mx ?mdx ?U ?ho ?lo ?z ?mx2 ?mdx2 ?md2 ?ho2 ?lo2 ?dd ?_; (case B => k_asm); (case F => k_asm); (case X => k_asm); (case T => k_asm); (case k => first | exact rfl | assumption); (case hd => ktr_room); (case hu => ktr_units); (case N => k_asm); (case mx => k_mem); (case mdx => k_mem); (case mx2 => k_mem); (case mdx2 => k_mem); (case md2 => k_mem); (case U => k_updF); (case ho => k_asm); (case lo => k_asm); (case ho2 => k_asm); (case lo2 => k_asm); (case z => first | k_asm | omega); (case dd => first | k_asm | (apply Ne.symm; k_asm) | k_ne)); intro h' tk' o' F' N' ho'; (try dsimp only at N'); walk_say "DROPMANY OWN"))
section
variable {w : World} {dp un : Nat} {gd : Option (List Code)} {cn : Str} {cs : Scope} {a : Addr} {ccd : Value} {cl : List (Str × Addr)} {outer : List Env} {A₀ : Around} {base h₀ : Heap} {L : Addr} {m : Str → Option Value} {s : Shared}
    {mean : ExcName → Option Value} {mg mb : Str → Option Value} {x dx d x2 dx2 d2 : Addr} {ta ta2 : Tok} {na na2 : Nat} {o o2 : Obj} {ks ns : List Int} {rest news : List (Addr × Obj)} {g : Obj → List (Addr × Obj)} {k : Int} {t : Tok} {R : Result → Shared → Prop}
variable (B : Below A₀ base outer h₀) (F : Fr h₀ L s.heap m) (X : (hd.heap_39 w.params).In h₀) (T : Top hd.view_39 (looseW hd.view_39 [Str.ofString "OrderedSet"]) mean mg mb h₀) (hk : cs.kind = .function)
  (hdp : dp + 6 < recursionLimit) (hun : un + 80 < cLine) (N : News h₀ L s.heap news) (mx : (x, instObj 203 dx) ∈ news) (mdx : (dx, dictOf (attrs w ta d) na) ∈ news)
  (ho : o.IsDictOf (IK w) (kv ks)) (lo : (d == sysModules) = false) (hz : ks.length + ns.length ≤ 1000)
  (mx2 : (x2, instObj 203 dx2) ∈ news) (mdx2 : (dx2, dictOf (attrs w ta2 d2) na2) ∈ news) (md2 : (d2, o2) ∈ news) (ho2 : o2.IsDictOf (IK w) (kv ns)) (lo2 : (d2 == sysModules) = false)
include B F X T hk hdp hun N mx mdx ho lo hz mx2 mdx2 md2 ho2 lo2
theorem ior_K (U : UpdF d o news g) (hdd : d2 ≠ d) (h : ∀ h' tk o', Fr h₀ L h' m → News h₀ L h' (g o') → o'.IsDictOf (IK w) (kv (ns.foldl put1 ks)) → R (.ok (.ret (.ref x))) { s with heap := h', toks := tk }) :
    codeAny (model PySem.Challenge.rw_bq0028_01.row.prog w) (ktrTop dp un gd cn cs L a ccd cl outer) (.call (.ref 155) ⟨[.ref x, .ref x2], []⟩) R s := by
  have n1 := inst_ne N mx2 (upd_mem U) ho
  have n2 := attr_ne N mdx2 (upd_mem U) ho
  obtain ⟨rest, N, hoff, hx, hdx, hin, back⟩ := canon N mx mdx U ho
  have N : News h₀ L s.heap (can w x dx d ta na o (can w x2 dx2 d2 ta2 na2 o2 rest)) := ins3 N (hin _ mx2 n1) (hin _ mdx2 n2) (hin _ md2 hdd)
  revert X; k_fill; intro X
  k_dflt cell_enter
  k_steps
  exact h _ _ _ (by k_asm) (back _ _ _ _ (cb_drop (by k_asm) del3)) (by k_asm)
theorem isub_K (U : UpdF d o news g) (hdd : d2 ≠ d) (h : ∀ h' tk o', Fr h₀ L h' m → News h₀ L h' (g o') → o'.IsDictOf (IK w) (kv (ns.foldl drop1 ks)) → R (.ok (.ret (.ref x))) { s with heap := h', toks := tk }) :
    codeAny (model PySem.Challenge.rw_bq0028_01.row.prog w) (ktrTop dp un gd cn cs L a ccd cl outer) (.call (.ref 176) ⟨[.ref x, .ref x2], []⟩) R s := by
  have n1 := inst_ne N mx2 (upd_mem U) ho
  have n2 := attr_ne N mdx2 (upd_mem U) ho
  obtain ⟨rest, N, hoff, hx, hdx, hin, back⟩ := canon N mx mdx U ho
  have N : News h₀ L s.heap (can w x dx d ta na o (can w x2 dx2 d2 ta2 na2 o2 rest)) := ins3 N (hin _ mx2 n1) (hin _ mdx2 n2) (hin _ md2 hdd)
  revert X; k_fill; intro X
  k_dflt cell_enter
  k_steps
  exact h _ _ _ (by k_asm) (back _ _ _ _ (cb_drop (by k_asm) del3)) (by k_asm)
theorem or_K (md : (d, o) ∈ news) (h : ∀ h' tk x' dx' d' o' ta' na', Fr h₀ L h' m → News h₀ L h' (can w x' dx' d' ta' na' o' news) → (∀ p ∈ news, p.1 < dx') → @LT.lt Nat _ dx' x' → @LT.lt Nat _ x' d' → o'.IsDictOf (IK w) (kv (ns.foldl put1 ks)) → (d' == sysModules) = false →
      R (.ok (.ret (.ref x'))) { s with heap := h', toks := tk }) :
    codeAny (model PySem.Challenge.rw_bq0028_01.row.prog w) (ktrTop dp un gd cn cs L a ccd cl outer) (.call (.ref 162) ⟨[.ref x, .ref x2], []⟩) R s := by
  have N := canM (canM N mx2 mdx2 md2) (drop3 _ mx) (drop3 _ mdx) (drop3 _ md)
  revert X; k_fill; intro X
  k_dflt cell_enter
  k_steps
  rename x < _ ∧ _ => q1
  refine' h _ _ _ _ _ _ _ _ ?f (cb_drop ?n ?s) (kst_ltOf q1.2.2.2.2.2.2) ?b ?c ?e ?l
  case f => k_asm
  case n => k_asm
  case s => exact perm_or
  case b => exact ltN (by omega)
  case c => exact ltN (by omega)
  case e => k_asm
  case l => k_asm
theorem sub_K (md : (d, o) ∈ news) (h : ∀ h' tk x' dx' d' o' ta' na', Fr h₀ L h' m → News h₀ L h' (can w x' dx' d' ta' na' o' news) → (∀ p ∈ news, p.1 < dx') → @LT.lt Nat _ dx' x' → @LT.lt Nat _ x' d' → o'.IsDictOf (IK w) (kv (ns.foldl drop1 ks)) → (d' == sysModules) = false →
      R (.ok (.ret (.ref x'))) { s with heap := h', toks := tk }) :
    codeAny (model PySem.Challenge.rw_bq0028_01.row.prog w) (ktrTop dp un gd cn cs L a ccd cl outer) (.call (.ref 183) ⟨[.ref x, .ref x2], []⟩) R s := by
  have N := canM (canM N mx2 mdx2 md2) (drop3 _ mx) (drop3 _ mdx) (drop3 _ md)
  revert X; k_fill; intro X
  k_dflt cell_enter
  k_steps
  rename x < _ ∧ _ => q1
  refine' h _ _ _ _ _ _ _ _ ?f (cb_drop ?n ?s) (kst_ltOf q1.2.2.2.2.2.2) ?b ?c ?e ?l
  case f => k_asm
  case n => k_asm
  case s => exact perm_or
  case b => exact ltN (by omega)
  case c => exact ltN (by omega)
  case e => k_asm
  case l => k_asm
theorem difference_K (md : (d, o) ∈ news) (h : ∀ h' tk x' dx' d' o' ta' na', Fr h₀ L h' m → News h₀ L h' (can w x' dx' d' ta' na' o' news) → (∀ p ∈ news, p.1 < dx') → @LT.lt Nat _ dx' x' → @LT.lt Nat _ x' d' → o'.IsDictOf (IK w) (kv (ns.foldl drop1 ks)) → (d' == sysModules) = false →
      R (.ok (.ret (.ref x'))) { s with heap := h', toks := tk }) :
    codeAny (model PySem.Challenge.rw_bq0028_01.row.prog w) (ktrTop dp un gd cn cs L a ccd cl outer) (.call (.ref 134) ⟨[.ref x, .ref x2], []⟩) R s := by
  have N := canM (canM N mx2 mdx2 md2) (drop3 _ mx) (drop3 _ mdx) (drop3 _ md)
  revert X; k_fill; intro X
  k_dflt cell_enter
  k_steps
  rename x < _ ∧ _ => q1
  refine' h _ _ _ _ _ _ _ _ ?f (cb_drop ?n ?s) (kst_ltOf q1.2.2.2.2.2.2) ?b ?c ?e ?l
  case f => k_asm
  case n => k_asm
  case s => exact perm_or
  case b => exact ltN (by omega)
  case c => exact ltN (by omega)
  case e => k_asm
  case l => k_asm
end

-- part Ops2
theorem hits_kv {A : Around} {s : Shared} (kb : List Int) : ∀ ka : List Int, KeqHits A s (kv kb) (kv ka) (ka.all fun k => decide (k ∈ kb))
  | [] => .nil
  | k :: r => by
    by_cases hm : k ∈ kb
    · have := KeqHits.hit (A := A) (s := s) (kb := kv kb) (k := k) (v := .none) (y := .none) (e := true) (by rw [valueAt_kv, if_pos hm]) (keq_flat (d := .none) (e := .none) (fun _ => Reads.none) (fun _ => Reads.none)) (hits_kv kb r)
      simpa [hm] using this
    · have := KeqHits.miss (A := A) (s := s) (kb := kv kb) (k := k) (v := .none) (r := kv r) (by rw [valueAt_kv, if_neg hm])
      simpa [hm] using this
local macro_rules | `(tactic| walk_at "call ref") => `(tactic| (k_here; (with_reducible show wpAny _ _ (call (Value.ref 162) [Value.ref _, Value.ref _]) _ _ _); refine wpAny_call ?_; k_dflt (refine' or_K ?B ?F ?X ?T ?k ?hd ?hu ?N ?mx ?mdx ?ho ?lo ?z ?mx2 ?mdx2 ?md2 ?ho2 ?lo2 ?md ?_; (case B => k_asm); (case F => k_asm); (case X => k_asm); (case T => k_asm); (case k => first | exact rfl | assumption); (case hd => ktr_room); (case hu => ktr_units); (case N => k_asm); (case mx => k_mem); (case mdx => k_mem); (case md => k_mem); (case mx2 => k_mem); (case mdx2 => k_mem); (case md2 => k_mem); (case ho => k_asm); (case lo => k_asm); (case ho2 => k_asm); (case lo2 => k_asm); (case z => first | k_asm | omega)); intro h' tk' x' dx' d' o' ta' na' F' N' l1 l2 l3 ho' lo'; (try k_lt l1); (try dsimp only [PySem.W.InitBack, PySem.W.CmpBack, PySem.W.LenBack, PySem.W.StrBack, PySem.W.BoolBack]); (try refine ⟨rfl, ?_⟩); (try dsimp only [PySem.W.CmpBack, PySem.W.LenBack, PySem.W.StrBack, PySem.W.BoolBack]); walk_say "OR"))
local macro_rules | `(tactic| walk_at "call ref") => `(tactic| (k_here; (with_reducible show wpAny _ _ (call (Value.ref 183) [Value.ref _, Value.ref _]) _ _ _); refine wpAny_call ?_; k_dflt (refine' sub_K ?B ?F ?X ?T ?k ?hd ?hu ?N ?mx ?mdx ?ho ?lo ?z ?mx2 ?mdx2 ?md2 ?ho2 ?lo2 ?md ?_; (case B => k_asm); (case F => k_asm); (case X => k_asm); (case T => k_asm); (case k => first | exact rfl | assumption); (case hd => ktr_room); (case hu => ktr_units); (case N => k_asm); (case mx => k_mem); (case mdx => k_mem); (case md => k_mem); (case mx2 => k_mem); (case mdx2 => k_mem); (case md2 => k_mem); (case ho => k_asm); (case lo => k_asm); (case ho2 => k_asm); (case lo2 => k_asm); (case z => first | k_asm | omega)); intro h' tk' x' dx' d' o' ta' na' F' N' l1 l2 l3 ho' lo'; (try k_lt l1); (try dsimp only [PySem.W.InitBack, PySem.W.CmpBack, PySem.W.LenBack, PySem.W.StrBack, PySem.W.BoolBack]); (try refine ⟨rfl, ?_⟩); (try dsimp only [PySem.W.CmpBack, PySem.W.LenBack, PySem.W.StrBack, PySem.W.BoolBack]); walk_say "SUB"))
local macro_rules | `(tactic| walk_at "call ref") => `(tactic| (k_here; (with_reducible show wpAny _ _ (call (Value.ref 134) [Value.ref _, Value.ref _]) _ _ _); refine wpAny_call ?_; k_dflt (refine' difference_K ?B ?F ?X ?T ?k ?hd ?hu ?N ?mx ?mdx ?ho ?lo ?z ?mx2 ?mdx2 ?md2 ?ho2 ?lo2 ?md ?_; (case B => k_asm); (case F => k_asm); (case X => k_asm); (case T => k_asm); (case k => first | exact rfl | assumption); (case hd => ktr_room); (case hu => ktr_units); (case N => k_asm); (case mx => k_mem); (case mdx => k_mem); (case md => k_mem); (case mx2 => k_mem); (case mdx2 => k_mem); (case md2 => k_mem); (case ho => k_asm); (case lo => k_asm); (case ho2 => k_asm); (case lo2 => k_asm); (case z => first | k_asm | omega)); intro h' tk' x' dx' d' o' ta' na' F' N' l1 l2 l3 ho' lo'; (try k_lt l1); (try dsimp only [PySem.W.InitBack, PySem.W.CmpBack, PySem.W.LenBack, PySem.W.StrBack, PySem.W.BoolBack]); (try refine ⟨rfl, ?_⟩); (try dsimp only [PySem.W.CmpBack, PySem.W.LenBack, PySem.W.StrBack, PySem.W.BoolBack]); walk_say "DIFFERENCE"))
local macro_rules | `(tactic| walk_at "call ref") => `(tactic| (k_here; (with_reducible show wpAny _ _ (call (Value.ref 155) [Value.ref _, Value.ref _]) _ _ _); refine wpAny_call ?_; k_dflt (refine' ior_K ?B ?F ?X ?T ?k ?hd ?hu ?N ?mx ?mdx ?ho ?lo ?z ?mx2 ?mdx2 ?md2 ?ho2 ?lo2 ?U ?dd ?_; (case B => k_asm); (case F => k_asm); (case X => k_asm); (case T => k_asm); (case k => first | exact rfl | assumption); (case hd => ktr_room); (case hu => ktr_units); (case N => k_asm); (case mx => k_mem); (case mdx => k_mem); (case mx2 => k_mem); (case mdx2 => k_mem); (case md2 => k_mem); (case U => k_updF); (case ho => k_asm); (case lo => k_asm); (case ho2 => k_asm); (case lo2 => k_asm); (case z => first | k_asm | omega); (case dd => first | k_asm | (apply Ne.symm; k_asm) | k_ne)); intro h' tk' o' F' N' ho'; (try dsimp only at N'); (try dsimp only [PySem.W.InitBack, PySem.W.CmpBack, PySem.W.LenBack, PySem.W.StrBack, PySem.W.BoolBack]); (try refine ⟨rfl, ?_⟩); (try dsimp only [PySem.W.CmpBack, PySem.W.LenBack, PySem.W.StrBack, PySem.W.BoolBack]); walk_say "IOR"))
local macro_rules | `(tactic| walk_at "call ref") => `(tactic| (k_here; (with_reducible show wpAny _ _ (call (Value.ref 176) [Value.ref _, Value.ref _]) _ _ _); refine wpAny_call ?_; k_dflt (refine' isub_K ?B ?F ?X ?T ?k ?hd ?hu ?N ?mx ?mdx ?ho ?lo ?z ?mx2 ?mdx2 ?md2 ?ho2 ?lo2 ?U ?dd ?_; (case B => k_asm); (case F => k_asm); (case X => k_asm); (case T => k_asm); (case k => first | exact rfl | assumption); (case hd => ktr_room); (case hu => ktr_units); (case N => k_asm); (case mx => k_mem); (case mdx => k_mem); (case mx2 => k_mem); (case mdx2 => k_mem); (case md2 => k_mem); (case U => k_updF); (case ho => k_asm); (case lo => k_asm); (case ho2 => k_asm); (case lo2 => k_asm); (case z => first | k_asm | omega); (case dd => first | k_asm | (apply Ne.symm; k_asm) | k_ne)); intro h' tk' o' F' N' ho'; (try dsimp only at N'); (try dsimp only [PySem.W.InitBack, PySem.W.CmpBack, PySem.W.LenBack, PySem.W.StrBack, PySem.W.BoolBack]); (try refine ⟨rfl, ?_⟩); (try dsimp only [PySem.W.CmpBack, PySem.W.LenBack, PySem.W.StrBack, PySem.W.BoolBack]); walk_say "ISUB"))
section
variable {w : World} {dp un : Nat} {gd : Option (List Code)} {cn : Str} {cs : Scope} {a : Addr} {ccd : Value} {cl : List (Str × Addr)} {outer : List Env} {A₀ : Around} {base h₀ : Heap} {L : Addr} {m : Str → Option Value} {s : Shared}
    {mean : ExcName → Option Value} {mg mb : Str → Option Value} {x dx d x2 dx2 d2 : Addr} {ta ta2 : Tok} {na na2 : Nat} {o o2 : Obj} {ks ns : List Int} {rest news : List (Addr × Obj)} {g : Obj → List (Addr × Obj)} {k : Int} {t : Tok} {R : Result → Shared → Prop}
variable (B : Below A₀ base outer h₀) (F : Fr h₀ L s.heap m) (X : (hd.heap_39 w.params).In h₀) (T : Top hd.view_39 (looseW hd.view_39 [Str.ofString "OrderedSet"]) mean mg mb h₀) (hk : cs.kind = .function)
  (hdp : dp + 8 < recursionLimit) (hun : un + 100 < cLine) (N : News h₀ L s.heap news) (mx : (x, instObj 203 dx) ∈ news) (mdx : (dx, dictOf (attrs w ta d) na) ∈ news) (md : (d, o) ∈ news)
  (ho : o.IsDictOf (IK w) (kv ks)) (lo : (d == sysModules) = false) (hz : ks.length + ns.length ≤ 1000)
  (mx2 : (x2, instObj 203 dx2) ∈ news) (mdx2 : (dx2, dictOf (attrs w ta2 d2) na2) ∈ news) (md2 : (d2, o2) ∈ news) (ho2 : o2.IsDictOf (IK w) (kv ns)) (lo2 : (d2 == sysModules) = false)
include B F X T hk hdp hun N mx mdx ho lo hz mx2 mdx2 md2 ho2 lo2 md
theorem union_K (h : ∀ h' tk x' dx' d' o' ta' na', Fr h₀ L h' m → News h₀ L h' (can w x' dx' d' ta' na' o' news) → (∀ p ∈ news, p.1 < dx') → @LT.lt Nat _ dx' x' → @LT.lt Nat _ x' d' → o'.IsDictOf (IK w) (kv (ns.foldl put1 ks)) → (d' == sysModules) = false →
      R (.ok (.ret (.ref x'))) { s with heap := h', toks := tk }) :
    codeAny (model PySem.Challenge.rw_bq0028_01.row.prog w) (ktrTop dp un gd cn cs L a ccd cl outer) (.call (.ref 148) ⟨[.ref x, .ref x2], []⟩) R s := by
  have N := canM (canM N mx2 mdx2 md2) (drop3 _ mx) (drop3 _ mdx) (drop3 _ md)
  revert X; k_fill; intro X
  k_dflt cell_enter
  k_steps
  rename x < _ ∧ _ => q1
  refine' h _ _ _ _ _ _ _ _ ?f (cb_drop ?n ?s) (kst_ltOf q1.2.2.2.2.2.2) ?b ?c ?e ?l
  case f => k_asm
  case n => k_asm
  case s => exact perm_or
  case b => exact ltN (by omega)
  case c => exact ltN (by omega)
  case e => k_asm
  case l => k_asm
theorem eq_K (h : ∀ h' tk, Fr h₀ L h' m → News h₀ L h' news → R (.ok (.ret (.bool (ks.length == ns.length && ks.all fun k => decide (k ∈ ns))))) { s with heap := h', toks := tk }) :
    codeAny (model PySem.Challenge.rw_bq0028_01.row.prog w) (ktrTop dp un gd cn cs L a ccd cl outer) (.call (.ref 169) ⟨[.ref x, .ref x2], []⟩) R s := by
  have N := canM (canM N mx2 mdx2 md2) (drop3 _ mx) (drop3 _ mdx) (drop3 _ md)
  revert X; k_fill; intro X
  k_dflt cell_enter
  k_steps
  refine' keq_eq lo lo2 (kda_dict ?n ?m1 ho) (kda_dict ?n2 ?m2 ho2) ?u (fun _ => hits_kv ns ks) ?_
  case n => k_asm
  case m1 => k_mem
  case n2 => k_asm
  case m2 => k_mem
  case u => ktr_units
  rw [kv_length, kv_length]
  k_steps
  exact h _ _ (by k_asm) (cb_drop (by k_asm) fun p hp => drop3 _ (drop3 p hp))
end

-- part FromKeys
/-! dict() and dict.fromkeys -/
theorem typeCall_dict_0 : checkTypeCall "dict" ⟨[], []⟩ = pure () := by kernel_rfl
theorem newCall_dict_0 : checkBuiltinCall "dict.__new__" ⟨[.type "dict"], []⟩ = pure () := by kernel_rfl
theorem entry_fk : entryFor table "dict.fromkeys" = some Builtin.«dict.fromkeys» := entryFor_of_tree (by kernel_rfl)
theorem entry_fkl : entryFor table "dict.fromkeys.loop" = some Builtin.«dict.fromkeys.loop» := entryFor_of_tree (by kernel_rfl)
theorem plain_fkl : plainId "dict.fromkeys.loop" = true := by decide +kernel
theorem plain_fk : plainId "dict.fromkeys" = true := by decide +kernel
theorem quiet_fk {as : Args} : (Code.builtin "dict.fromkeys" as).quiet = true := Code.quiet_builtin _ (by decide +kernel)
theorem type_fk : typeOf (.builtin "dict.fromkeys") = pure (.type "classmethod_descriptor") := by show builtinType _ = _; rw [builtinType_eq_fast]; kernel_rfl
theorem type_dict : isType (.type "dict") = pure true := by first | rfl | kernel_rfl | (unfold isType; rw [isSubtype_type]; kernel_rfl)
theorem sub_dict_dict : isSubtype (.type "dict") (.type "dict") = pure true := by rw [isSubtype_type]; kernel_rfl
theorem owner_fk : (kfb_private% "ownerAndName") "dict.fromkeys" = ("dict", "fromkeys") := by first | decide +kernel | kernel_rfl
theorem check_fk (v : Value) : checkBoundCall "dict.fromkeys" ⟨[.type "dict", v], []⟩ = pure () := by first | kernel_rfl | rfl
def fkBound : Obj := { cls := .type "builtin_function_or_method", data := .fields #[.builtin "dict.fromkeys", .type "dict"] }

section
variable {prog : Program} {w : World} {A : Around} {E : Value → Shared → Prop} {s : Shared}
theorem code_dict_new0 {Q₁ : Value → Shared → Prop} (h : Q₁ (.ref s.heap.objs.size) { s with heap := s.heap.push { cls := .type "dict", data := .dict #[] } }) :
    codeAny (model prog w) A (.call (.builtin "dict.__new__") ⟨[.type "dict"], []⟩) (wants Q₁ E) s := by
  refine codeAny_call_builtin PySem.F.kt_plain_dict_new PySem.F.kt_entry_dict_new (wpAny_of_eq newCall_dict_0 ?_)
  have hsub := PySem.F.kt_sub_dict
  have hmro := PySem.F.kt_mro_dict
  obtain ⟨hp, g, d, tk, os⟩ := s
  unfold Builtin.«dict.__new__»
  wp_walk
  exact h
theorem call_dict0 {Q : Value → Shared → Prop} (h : Q (.ref s.heap.objs.size) { s with heap := s.heap.push { cls := .type "dict", data := .dict #[] } }) :
    wpAny (model prog w) A (call (.type "dict") []) Q E s := by
  refine callType_codes (Q₁ := fun obj s₁ => obj = .ref s.heap.objs.size ∧ s₁ = { s with heap := s.heap.push { cls := .type "dict", data := .dict #[] } }) PySem.F.kt_called_dict typeCall_dict_0 PySem.F.entry_dict_init (code_dict_new0 ⟨rfl, rfl⟩) ?_
  rintro obj s₁ ⟨rfl, rfl⟩
  have hT : (⟨s.heap.push { cls := .type "dict", data := .dict #[] }, s.gens, s.drawn, s.toks, s.os⟩ : Shared).TypeIs (.ref s.heap.objs.size) "dict" := ⟨_, Heap.get?_push_size _ rfl, rfl⟩
  refine ⟨hT, PySem.F.args_dict_init_1 _, ?_⟩
  unfold Builtin.«dict.__init__»
  refine wpAny_bind ?_
  unfold Builtin.Dict.selfAndRest
  refine wpAny_bind (wpAny_notOrdered_dict hT ?_)
  show wpAny _ _ (pure (s.heap.objs.size, ([] : List Value))) _ _ _
  refine wpAny_pure ?_
  show wpAny _ _ (Builtin.Dict.addKeywords s.heap.objs.size [] >>= _) _ _ _
  exact wpAny_bind (wpAny_pure (wpAny_pure ⟨rfl, h⟩))
end

section
variable {w : World} {A : Around} {E : Value → Shared → Prop} {I D : Addr} {fp : List Addr} {ns : List Int} {P : Nat → Value → Prop} {St : Nat → Heap → Prop} {R : Result → Shared → Prop}
theorem fromkeys_loop (W : Walks PySem.Challenge.rw_bq0028_01.row.prog w A.in1 I fp [I] ns.length P St) (hP : ∀ i v, P i v → ∃ k t, ns[i]? = some k ∧ v = .int k t) (hDf : D ∉ fp) (hDI : D ≠ I) (hz : ns.length ≤ 1000) :
    ∀ (j i : Nat) (s : Shared), ns.length - i = j → i ≤ ns.length → St i s.heap → s.heap.DictOf (IK w) D (kv ((ns.take i).foldl put1 [])) →
      (∀ h' tk, h'.DictOf (IK w) D (kv (ns.foldl put1 [])) → (∀ b o, b ≠ D → b ≠ I → s.heap.get? b = some o → h'.get? b = some o) → R (.ok (.ret (.ref D))) { s with heap := h', toks := tk }) →
      codeAny (model PySem.Challenge.rw_bq0028_01.row.prog w) A (.builtin "dict.fromkeys.loop" ⟨[.ref D, .ref I, .none], []⟩) R s := by
  intro j
  induction j with
  | zero =>
    intro i s hj hi hst hD hR
    have hin : i = ns.length := by omega
    subst hin
    refine codeAny_builtin entry_fkl ?_
    rw [Around.under_plainId plain_fkl _]
    show wpAny _ A.in1 (pyNext (.ref I) >>= _) _ _ s
    refine wpAny_bind (W.done s _ _ hst fun h' tk hk => ?_)
    rw [List.take_length] at hD
    refine wpAny_pure (hR h' tk ?_ fun b o hb hI e => hk b o (by simpa using hI) e)
    obtain ⟨o, es, ep, ho, r⟩ := hD
    exact ⟨o, es, ep, hk D o (by simpa using hDI) ho, r⟩
  | succ j ih =>
    intro i s hj hi hst hD hR
    have hlt : i < ns.length := by omega
    refine codeAny_builtin entry_fkl ?_
    rw [Around.under_plainId plain_fkl _]
    show wpAny _ A.in1 (pyNext (.ref I) >>= _) _ _ s
    refine wpAny_bind (W.item i s _ _ hlt hst fun v h' tk hv hst' hk => ?_)
    obtain ⟨k, t, hki, rfl⟩ := hP i v hv
    have hD' : h'.DictOf (IK w) D (kv ((ns.take i).foldl put1 [])) := by
      obtain ⟨o, es, ep, ho, r⟩ := hD
      exact ⟨o, es, ep, hk D o (by simpa using hDI) ho, r⟩
    have hT : (⟨h', s.gens, s.drawn, tk, s.os⟩ : Shared).TypeIs (.ref D) "dict" := hD'.typeIs
    refine wpAny_bind (wpAny_typeOf hT ?_)
    rw [if_pos (by decide)]
    have hlen : ((ns.take i).foldl put1 []).length ≤ 1000 := by
      have := foldl_put1_length (ns.take i) []
      have h2 : (ns.take i).length ≤ ns.length := List.length_take_le' ..
      simp only [List.length_nil, Nat.zero_add] at this
      omega
    refine wpAny_bind (wpAny_pure (wpAny_bind (wpAny_holding ?_)))
    refine wpAny_dictSet_pairs (knd := IK w) (hsz := by rw [kv_length, sizeLine_eq]; omega) (intKind_is _ _ k t) hD' fun h'' hD'' hs => ?_
    refine wpAny_pure ⟨plainId_quiet plain_fkl _, ?_⟩
    refine ih (i + 1) ⟨h'', s.gens, s.drawn, tk + 1, s.os⟩ (by omega) hlt (W.frame _ _ _ hst' fun b hb o e => ?_) ?_ fun h3 tk3 hD3 hk3 => ?_
    · exact (hs.2 b (fun q => hDf (q ▸ hb))).trans e
    · rw [foldl_take_succ put1 [] ns i hki, ← stored_kv]
      exact hD''
    · exact hR h3 tk3 hD3 fun b o hb hI e => hk3 b o hb hI ((hs.2 b hb).trans (hk b o (by simpa using hI) e))
end

/-- a source of ints for fromkeys -/
structure FkSrc (w : World) (T : String) (r d : Addr) (ns : List Int) (OK : Heap → Prop) : Prop where
  there : ∀ h : Heap, OK h → d < h.objs.size
  type : ∀ s : Shared, OK s.heap → s.TypeIs (.ref r) T
  keep : ∀ h h' : Heap, OK h → (∀ b o, h.get? b = some o → h'.get? b = some o) → OK h'
  notDict : (Value.type T == Value.type "dict") = false
  notSet : (Value.type T == Value.type "set" || Value.type T == Value.type "frozenset") = false
  iter : ∀ (A : Around) (s : Shared), A.handled = none → OK s.heap → ∃ (oI : Obj) (St : Nat → Heap → Prop) (P : Nat → Value → Prop), oI.isFreed = false ∧
    (∀ (E : Value → Shared → Prop) (Q : Value → Shared → Prop), Q (.ref s.heap.objs.size) { s with heap := s.heap.push oI } → wpAny (model PySem.Challenge.rw_bq0028_01.row.prog w) A (pyIter (.ref r)) Q E s) ∧
    Walks PySem.Challenge.rw_bq0028_01.row.prog w A s.heap.objs.size [s.heap.objs.size, d] [s.heap.objs.size] ns.length P St ∧ (∀ i v, P i v → ∃ k t, ns[i]? = some k ∧ v = .int k t) ∧ St 0 (s.heap.push oI)

section
variable {w : World} {A : Around} {E : Value → Shared → Prop} {s : Shared} {T : String} {r d : Addr} {ns : List Int} {OK : Heap → Prop} {R : Result → Shared → Prop}
theorem tree_fromkeys (K : FkSrc w T r d ns OK) (hh : A.handled = none) (hok : OK s.heap) (hz : ns.length ≤ 1000)
    (hR : ∀ h' tk, h'.DictOf (IK w) s.heap.objs.size (kv (ns.foldl put1 [])) → (∀ b o, s.heap.get? b = some o → h'.get? b = some o) → R (.ok (.ret (.ref s.heap.objs.size))) { s with heap := h', toks := tk }) :
    wpAny (model PySem.Challenge.rw_bq0028_01.row.prog w) A.in1 (Builtin.«dict.fromkeys» ⟨[.type "dict", .ref r], []⟩) (fun fin s' => match fin with | .done f => R (.ok f) s' | .again c' => c'.quiet = true ∧ codeAny (model PySem.Challenge.rw_bq0028_01.row.prog w) A c' R s') (fun e s' => R (.error e) s') s := by
  unfold Builtin.«dict.fromkeys»
  refine wpAny_bind (wpAny_of_eq type_dict ?_)
  refine KFB.if_not rfl ?_
  refine wpAny_bind (wpAny_of_eq sub_dict_dict ?_)
  refine KFB.if_not rfl ?_
  refine KFB.if_not rfl ?_
  refine wpAny_bind (wpAny_rule (wpAny_bind (wpAny_pure ?_)))
  show wpAny _ _ (call (.type "dict") >>= _) _ _ _
  refine wpAny_bind (call_dict0 ?_)
  refine wpAny_holding ?_
  have hok1 : OK (s.heap.push { cls := .type "dict", data := .dict #[] }) := K.keep _ _ hok fun b o e => Heap.get?_push_of_some _ e
  have hT : (⟨s.heap.push { cls := .type "dict", data := .dict #[] }, s.gens, s.drawn, s.toks, s.os⟩ : Shared).TypeIs (.ref s.heap.objs.size) "dict" := ⟨_, Heap.get?_push_size _ rfl, rfl⟩
  refine wpAny_bind (wpAny_typeOf (K.type _ hok1) ?_)
  refine wpAny_bind (wpAny_typeOf hT ?_)
  refine KFB.if_not (by rw [K.notDict]; rfl) ?_
  refine wpAny_bind (wpAny_typeOf hT ?_)
  refine KFB.if_not (by rw [K.notSet]; rfl) ?_
  obtain ⟨oI, St, P, hfr, hit, W, hP, st⟩ := K.iter A.in1 (⟨s.heap.push { cls := .type "dict", data := .dict #[] }, s.gens, s.drawn, s.toks, s.os⟩ : Shared) hh hok1
  have hd0 : s.heap.objs.size ≠ d := Nat.ne_of_gt (K.there _ hok)
  refine wpAny_bind (hit _ _ ?_)
  refine wpAny_pure ⟨plainId_quiet plain_fkl _, ?_⟩
  have hsz : (s.heap.push { cls := .type "dict", data := .dict #[] }).objs.size = s.heap.objs.size + 1 := Heap.size_push ..
  have hDI : s.heap.objs.size ≠ (s.heap.push { cls := .type "dict", data := .dict #[] }).objs.size := by rw [hsz]; exact Nat.ne_of_lt (Nat.lt_succ_self _)
  have hDn : (s.heap.push { cls := .type "dict", data := .dict #[] }).DictOf (IK w) s.heap.objs.size (kv []) := Heap.DictOf.new s.heap
  refine fromkeys_loop W hP (by simp only [List.mem_cons, List.not_mem_nil, or_false, not_or]; exact ⟨hDI, hd0⟩) hDI hz ns.length 0 ⟨(s.heap.push { cls := .type "dict", data := .dict #[] }).push oI, s.gens, s.drawn, s.toks, s.os⟩ (Nat.sub_zero _) (Nat.zero_le _) st ?_ fun h' tk hD hk => ?_
  · obtain ⟨o, es, ep, ho, r⟩ := hDn
    exact ⟨o, es, ep, Heap.get?_push_of_some _ ho, r⟩
  · refine hR h' tk hD fun b o e => hk b o (Nat.ne_of_lt (Heap.lt_size e)) ?_ (Heap.get?_push_of_some _ (Heap.get?_push_of_some _ e))
    rw [hsz]
    exact Nat.ne_of_lt (Nat.lt_succ_of_lt (Heap.lt_size e))
theorem call_fkBound {u : Addr} {Q : Value → Shared → Prop} (ho : s.heap.get? u = some fkBound) (K : FkSrc w T r d ns OK) (hh : A.handled = none) (hok : OK s.heap) (hz : ns.length ≤ 1000)
    (hR : ∀ h' tk, h'.DictOf (IK w) s.heap.objs.size (kv (ns.foldl put1 [])) → (∀ b o, s.heap.get? b = some o → h'.get? b = some o) → Q (.ref s.heap.objs.size) { s with heap := h', toks := tk }) :
    wpAny (model PySem.Challenge.rw_bq0028_01.row.prog w) A (call (.ref u) [.ref r]) Q E s := by
  refine wpAny_call (codeAny_of_tree ?_)
  show wpAny _ A.in1 (callAny (.ref u) ⟨[.ref r], []⟩) _ _ s
  simp only [callAny]
  refine wpAny_bind (wpAny_load ho ?_)
  simp only [fkBound, show (Value.type "builtin_function_or_method" == Value.type "method" || Value.type "builtin_function_or_method" == Value.type "builtin_function_or_method" || Value.type "builtin_function_or_method" == Value.type "method-wrapper") = true by decide, if_true]
  refine KFB.if_so (by decide) ?_
  refine wpAny_bind (wpAny_of_eq (a := ()) (check_fk _) ?_)
  refine wpAny_bind (wpAny_pure (wpAny_pure ?_))
  refine ⟨quiet_fk, codeAny_builtin entry_fk ?_⟩
  rw [Around.under_plainId plain_fk _]
  exact tree_fromkeys (R := fun r s' => match r with | .ok (.ret v) => Q v s' | .ok _ => False | .error e => E e s') K hh hok hz hR
end
section
variable {w : World} {ns : List Int} {r d : Addr}
theorem fk_list {vs : List Value} (hi : IntsAre vs ns) : FkSrc w "list" r r ns (fun h => h.IsList r vs.toArray) where
  there := fun h ⟨o, ho, _⟩ => Heap.lt_size ho
  type := fun s hl => hl.typeIs
  keep := fun h h' hl hk => hl.at fun o e => hk _ o e
  notDict := by decide
  notSet := by decide
  iter := fun A s hh hl => by
    have hlt : r < s.heap.objs.size := let ⟨_, ho, _⟩ := hl; Heap.lt_size ho
    have W := Walks.list (prog := PySem.Challenge.rw_bq0028_01.row.prog) (w := w) hh s.heap.objs.size r (Nat.ne_of_lt hlt) vs.toArray
    have hlen : vs.toArray.size = ns.length := by simp [hi.length]
    rw [hlen] at W
    refine ⟨_, _, _, rfl, fun E Q hq => wpAny_pyIter_list hl hq, W, fun i v hv => ?_, ⟨⟨_, Heap.get?_push_size _ rfl, rfl, rfl⟩, hl.at fun o e => Heap.get?_push_of_some _ e⟩⟩
    have hv' : vs[i]? = some v := by simpa using hv
    have hlt' : i < ns.length := by
      rw [← hi.length]
      exact (List.getElem?_eq_some_iff.mp hv').1
    obtain ⟨t, hx⟩ := hi.get i ns[i] (by simp [hlt'])
    rw [hx] at hv'
    exact ⟨ns[i], t, by simp [hlt'], (Option.some.inj hv').symm⟩
theorem kv_get {w : World} {i : Nat} {v : Value} (h : ∃ k x, (kv ns)[i]? = some (k, x) ∧ (IK w).is k v = true) : ∃ k t, ns[i]? = some k ∧ v = .int k t := by
  obtain ⟨k, x', hx', hkey⟩ := h
  obtain ⟨t, rfl⟩ := PySem.Value.isInt_shape hkey
  refine ⟨k, t, ?_, rfl⟩
  rw [kv, List.getElem?_map] at hx'
  cases hq : ns[i]? with
  | none => rw [hq] at hx'; cases hx'
  | some q => rw [hq] at hx'; simp only [Option.map_some, Option.some.injEq, Prod.mk.injEq] at hx'; rw [hx'.1]
theorem fk_keys {ep : Nat} : FkSrc w "dict_keys" r d ns (fun h => KdlKeysView h r d ∧ h.DictAt (IK w) d (kv ns) ep) where
  there := fun h ⟨_, hm⟩ => hm.lt_size
  type := fun s hm => hm.1.typeIs
  keep := fun h h' hm hk => ⟨let ⟨o, ho, x⟩ := hm.1; ⟨o, hk _ o ho, x⟩, hm.2.at' fun o e => hk _ o e⟩
  notDict := by decide
  notSet := by decide
  iter := fun A s hh hm => by
    have W := Walks.dictKeys (prog := PySem.Challenge.rw_bq0028_01.row.prog) (w := w) (knd := IK w) hh s.heap.objs.size d (Nat.ne_of_lt hm.2.lt_size) (kv ns) ep
    rw [kv_length] at W
    exact ⟨_, _, _, rfl, fun E Q hq => kdl_pyIter_keys hm.1 hm.2 hq, W, fun i v hv => kv_get hv, ⟨⟨_, Heap.get?_push_size _ rfl, rfl, by rw [kv_length]; rfl⟩, hm.2.push _⟩⟩
end

-- part Making
/-! making an ordered set -/
theorem run_get_fk {M : Model} {A : Around} {E : Value → Shared → Prop} {s : Shared} {P : Fin → Shared → Prop} (h : P (.done (.ret (.ref s.heap.objs.size))) { s with heap := s.heap.push fkBound }) :
    wpAny M A (Builtin.«classmethod_descriptor.__get__» ⟨[.builtin "dict.fromkeys", .none, .type "dict"], []⟩) P E s := by
  unfold Builtin.«classmethod_descriptor.__get__»
  refine wpAny_bind (wpAny_of_eq (a := (.builtin "dict.fromkeys", none, some (.type "dict"))) (by first | rfl | kernel_rfl) ?_)
  simp only [owner_fk]
  refine wpAny_bind (wpAny_of_eq (a := .type "dict") rfl ?_)
  refine wpAny_bind (wpAny_of_eq (a := true) type_dict ?_)
  refine KFB.if_not rfl ?_
  refine wpAny_bind (wpAny_of_eq (a := true) sub_dict_dict ?_)
  refine KFB.if_not rfl ?_
  exact wpAny_bind (wpAny_newObj_type (wpAny_pure h))
section
variable {prog : Program} {w : World} {A : Around} {E : Value → Shared → Prop} {s : Shared} {K : Frag} {h₀ : Heap} {L : Addr} {m : Str → Option Value} {news : List (Addr × Obj)}
theorem getm_fk {pl : Sem Bool} {Q : Value × List Value → Shared → Prop} (F : Fr h₀ L s.heap m) (N : News h₀ L s.heap news) (X₀ : K.In h₀)
    (e : findCls K (.type "dict") (.type "type") (PySem.Str.ofString "fromkeys") = some (.get (.builtin "classmethod_descriptor.__get__") (.builtin "dict.fromkeys") .none (.type "dict")))
    (h : ∀ (x : Addr) h', Fr h₀ L h' m → News h₀ L h' ((x, fkBound) :: news) → (∀ p ∈ news, p.1 < x) → Q (.ref x, []) { s with heap := h', toks := s.toks + 1 }) :
    wpAny (model prog w) A (getMethod (.type "dict") (PySem.Str.ofString "fromkeys") pl) Q E s := by
  have X := X₀.keeps F.keep
  have hstub : opaqueClassAbove (.type "dict") = pure none := by unfold opaqueClassAbove; dsimp only; rw [show Manifest.isStub "dict" = false by decide +kernel]; rfl
  have ht : typeOf (.type "dict") = pure (.type "type") := by first | rfl | kernel_rfl
  have L0 : Looks (model prog w) s.heap (typeOf (.type "dict")) (.type "type") := Looks.of_pure ht
  have hg : findIn K (.type "type") "__getattribute__" = some (some (.builtin "type.__getattribute__")) := type_tga
  unfold getMethod specialOf
  refine wpAny_bind (wpAny_bind (L0.here ((looks_findIn X hg).here ?_)))
  dsimp only
  rw [if_pos canon_tga]
  refine wpAny_bind (wpAny_mono (Q := fun v => Q (v, [])) (E := E) ?_ (fun _ _ z => wpAny_pure z) fun _ _ z => z)
  have LO : Looks (model prog w) s.heap (opaqueClassAbove (.type "dict")) none := Looks.of_pure hstub
  refine cls_open X LO L0 hg (looks_hook X (r := none) (by rfl)) (by show subIn K _ _ = _; rfl) e ?_
  show wpAny _ _ (holding [.builtin "dict.fromkeys"] (call (.builtin "classmethod_descriptor.__get__") [.builtin "dict.fromkeys", .none, .type "dict"]) >>= fun v => ret v) _ _ _
  refine wpAny_bind (wpAny_holding (wpAny_call_entry KFB.slot_get type_fk KFB.entry_get (run_get_fk ⟨_, rfl, wpAny_pure (wpAny_pure (h _ _ (F.push _) (News.push F N _) fun p hp => Heap.lt_size (N p hp).1))⟩) (KFB.args_get _ _ _)))
theorem callWith_fk {pos : Pos} {u : Addr} {first : List Value} {env : Env} {e : Expr} {rest : List Expr} {Q : Value → Shared → Prop}
    (h : wpAny (model prog w) A (spliced (backTo pos (starEach (e :: rest) env))) (fun vs s₁ => s₁.heap.get? u = some fkBound ∧ wpAny (model prog w) A (call (.ref u) (first ++ vs)) Q E s₁) E s)
    (he : starEach (e :: rest) env = (false, eval e env) :: starEach rest env := by rfl) (hplain : (backTo pos (starEach rest env)).any (·.1) = false := by rfl) :
    wpAny (model prog w) A (callWith pos (.ref u) first (backTo pos (starEach (e :: rest) env)) []) Q E s := by
  rw [he] at h ⊢
  have hp : ((backTo pos ((false, eval e env) :: starEach rest env)).any (·.1)) = false := by show (false || (backTo pos (starEach rest env)).any (·.1)) = false; rw [hplain]; rfl
  have h2 : wpAny (model prog w) A (evalArgs (.ref u) true (backTo pos ((false, eval e env) :: starEach rest env)) []) (fun x s₁ => s₁.heap.get? u = some fkBound ∧ wpAny (model prog w) A (call (.ref u) (first ++ x.pos) x.kw) Q E s₁) E s := evalArgs_plain h
  unfold callWith
  refine wpAny_bind (wpAny_holding (wpAny_mono h2 (fun x s₁ h₁ => wpAny_bind (wpAny_standAt ?_)) fun _ _ x => x))
  obtain ⟨ho, hcall⟩ := h₁
  simp only [hp, List.any_nil, Bool.or_false]
  refine wpAny_bind (m := keeperOf (.ref u)) ?_
  unfold keeperOf
  refine wpAny_bind (wpAny_load ho ?_)
  simp only [fkBound, show (Value.type "builtin_function_or_method" != Value.type "method") = true by decide, show (Value.type "builtin_function_or_method" == Value.type "builtin_function_or_method" || Value.type "builtin_function_or_method" == Value.type "method-wrapper") = true by decide, if_true]
  refine wpAny_pure ?_
  exact wpAny_bind (wpAny_mono hcall (fun r s₂ hr => wpAny_bind (wpAny_holding (wpAny_point (wpAny_pure hr)))) fun _ _ x => x)
end
section
variable {w : World} {A : Around} {E : Value → Shared → Prop} {s : Shared} {h₀ : Heap} {L u : Addr} {m : Str → Option Value} {news : List (Addr × Obj)} {T : String} {r d : Addr} {ns : List Int} {OK : Heap → Prop} {Q : Value → Shared → Prop}
theorem fk_call (F : Fr h₀ L s.heap m) (N : News h₀ L s.heap news) (hu : (u, fkBound) ∈ news) (K : FkSrc w T r d ns OK) (hh : A.handled = none) (hok : OK s.heap) (hz : ns.length ≤ 1000)
    (h : ∀ (D : Addr) h' tk o', Fr h₀ L h' m → News h₀ L h' ((D, o') :: news) → (∀ p ∈ news, p.1 < D) → o'.IsDictOf (IK w) (kv (ns.foldl put1 [])) → Q (.ref D) { s with heap := h', toks := tk }) :
    wpAny (model PySem.Challenge.rw_bq0028_01.row.prog w) A (call (.ref u) [.ref r]) Q E s := by
  refine call_fkBound (N _ hu).1 K hh hok hz fun h' tk hD hk => ?_
  obtain ⟨o', ho', hd'⟩ := Heap.dictOf_iff.mp hD
  exact h _ h' tk o' (F.keeps hk) (news_pushed F N hk ho' rfl) (fun p hp => Heap.lt_size (N p hp).1) hd'
theorem dict0_call (F : Fr h₀ L s.heap m) (N : News h₀ L s.heap news)
    (h : ∀ (D : Addr) h' tk o', Fr h₀ L h' m → News h₀ L h' ((D, o') :: news) → (∀ p ∈ news, p.1 < D) → o'.IsDictOf (IK w) (kv []) → Q (.ref D) { s with heap := h', toks := tk }) :
    wpAny (model PySem.Challenge.rw_bq0028_01.row.prog w) A (call (.type "dict") []) Q E s := by
  refine call_dict0 ?_
  refine h _ _ s.toks { cls := .type "dict", data := .dict #[] } (F.push _) (News.push F N _ rfl) (fun p hp => Heap.lt_size (N p hp).1) ?_
  exact ⟨#[], 0, ⟨rfl, rfl, rfl⟩, rfl, fun e he => by simp at he, Pairs.nil, List.nodup_nil⟩
end
local macro_rules | `(tactic| walk_at "mine enter") => `(tactic| first
  | (refine' code_def ?k1 ?k2 ?k3 ?k4 ?k5 ?kA ?kF ?kK ?k6 ?k7 ?k8 ?k9 ?kB ?_ ?c2 ?c3 ?c4 ?c5; (case kA => exact rfl); (case kF => exact rfl); (case kK => first | exact rfl | assumption); (case k1 => k_asm); (case k2 => k_asm); (case k3 => k_asm); (case k4 => k_asm); (case k5 => k_asm); (case k6 => k_is); (case k7 => k_is); (case k8 => ktr_room); (case k9 => first | exact BindsTo.of_eq rfl | exact binds_K (by k_in) rfl (by k_is) rfl rfl rfl); (case c5 => decide); (case kB => exact locs rfl); (case c2 => exact rfl); (case c3 => exact rfl); (case c4 => exact rfl); k_whole; intro g' L' h' FG' F' N' B' X' T'; (try dsimp only); (try k_lift B'); (try k_fold))
  | (refine' code_defC ?k1 ?k2 ?k3 ?k4 ?k5 ?kA ?kF ?kK ?k6 ?k7 ?k8 ?k9 ?kB ?kD ?_ ?c2 ?c3 ?c4; (case kA => exact rfl); (case kF => exact rfl); (case kK => first | exact rfl | assumption); (case k1 => k_asm); (case k2 => k_asm); (case k3 => k_asm); (case k4 => k_asm); (case k5 => k_asm); (case k6 => k_is); (case k7 => k_is); (case k8 => ktr_room); (case k9 => first | exact BindsTo.of_eq rfl | exact binds_K (by k_in) rfl (by k_is) rfl rfl rfl); (case kB => exact rfl); (case kD => decide +kernel); (case c2 => exact rfl); (case c3 => exact rfl); (case c4 => exact rfl); k_whole; intro g' L' h' tk' cells' FG' F' N' Y' B' X' T' l1; (try k_lt l1); k_cells Y'; (try simp only [List.cons_append, List.nil_append] at N'); (try dsimp only); (try k_lift B'); (try k_fold)))
local macro_rules | `(tactic| walk_at "getMethod type:dict") => `(tactic| (k_here; k_dflt (refine' getm_fk ?F ?N ?X ?e ?_; (case F => k_asm); (case N => k_asm); (case X => k_asm); (case e => k_is)); intro x' h' F' N' l1; (try k_lt l1)))
local macro_rules | `(tactic| walk_at "callWith ref") => `(tactic| (k_here; (with_reducible show wpAny _ _ (callWith _ (Value.ref _) _ (backTo _ (starEach (_ :: _) _)) []) _ _ _); (with_reducible have hfk9 := (by assumption : News _ _ _ ((_, fkBound) :: _))); clear hfk9; k_dflt (refine callWith_fk ?_)))
local macro_rules | `(tactic| walk_at "And") => `(tactic| ((with_reducible show Heap.get? _ _ = some fkBound ∧ _); k_dflt (refine ⟨News.get (by k_asm) (by k_mem), ?_⟩); (try dsimp only [List.nil_append, List.cons_append])))
local macro_rules | `(tactic| walk_at "call type:dict") => `(tactic| (k_here; k_dflt (show wpAny _ _ (call (Value.type "dict") []) _ _ _); k_dflt (refine' dict0_call ?F ?N ?_; (case F => k_asm); (case N => k_asm)); intro D' h' tk' o' F' N' l1 hd'; (try k_lt l1)))
section
variable {w : World} {dp un : Nat} {gd : Option (List Code)} {cn : Str} {cs : Scope} {a : Addr} {ccd : Value} {cl : List (Str × Addr)} {outer : List Env} {A₀ : Around} {base h₀ : Heap} {L : Addr} {m : Str → Option Value} {s : Shared}
    {mean : ExcName → Option Value} {mg mb : Str → Option Value} {x dx : Addr} {ns : List Int} {news : List (Addr × Obj)} {R : Result → Shared → Prop}
variable (B : Below A₀ base outer h₀) (F : Fr h₀ L s.heap m) (X : (hd.heap_39 w.params).In h₀) (T : Top hd.view_39 (looseW hd.view_39 [Str.ofString "OrderedSet"]) mean mg mb h₀) (hk : cs.kind = .function)
  (hdp : dp + 2 < recursionLimit) (hun : un + 20 < cLine) (N : News h₀ L s.heap ((x, instObj 203 dx) :: (dx, dictOf [] 0) :: news)) (hlt : ∀ p ∈ news, p.1 < dx) (hxd : @LT.lt Nat _ dx x)
include B F X T hk hdp hun N hlt hxd
theorem init0_K (h : ∀ h' tk d o ta, Fr h₀ L h' m → News h₀ L h' (can w x dx d ta 1 o news) → @LT.lt Nat _ x d → (d == sysModules) = false → o.IsDictOf (IK w) (kv []) → R (.ok (.ret .none)) { s with heap := h', toks := tk }) :
    codeAny (model PySem.Challenge.rw_bq0028_01.row.prog w) (ktrTop dp un gd cn cs L a ccd cl outer) (.call (.ref 29) ⟨[.ref x], []⟩) R s := by
  have hlt := allLt_of hlt
  revert X; k_fill; intro X
  k_dflt (walk_at "mine enter")
  k_steps
  rename x < _ ∧ _ => q1
  refine' h _ _ _ _ _ ?f (cb_drop ?n ?s) ?b ?l ?e
  case f => k_asm
  case n => k_asm
  case s => exact perm_init
  case b => exact ltN (by omega)
  case l => exact not_modules (ltN (by omega))
  case e => k_asm
theorem init_K {T' : String} {r dd : Addr} {OK : Heap → Prop} (K : FkSrc w T' r dd ns OK) (hok : ∀ g L h, News g L h news → OK h) (hz : ns.length ≤ 1000)
    (h : ∀ h' tk d o ta, Fr h₀ L h' m → News h₀ L h' (can w x dx d ta 1 o news) → @LT.lt Nat _ x d → (d == sysModules) = false → o.IsDictOf (IK w) (kv (ns.foldl put1 [])) → R (.ok (.ret .none)) { s with heap := h', toks := tk }) :
    codeAny (model PySem.Challenge.rw_bq0028_01.row.prog w) (ktrTop dp un gd cn cs L a ccd cl outer) (.call (.ref 29) ⟨[.ref x, .ref r], []⟩) R s := by
  have hlt := allLt_of hlt
  revert X; k_fill; intro X
  k_dflt (walk_at "mine enter")
  k_steps
  refine' fk_call ?F ?N ?hu K (by rfl) (hok _ _ _ (cb_drop ?N2 ?s2)) hz ?_
  case F => k_asm
  case N => k_asm
  case hu => k_mem
  case N2 => k_asm
  case s2 => exact fun p hp => .tail _ (.tail _ (.tail _ hp))
  intro D' h' tk' o' F' N' l1 hd'
  k_lt l1
  k_steps
  rename _ ∧ x < _ ∧ _ => q1
  refine' h _ _ _ _ _ ?f (cb_drop ?n ?s) ?b ?l ?e
  case f => k_asm
  case n => k_asm
  case s => exact perm_init2
  case b => exact ltN (by omega)
  case l => exact not_modules (ltN (by omega))
  case e => k_asm
end

-- part Helpers
/-! the law's helpers -/
theorem off1_ne {D : Addr} : ∀ {l : List (Addr × Obj)}, LCg.Off1 D l → ∀ p ∈ l, p.1 ≠ D
  | [], _, _, hp => nomatch hp
  | _ :: _, h, p, hp => by
    rcases List.mem_cons.mp hp with rfl | hp
    · exact h.1
    · exact off1_ne h.2 p hp
theorem perm_row {α : Type} {A B C : α} {l : List α} : ∀ p ∈ A :: l, p ∈ A :: B :: C :: l := by
  intro p hp
  rcases List.mem_cons.mp hp with rfl | hp
  · exact .head _
  · exact .tail _ (.tail _ (.tail _ hp))
def num (ns : List Int) (p : Int) : Int := ns.getD (p.fmod ns.length).toNat 0 + 7 * p
theorem num_nil {ns : List Int} {p : Int} (h : ¬ 0 < ns.length) : num ns p = 0 + 7 * p := by
  have : ns = [] := List.length_eq_zero_iff.mp (by omega)
  subst this
  simp [num]
section
variable {w : World} {dp un : Nat} {gd : Option (List Code)} {cn : Str} {cs : Scope} {a : Addr} {ccd : Value} {cl : List (Str × Addr)} {outer : List Env} {A₀ : Around} {base h₀ : Heap} {L : Addr} {m : Str → Option Value} {s : Shared}
    {mean : ExcName → Option Value} {mg mb : Str → Option Value} {l : Addr} {vs : List Value} {ns : List Int} {p : Int} {t : Tok} {news : List (Addr × Obj)} {R : Result → Shared → Prop}
variable (B : Below A₀ base outer h₀) (F : Fr h₀ L s.heap m) (X : (hd.heap_39 w.params).In h₀) (T : Top hd.view_39 (looseW hd.view_39 [Str.ofString "OrderedSet"]) mean mg mb h₀) (hk : cs.kind = .function)
  (hdp : dp + 4 < recursionLimit) (hun : un + 50 < cLine) (N : News h₀ L s.heap news) (hl : base.IsList l vs.toArray) (hi : IntsAre vs ns) (hlen : ns.length < 2 ^ 62)
include B F X T hk hdp hun N hl hi hlen
theorem number_K (h : ∀ h' tk t, Fr h₀ L h' m → News h₀ L h' news → R (.ok (.ret (.int (num ns p) t))) { s with heap := h', toks := tk }) :
    codeAny (model PySem.Challenge.rw_bq0028_01.row.prog w) (ktrTop dp un gd cn cs L a ccd cl outer) (.call (.ref 214) ⟨[.ref l, .int p t], []⟩) R s := by
  revert X; k_fill; intro X
  k_dflt (walk_at "mine enter")
  k_steps
  · exact h _ _ _ (by k_asm) (by k_asm)
  · rw [← num_nil (by omega : ¬ 0 < ns.length)]
    exact h _ _ _ (by k_asm) (by k_asm)
end
local macro_rules | `(tactic| k_room) => `(tactic| ktr_room)
local macro_rules | `(tactic| walk_at "call ref") => `(tactic| (k_here; (with_reducible show wpAny _ _ (call (Value.ref 214) [Value.ref _, Value.int _ _]) _ _ _); refine wpAny_call ?_; k_dflt (refine' number_K ?B ?F ?X ?T ?k ?hd ?hu ?N ?hl ?hi ?len ?_; (case B => k_asm); (case F => k_asm); (case X => k_asm); (case T => k_asm); (case k => first | exact rfl | assumption); (case hd => ktr_room); (case hu => ktr_units); (case N => k_asm); (case hl => k_asm); (case hi => k_asm); (case len => k_asm)); intro h' tk' t' F' N'; (try dsimp only); walk_say "NUMBER"))
section
variable {w : World} {dp un : Nat} {gd : Option (List Code)} {cn : Str} {cs : Scope} {a : Addr} {ccd : Value} {cl : List (Str × Addr)} {outer : List Env} {A₀ : Around} {base h₀ : Heap} {L : Addr} {m : Str → Option Value} {s : Shared}
    {mean : ExcName → Option Value} {mg mb : Str → Option Value} {l : Addr} {vs : List Value} {ns : List Int} {p : Int} {t : Tok} {news : List (Addr × Obj)} {R : Result → Shared → Prop}
variable (B : Below A₀ base outer h₀) (F : Fr h₀ L s.heap m) (X : (hd.heap_39 w.params).In h₀) (T : Top hd.view_39 (looseW hd.view_39 [Str.ofString "OrderedSet"]) mean mg mb h₀) (hk : cs.kind = .function)
  (hdp : dp + 8 < recursionLimit) (hun : un + 100 < cLine) (N : News h₀ L s.heap news) (hl : base.IsList l vs.toArray) (hi : IntsAre vs ns) (hlen : ns.length < 2 ^ 62)
include B F X T hk hdp hun N hl hi hlen
theorem row_K (hp : 0 ≤ p) (hp2 : p < 1000) (h : ∀ h' tk r us c ms, Fr h₀ L h' m → News h₀ L h' ((r, listOf us.toArray c) :: news) → (∀ p ∈ news, p.1 ≠ r) → IntsAre us ms → ms.length ≤ 4 → (∀ x ∈ ms, 0 ≤ x ∧ x < 6) → R (.ok (.ret (.ref r))) { s with heap := h', toks := tk }) :
    codeAny (model PySem.Challenge.rw_bq0028_01.row.prog w) (ktrTop dp un gd cn cs L a ccd cl outer) (.call (.ref 219) ⟨[.ref l, .int p t], []⟩) R s := by
  revert X; k_fill; intro X
  k_dflt (walk_at "mine enter")
  k_steps
  rename IntsAre _ (List.map _ _) => hI
  rename _ ∧ _ ∧ LCg.Off1 _ _ => q1
  rename _ < (5 : Int) => q5
  rename (0 : Int) ≤ (num _ _).fmod 5 => q0
  refine' h _ _ _ _ _ _ ?f (cb_drop ?n ?s) (off1_ne q1.2.2) hI ?b ?c
  case f => k_asm
  case n => k_asm
  case s => exact perm_row
  case b =>
    rw [List.length_map, rangeKs_length]
    omega
  case c =>
    intro x hx
    obtain ⟨q, _, rfl⟩ := List.mem_map.mp hx
    exact ⟨Int.fmod_nonneg_of_pos _ (by decide), Int.fmod_lt_of_pos _ (by decide)⟩
end

-- part Put
/-! _law_put: a loop that lays a local list anew -/
def TurnP (h₀ : Heap) (L : Addr) (m₀ : Str → Option Value) (y y₂ : Str) (r₀ I : Addr) (oI : Obj) (ks : List Int) (news : List (Addr × Obj)) (s₁ : Shared) (f : Flow) (s₂ : Shared) : Prop :=
  match f with
  | .ret _ => False
  | .brk => False
  | _ => ∃ h' tk m' r us c, s₂ = { s₁ with heap := h', toks := tk } ∧ Fr h₀ L h' m' ∧ News h₀ L h' ((r, listOf us.toArray c) :: (I, oI) :: news) ∧ r ≠ I ∧ IntsAre us ks ∧ m' y₂ = some (.ref r) ∧ (r = r₀ ∨ ∀ p ∈ news, @LT.lt Nat _ p.1 r) ∧ ∀ z, z ≠ y → z ≠ y₂ → m' z = m₀ z
theorem TurnP.mk {h₀ : Heap} {L : Addr} {m₀ m' : Str → Option Value} {y y₂ : Str} {r₀ I r : Addr} {oI : Obj} {c : Nat} {us : List Value} {ks : List Int} {news news' : List (Addr × Obj)} {s₁ : Shared} {h' : Heap} {tk : Nat}
    (F : Fr h₀ L h' m') (N : News h₀ L h' news') (hs : ∀ p ∈ (r, listOf us.toArray c) :: (I, oI) :: news, p ∈ news') (hr : r ≠ I) (hi : IntsAre us ks) (hy : m' y₂ = some (.ref r)) (hor : r = r₀ ∨ ∀ p ∈ news, @LT.lt Nat _ p.1 r) (hm : ∀ z, z ≠ y → z ≠ y₂ → m' z = m₀ z) : TurnP h₀ L m₀ y y₂ r₀ I oI ks news s₁ .next { s₁ with heap := h', toks := tk } :=
  ⟨h', tk, m', r, us, c, rfl, F, cb_drop N hs, hr, hi, hy, hor, hm⟩
theorem frame2_at {h₀ h : Heap} {L : Addr} {m₀ m₁ : Str → Option Value} {y y₂ : Str} {v v₂ : Value} (F : Fr h₀ L h (fun z => if z = y then some v else m₁ z)) (h2 : m₁ y₂ = some v₂) (hm : ∀ z, z ≠ y → z ≠ y₂ → m₁ z = m₀ z) : Fr h₀ L h (fun z => if z = y then some v else if z = y₂ then some v₂ else m₀ z) := by
  have e : (fun z => if z = y then some v else m₁ z) = fun z => if z = y then some v else if z = y₂ then some v₂ else m₀ z := by
    funext z
    by_cases h : z = y
    · simp [h]
    · simp only [if_neg h]
      by_cases h' : z = y₂
      · subst h'; simp [h2]
      · simp only [if_neg h']; exact hm z h h'
  rw [← e]; exact F
theorem frame2_out {h₀ h : Heap} {L : Addr} {m₀ m₁ : Str → Option Value} {y y₂ : Str} {v₂ : Value} (F : Fr h₀ L h m₁) (h2 : m₁ y₂ = some v₂) (hyy : y₂ ≠ y) (hm : ∀ z, z ≠ y → z ≠ y₂ → m₁ z = m₀ z) : Fr h₀ L h (fun z => if z = y then m₁ z else if z = y₂ then some v₂ else m₀ z) := by
  have e : (fun z => if z = y then m₁ z else if z = y₂ then some v₂ else m₀ z) = m₁ := by
    funext z
    by_cases h : z = y
    · simp [h]
    · simp only [if_neg h]
      by_cases h' : z = y₂
      · subst h'; simp [h2]
      · simp only [if_neg h']; exact (hm z h h').symm
  rw [e]; exact F
section
variable {w : World} {A : Around} {E : Value → Shared → Prop} {s : Shared} {env : Env} {h₀ : Heap} {y y₂ : Str} {body : List Stmt} {Q : Flow → Shared → Prop} {l r₀ : Addr} {lo : Obj} {R T : List Int} {vs us₀ : List Value} {nl c₀ : Nat} {news : List (Addr × Obj)} {m₀ : Str → Option Value}
theorem loop_put (hh : A.handled = none) (F : Fr h₀ env.locals s.heap m₀) (N : News h₀ env.locals s.heap ((r₀, listOf us₀.toArray c₀) :: news)) (ml : (l, lo) ∈ news) (hc : lo.cls = .type "list") (hdat : lo.data = .seq vs.toArray nl) (hi : IntsAre vs T) (hi0 : IntsAre us₀ R)
    (hrow : m₀ y₂ = some (.ref r₀)) (hyy : y₂ ≠ y)
    (turn : ∀ i k t I oI r us c h tk, T[i]? = some k → r ≠ I → (r = r₀ ∨ ∀ p ∈ news, @LT.lt Nat _ p.1 r) → IntsAre us ((T.take i).foldl put1 R) → Fr h₀ env.locals h (fun z => if z = y then some (.int k t) else if z = y₂ then some (.ref r) else m₀ z) → News h₀ env.locals h ((r, listOf us.toArray c) :: (I, oI) :: news) →
      wpAny (model PySem.Challenge.rw_bq0028_01.row.prog w) A (execs body env) (TurnP h₀ env.locals m₀ y y₂ r₀ I oI (put1 ((T.take i).foldl put1 R) k) news { s with heap := h, toks := tk }) E { s with heap := h, toks := tk })
    (done : ∀ (u : Str → Option Value) r us c h tk, (r = r₀ ∨ ∀ p ∈ news, @LT.lt Nat _ p.1 r) → IntsAre us (T.foldl put1 R) → Fr h₀ env.locals h (fun z => if z = y then u z else if z = y₂ then some (.ref r) else m₀ z) → News h₀ env.locals h ((r, listOf us.toArray c) :: news) → Q .next { s with heap := h, toks := tk }) :
    wpAny (model PySem.Challenge.rw_bq0028_01.row.prog w) A (pyIter (.ref l)) (fun it s₂ => LoopAtV PySem.Challenge.rw_bq0028_01.row.prog w A h₀ env y body Q E it s₂) E s := by
  have hml := N (l, lo) (.tail _ ml)
  have hls : s.heap.IsList l vs.toArray := ⟨lo, hml.1, hc, nl, hdat⟩
  have hlt : l < s.heap.objs.size := Heap.lt_size hml.1
  refine wpAny_pyIter_list hls ?_
  have W := Walks.list (prog := PySem.Challenge.rw_bq0028_01.row.prog) (w := w) hh s.heap.objs.size l (Nat.ne_of_lt hlt) vs.toArray
  have hlen : vs.toArray.size = T.length := by simp [hi.length]
  rw [hlen] at W
  have lts : ∀ p ∈ (r₀, listOf us₀.toArray c₀) :: news, p.1 ≠ s.heap.objs.size := fun p hp => Nat.ne_of_lt (Heap.lt_size (N p hp).1)
  let J : Nat → (Str → Option Value) → List (Addr × Obj) → Prop := fun i m₁ news₁ => ∃ r us c, news₁ = (r, listOf us.toArray c) :: news ∧ IntsAre us ((T.take i).foldl put1 R) ∧ m₁ y₂ = some (.ref r) ∧ (r = r₀ ∨ ∀ p ∈ news, @LT.lt Nat _ p.1 r) ∧ ∀ z, z ≠ y → z ≠ y₂ → m₁ z = m₀ z
  refine ⟨s.heap.objs.size, [s.heap.objs.size, l], [s.heap.objs.size], T.length, _, _, m₀, (r₀, listOf us₀.toArray c₀) :: news, J, rfl, W, ?_, ?_, ?_,
    ⟨⟨_, Heap.get?_push_size _ rfl, rfl, rfl⟩, hls.at fun o e => Heap.get?_push_of_some _ e⟩, F.push _, (fun p hp => ⟨Heap.get?_push_of_some _ (N p hp).1, (N p hp).2⟩), ⟨r₀, us₀, c₀, rfl, by simpa using hi0, hrow, .inl rfl, fun _ _ _ => rfl⟩, ?_, ?_⟩
  · intro hm
    rcases List.mem_cons.mp hm with e | hm
    · exact absurd F.ns.lt (e ▸ Nat.lt_irrefl _)
    · exact hml.2.1 (List.mem_singleton.mp hm).symm
  · intro b hb
    rw [List.mem_singleton.mp hb]; exact next_is_new F
  · intro p hp
    rw [List.mem_singleton]; exact lts p hp
  · rintro i v m₁ news₁ s₁ own ⟨hh', tk, rfl⟩ hin hv ⟨r, us, c, rfl, hus, hr, hor, hm⟩ hnI hown hget hback hst F₁ N₁
    have hv' : vs[i]? = some v := by simpa using hv
    obtain ⟨t, hx⟩ := hi.get i T[i] (by simp [hin])
    rw [hx] at hv'
    have hv2 : v = .int T[i] t := (Option.some.inj hv').symm
    subst hv2
    have hk : T[i]? = some T[i] := by simp [hin]
    obtain ⟨⟨oI, hoI, _⟩, _⟩ := hst
    have hIo : (s.heap.objs.size, oI) ∈ own := hback _ (.head _) (next_is_new F) oI hoI
    have hrI : r ≠ s.heap.objs.size := by
      have := hnI _ (.head _)
      simpa using this
    have N₂ : News h₀ env.locals hh' ((r, listOf us.toArray c) :: (s.heap.objs.size, oI) :: news) := by
      intro p hp
      refine N₁ p ?_
      rcases List.mem_cons.mp hp with rfl | hp
      · exact List.mem_append_right _ (.head _)
      rcases List.mem_cons.mp hp with rfl | hp
      · exact List.mem_append_left _ hIo
      · exact List.mem_append_right _ (.tail _ hp)
    have hln := N₁ (l, lo) (List.mem_append_right _ (.tail _ ml))
    refine wpAny_mono (turn i T[i] t s.heap.objs.size oI r us c hh' tk hk hrI hor hus (frame2_at F₁ hr hm) N₂) (fun fl s₂ p => ?_) fun _ _ e => e
    have fin : (∃ h' tk' m' r' us' c', s₂ = { s with heap := h', toks := tk' } ∧ Fr h₀ env.locals h' m' ∧ News h₀ env.locals h' ((r', listOf us'.toArray c') :: (s.heap.objs.size, oI) :: news) ∧ r' ≠ s.heap.objs.size ∧ IntsAre us' (put1 ((T.take i).foldl put1 R) T[i]) ∧ m' y₂ = some (.ref r') ∧ (r' = r₀ ∨ ∀ p ∈ news, @LT.lt Nat _ p.1 r') ∧ ∀ z, z ≠ y → z ≠ y₂ → m' z = m₀ z) →
        LoopStepU h₀ env.locals [s.heap.objs.size] own (J (i + 1)) { s with heap := hh', toks := tk } .next s₂ := by
      rintro ⟨h', tk', m', r', us', c', rfl, F', N', hr', hus', hrow', hor', hm'⟩
      refine ⟨rfl, h', tk', m', (r', listOf us'.toArray c') :: news, rfl, F', ?_, ?_, r', us', c', rfl, ?_, hrow', hor', hm'⟩
      · intro p hp
        refine N' p ?_
        rcases List.mem_append.mp hp with hp | hp
        · have hg := hget p hp
          rcases List.mem_cons.mp (hown p hp) with e | e
          · have : p = (s.heap.objs.size, oI) := by
              obtain ⟨p1, p2⟩ := p
              simp only at e hg
              subst e
              rw [hoI] at hg
              rw [Option.some.inj hg]
            rw [this]; exact .tail _ (.head _)
          · have e := List.mem_singleton.mp e
            have : p = (l, lo) := by
              obtain ⟨p1, p2⟩ := p
              simp only at e hg
              subst e
              have hl' : hh'.get? p1 = some lo := hln.1
              rw [Option.some.inj (hg.symm.trans hl')]
            rw [this]; exact .tail _ (.tail _ ml)
        · rcases List.mem_cons.mp hp with rfl | hp
          · exact .head _
          · exact .tail _ (.tail _ hp)
      · intro p hp
        rw [List.mem_singleton]
        rcases List.mem_cons.mp hp with rfl | hp
        · exact hr'
        · exact lts p (.tail _ hp)
      · rw [foldl_take_succ put1 R T i hk]; exact hus'
    cases fl with
    | ret v => exact p.elim
    | brk => exact p.elim
    | next => exact .next (fin p)
    | cont => exact .cont (fin p)
  · rintro h' tk m' news' F' N' _ ⟨r, us, c, rfl, hus, hr, hor, hm⟩
    rw [List.take_length] at hus
    exact done m' r us c h' tk hor hus (frame2_out F' hr hyy hm) N'
end
local macro_rules | `(tactic| walk_at "binaryOp Add ref ref") => `(tactic| (k_here; (with_reducible show wpAny _ _ (binaryOp _ (Value.ref _) (Value.ref _)) _ _ _); k_dflt (refine' kmk_add_ints ?F ?N ?a ?b ?i ?j ?_ ?z; (case F => k_asm); (case N => k_asm); (case a => kmk_list); (case b => kmk_list); (case i => l_ints); (case j => l_ints); (case z => (simp only [sizeLine_eq, List.length_cons, List.length_nil, List.length_append, List.length_reverse] at *; omega))); intro D' ws' h' F' N' l1 hI'; (try k_lt l1); (try k_sweep)))
section
variable {w : World} {dp un : Nat} {gd : Option (List Code)} {cn : Str} {cs : Scope} {a : Addr} {ccd : Value} {cl : List (Str × Addr)} {outer : List Env} {A₀ : Around} {base h₀ : Heap} {L : Addr} {m : Str → Option Value} {s : Shared}
    {mean : ExcName → Option Value} {mg mb : Str → Option Value} {l r₀ : Addr} {lo : Obj} {rs ts : List Int} {vs us₀ : List Value} {nl c₀ : Nat} {news : List (Addr × Obj)} {R : Result → Shared → Prop}
variable (B : Below A₀ base outer h₀) (F : Fr h₀ L s.heap m) (X : (hd.heap_39 w.params).In h₀) (T : Top hd.view_39 (looseW hd.view_39 [Str.ofString "OrderedSet"]) mean mg mb h₀) (hk : cs.kind = .function)
  (hdp : dp + 2 < recursionLimit) (hun : un + 30 < cLine) (N : News h₀ L s.heap news) (mr : (r₀, listOf us₀.toArray c₀) ∈ news) (hi0 : IntsAre us₀ rs) (ml : (l, lo) ∈ news) (hc : lo.cls = .type "list") (hdat : lo.data = .seq vs.toArray nl) (hi : IntsAre vs ts) (hz : rs.length + ts.length ≤ 1000)
include B F X T hk hdp hun N mr hi0 ml hc hdat hi hz
theorem put_K (h : ∀ h' tk r us c, Fr h₀ L h' m → News h₀ L h' ((r, listOf us.toArray c) :: news) → IntsAre us (ts.foldl put1 rs) → (r = r₀ ∨ ∀ p ∈ news, @LT.lt Nat _ p.1 r) → R (.ok (.ret (.ref r))) { s with heap := h', toks := tk }) :
    codeAny (model PySem.Challenge.rw_bq0028_01.row.prog w) (ktrTop dp un gd cn cs L a ccd cl outer) (.call (.ref 226) ⟨[.ref r₀, .ref l], []⟩) R s := by
  have N : News h₀ L s.heap ((r₀, listOf us₀.toArray c₀) :: news) := fun p hp => N p (by rcases List.mem_cons.mp hp with rfl | hp; exact mr; exact hp)
  revert X; k_fill; intro X
  k_dflt (walk_at "mine enter")
  k_steps
  refine' loop_put (y₂ := Str.ofString "row") (by rfl) ?F ?N ml hc hdat hi hi0 ?hrow (by decide) ?turn ?done
  case F => k_asm
  case N => k_asm
  case hrow => rfl
  case turn =>
    intro i k t I oI r us c h' tk hki hrI hor hus F' N'
    have hzl : ((ts.take i).foldl put1 rs).length ≤ 1000 := by
      have := foldl_put1_length (ts.take i) rs
      rw [List.length_take] at this
      omega
    k_steps
    · rename (List.any _ _) = true => q1
      have hq : k ∈ (ts.take i).foldl put1 rs := by simpa using q1
      rw [put1, if_pos hq]
      refine TurnP.mk (by k_asm) N' (fun _ h => h) hrI hus (by rfl) hor (fun z h1 h2 => by simp [h1, h2])
    · rename (List.any _ _) = false => q1
      have hq : k ∉ (ts.take i).foldl put1 rs := fun hm => by simp at q1; exact q1 k hm rfl
      rename IntsAre _ (_ ++ [k]) => hI2
      rename _ < _ ∧ _ < _ ∧ _ < _ ∧ _ => l2
      rw [put1, if_neg hq]
      refine' TurnP.mk (c := 0) ?F ?N ?hs (Ne.symm (Nat.ne_of_lt l2.2.2.1)) hI2 ?hy (.inr (kst_ltOf l2.2.2.2)) ?hm
      case F => k_asm
      case N => k_asm
      case hy => rfl
      case hm => exact fun z h1 h2 => by simp [h1, h2]
      case hs =>
        intro p hp
        rcases List.mem_cons.mp hp with rfl | hp
        · exact .head _
        · exact .tail _ (.tail _ (.tail _ hp))
  case done =>
    intro u r us c h' tk hor hus F' N'
    k_steps
    exact h _ _ _ _ _ (by k_asm) (by k_asm) hus hor
end

-- part Fill
/-! lists that are filled from an ordered set, or from its way back -/
abbrev PROG := PySem.Challenge.rw_bq0028_01.row.prog
section
variable {w : World} {A : Around} {s : Shared} {h₀ : Heap} {L S I d x : Addr} {m : Str → Option Value} {io so : Obj} {news newsA newsB : List (Addr × Obj)} {n c₀ : Nat} {P : Nat → Value → Prop} {St : Nat → Heap → Prop} {R : Result → Shared → Prop} {res : Value}
theorem fr_moved {h h' : Heap} (F : Fr h₀ L h m) (N : News h₀ L h ((I, io) :: (S, so) :: news)) (hm : ∀ b o, b ≠ S → b ≠ I → h.get? b = some o → h'.get? b = some o) : Fr h₀ L h' m := by
  have hS := N (S, so) (.tail _ (.head _))
  have hI := N (I, io) (.head _)
  refine ⟨F.ns.at fun o e => hm L o (fun q => hS.2.1 q.symm) (fun q => hI.2.1 q.symm) e, fun b o e => hm b o (fun q => ?_) (fun q => ?_) (F.keep b o e), F.above⟩
  · have := hS.2.2; simp only [← q] at this; rw [this] at e; cases e
  · have := hI.2.2; simp only [← q] at this; rw [this] at e; cases e
theorem fill_loop (W : Walks PROG w A.in1 I [I, d] [I] n P St) (hn : n ≤ sizeLine) (F : Fr h₀ L s.heap m) (N : News h₀ L s.heap ((I, io) :: (S, listOf #[] c₀) :: news)) (hSI : S ≠ I) (hSd : S ≠ d) (hoff : ∀ p ∈ news, p.1 ≠ S ∧ p.1 ≠ I) (st : St 0 s.heap)
    (hR : ∀ h' tk vs c, Fr h₀ L h' m → News h₀ L h' ((S, listOf (List.toArray vs) c) :: news) → vs.length = n → (∀ j v, vs[j]? = some v → P j v) → R (.ok (.ret res)) { s with heap := h', toks := tk }) :
    codeAny (model PROG w) A (.builtin "list.extend.loop" ⟨[.ref S, .ref I, res], []⟩) R s := by
  have hSf : S ∉ [I, d] := by simp only [List.mem_cons, List.not_mem_nil, or_false, not_or]; exact ⟨hSI, hSd⟩
  have hS := (N (S, listOf #[] c₀) (.tail _ (.head _)))
  refine codeAny_extend_loopS W.toS hn S hSf res n 0 _ #[] c₀ rfl (Nat.zero_le _) st hS.1 (ItemsOf.nil _) fun s' acc' c' hm hS' hacc => ?_
  rw [Moved.eq_with hm]
  have hk : ∀ b o, b ≠ S → b ≠ I → s.heap.get? b = some o → s'.heap.get? b = some o := fun b o h1 h2 e => hm.heap b o (by simp [h1, h2]) e
  refine hR s'.heap s'.toks acc'.toList c' (fr_moved F N hk) (fun p hp => ?_) (by rw [Array.length_toList]; exact hacc.1) fun j v e => hacc.2 j v (by rw [← Array.getElem?_toList]; exact e)
  rcases List.mem_cons.mp hp with rfl | hp
  · exact ⟨by rw [Array.toArray_toList]; exact hS', hS.2⟩
  · have h1 := N p (.tail _ (.tail _ hp))
    exact ⟨hk _ _ (hoff p hp).1 (hoff p hp).2 h1.1, h1.2⟩
theorem fill_ext {C : Value} {E : Value → Shared → Prop} (hxS : S ≠ x) (hn : n ≤ sizeLine) (ht : ∀ Q : Value → Shared → Prop, Q C s → wpAny (model PROG w) A.in1 (typeOf (.ref x)) Q (fun e s' => R (.error e) s') s) (hc1 : (C == Value.type "list") = false) (hc2 : (C == Value.type "tuple") = false)
    (hoff : ∀ p ∈ news, p.1 ≠ S)
    (it : ∀ Q : Value → Shared → Prop, (∀ h' tk I io d St, Fr h₀ L h' m → News h₀ L h' ((I, io) :: (S, listOf #[] c₀) :: news) → S ≠ I → S ≠ d → (∀ p ∈ news, p.1 ≠ I) → Walks PROG w A.in1 I [I, d] [I] n P St → (∀ h, News h₀ L h ((I, io) :: (S, listOf #[] c₀) :: news) → St 0 h) →
      (∀ Q' : Bool → Shared → Prop, (∀ b h' tk, Fr h₀ L h' m → News h₀ L h' ((I, io) :: (S, listOf #[] c₀) :: news) → Q' b { s with heap := h', toks := tk }) → wpAny (model PROG w) A.in1 (Builtin.List.listLengthHint (.ref x)) Q' (fun e s' => R (.error e) s') { s with heap := h', toks := tk }) →
      Q (.ref I) { s with heap := h', toks := tk }) → wpAny (model PROG w) A.in1 (pyIter (.ref x)) Q (fun e s' => R (.error e) s') s)
    (hR : ∀ h' tk vs c, Fr h₀ L h' m → News h₀ L h' ((S, listOf (List.toArray vs) c) :: news) → vs.length = n → (∀ j v, vs[j]? = some v → P j v) → R (.ok (.ret res)) { s with heap := h', toks := tk }) :
    wpAny (model PROG w) A.in1 (Builtin.List.listExtendWith (.ref S) (.ref x) res)
      (fun fin s' => match fin with | .done f => R (.ok f) s' | .again c' => c'.quiet = true ∧ codeAny (model PROG w) A c' R s') (fun e s' => R (.error e) s') s := by
  unfold Builtin.List.listExtendWith
  refine wpAny_bind (ht _ ?_)
  have h1 : Builtin.List.listSameRef (.ref S) (.ref x) = false := by simp [Builtin.List.listSameRef, hxS]
  simp only [h1, hc1, hc2, Bool.or_false, Bool.false_eq_true, if_false]
  refine wpAny_bind (it _ fun h₁ tk₁ I io d St F₁ N₁ hSI hSd hI W st hint => ?_)
  refine wpAny_bind (wpAny_holding (hint _ fun b h₂ tk₂ F₂ N₂ => ?_))
  refine wpAny_ite_split (fun _ => ?_) (fun _ => wpAny_pure ⟨plainId_quiet PySem.F.plain_extend_loop _, fill_loop W hn F₂ N₂ hSI hSd (fun p hp => ⟨hoff p hp, hI p hp⟩) (st _ N₂) hR⟩)
  refine wpAny_bind (wpAny_rule ?_)
  refine wpAny_bind ?_
  show wpAny _ _ (updateSeq S (·.push .none) >>= fun _ => updateSeq S (·.pop)) _ _ _
  have hS₁ : h₂.get? S = some (listOf #[] c₀) := (N₂ (S, listOf #[] c₀) (.tail _ (.head _))).1
  refine wpAny_bind (wpAny_updateSeq hS₁ rfl ?_)
  have hS₂ := Heap.get?_update_self (Obj.mapSeq (·.push Value.none)) hS₁ rfl
  refine wpAny_updateSeq (hz := by seq_fits) hS₂ rfl ?_
  obtain ⟨c₁, hS₃⟩ : ∃ c₁, ((h₂.update S (Obj.mapSeq (·.push Value.none))).update S (Obj.mapSeq (·.pop))).get? S = some (listOf #[] c₁) := ⟨_, Heap.get?_update_self (Obj.mapSeq (·.pop)) hS₂ rfl⟩
  have hk : ∀ b o, b ≠ S → h₂.get? b = some o → ((h₂.update S (Obj.mapSeq (·.push Value.none))).update S (Obj.mapSeq (·.pop))).get? b = some o := fun b o hb e =>
    (Heap.get?_update_other _ _ (Ne.symm hb)).trans ((Heap.get?_update_other _ _ (Ne.symm hb)).trans e)
  refine wpAny_pure ⟨plainId_quiet PySem.F.plain_extend_loop _, fill_loop (I := I) (d := d) W hn (fr_moved F₂ N₂ fun b o hb _ e => hk b o hb e) (c₀ := c₁) (io := io) (fun p hp => ?_) hSI hSd (fun p hp => ⟨hoff p hp, hI p hp⟩) (W.frame 0 _ _ (st _ N₂) fun b hb o e => hk b o (fun q => ?_) e) hR⟩
  · rcases List.mem_cons.mp hp with rfl | hp
    · exact ⟨hk _ _ (Ne.symm hSI) (N₂ _ (.head _)).1, (N₂ _ (.head _)).2⟩
    rcases List.mem_cons.mp hp with rfl | hp
    · exact ⟨hS₃, (N₂ (S, listOf #[] c₀) (.tail _ (.head _))).2⟩
    · have := N₂ p (.tail _ (.tail _ hp))
      exact ⟨hk _ _ (hoff p hp) this.1, this.2⟩
  · subst q
    simp only [List.mem_cons, List.not_mem_nil, or_false] at hb
    rcases hb with e | e
    · exact hSI e
    · exact hSd e

/-- what fills a list from x -/
def ExtSrc (w : World) (A : Around) (h₀ : Heap) (L : Addr) (m : Str → Option Value) (gens : Shared) (newsA newsB : List (Addr × Obj)) (x : Addr) (n : Nat) (P : Nat → Value → Prop) : Prop :=
  ∀ (h : Heap) (tk : Nat) (S : Addr) (c₀ : Nat) (res : Value) (R : Result → Shared → Prop), Fr h₀ L h m → News h₀ L h ((S, listOf #[] c₀) :: newsA) → (∀ p ∈ newsA, p.1 ≠ S) →
    (∀ h' tk vs c, Fr h₀ L h' m → News h₀ L h' ((S, listOf (List.toArray vs) c) :: newsB) → vs.length = n → (∀ j v, vs[j]? = some v → P j v) → R (.ok (.ret res)) { gens with heap := h', toks := tk }) →
    wpAny (model PROG w) A.in1 (Builtin.List.listExtendWith (.ref S) (.ref x) res)
      (fun fin s' => match fin with | .done f => R (.ok f) s' | .again c' => c'.quiet = true ∧ codeAny (model PROG w) A c' R s') (fun e s' => R (.error e) s') { gens with heap := h, toks := tk }

theorem ext_list {Q E : Value → Shared → Prop} (K : ExtSrc w A.in1 h₀ L m s newsA newsB x n P) (F : Fr h₀ L s.heap m) (N : News h₀ L s.heap newsA)
    (h : ∀ D c h' tk vs, Fr h₀ L h' m → News h₀ L h' ((D, listOf (List.toArray vs) c) :: newsB) → (∀ q ∈ newsA, q.1 < D) → vs.length = n → (∀ j v, vs[j]? = some v → P j v) → Q (.ref D) { s with heap := h', toks := tk }) :
    wpAny (model PROG w) A (call (.type "list") [.ref x]) Q E s := by
  refine callType_codes (Q₁ := fun obj s₁ => obj = .ref s.heap.objs.size ∧ s₁ = { s with heap := s.heap.push { cls := .type "list", data := .seq #[] } }) PySem.F.called_list (PySem.F.typeCall_list_1 _) PySem.F.entry_list_init
    (code_list_new _ ⟨rfl, rfl⟩) fun obj s₁ h₁ => ?_
  obtain ⟨rfl, rfl⟩ := h₁
  have hS : (s.heap.push { cls := .type "list", data := .seq #[] }).get? s.heap.objs.size = some { cls := .type "list", data := .seq #[] } := Heap.get?_push_size _ rfl
  refine ⟨⟨_, hS, rfl⟩, PySem.F.args_list_init_2 _ _, ?_⟩
  show wpAny _ _ (do let old ← Builtin.List.listItems (.ref s.heap.objs.size); Builtin.List.listUpdate (.ref s.heap.objs.size) (fun _ => #[]); letGo old.toList.reverse; Builtin.List.listExtendWith (.ref s.heap.objs.size) (.ref x) .none) _ _ _
  refine wpAny_bind ?_
  unfold Builtin.List.listItems
  refine wpAny_bind (wpAny_seqItems hS rfl (wpAny_pure ?_))
  show wpAny _ _ (updateSeq s.heap.objs.size (fun _ => #[]) >>= fun _ => letGo (#[] : Array Value).toList.reverse >>= fun _ => Builtin.List.listExtendWith (.ref s.heap.objs.size) (.ref x) .none) _ _ _
  refine wpAny_bind (wpAny_updateSeq hS rfl ?_)
  obtain ⟨c₁, hS₂⟩ : ∃ c₁, ((s.heap.push { cls := .type "list", data := .seq #[] }).update s.heap.objs.size (Obj.mapSeq (fun _ => (#[] : Array Value)))).get? s.heap.objs.size = some (listOf #[] c₁) := ⟨_, Heap.get?_update_self (Obj.mapSeq (fun _ => (#[] : Array Value))) hS rfl⟩
  have oth : ∀ b o, b ≠ s.heap.objs.size → (s.heap.push { cls := .type "list", data := .seq #[] }).get? b = some o → ((s.heap.push { cls := .type "list", data := .seq #[] }).update s.heap.objs.size (Obj.mapSeq (fun _ => (#[] : Array Value)))).get? b = some o :=
    fun b o hb e => (Heap.get?_update_other _ _ (Ne.symm hb)).trans e
  refine wpAny_bind (wpAny_letGo ?_)
  have keep : ∀ b o, s.heap.get? b = some o → ((s.heap.push { cls := .type "list", data := .seq #[] }).update s.heap.objs.size (Obj.mapSeq (fun _ => (#[] : Array Value)))).get? b = some o :=
    fun b o e => oth b o (Nat.ne_of_lt (Heap.lt_size e)) (Heap.get?_push_of_some _ e)
  refine K _ _ s.heap.objs.size c₁ .none _ (F.keeps keep) (fun p hp => ?_) (fun p hp => Nat.ne_of_lt (Heap.lt_size (N p hp).1)) fun h' tk vs c F' N' hl hv => ?_
  · rcases List.mem_cons.mp hp with rfl | hp
    · exact ⟨hS₂, Ne.symm (Nat.ne_of_lt F.ns.lt), F.fresh⟩
    · exact ⟨keep _ _ (N p hp).1, (N p hp).2⟩
  · exact ⟨rfl, h _ _ h' tk vs F' N' (fun q hq => Heap.lt_size (N q hq).1) hl hv⟩

theorem ext_collect {E : Value → Shared → Prop} {R' : List Value → Shared → Prop} (K : ExtSrc w A h₀ L m s newsA newsB x n P) (F : Fr h₀ L s.heap m) (N : News h₀ L s.heap newsA)
    (h : ∀ D c h' tk vs, Fr h₀ L h' m → News h₀ L h' ((D, listOf (List.toArray vs) c) :: newsB) → vs.length = n → (∀ j v, vs[j]? = some v → P j v) → R' vs { s with heap := h', toks := tk }) :
    wpAny (model PROG w) A (collect (.ref x)) R' E s := by
  unfold collect
  refine wpAny_bind (wpAny_runValue (codeAny_builtin entry_proto_collect' ?_))
  rw [Around.under_plainId PySem.F.plain_proto_collect _]
  show wpAny _ A.in1 (newList [] >>= fun l => again (.builtin "list.__iadd__" ⟨[l, .ref x], []⟩)) _ _ s
  refine wpAny_bind (wpAny_newObj_type ?_)
  refine wpAny_pure ⟨plainId_quiet PySem.F.plain_list_iadd _, codeAny_builtin entry_list_iadd' ?_⟩
  rw [Around.under_plainId PySem.F.plain_list_iadd _]
  have hS₁ : (s.heap.push { cls := .type "list", data := .seq ([] : List Value).toArray }).get? s.heap.objs.size = some (listOf #[] 0) := Heap.get?_push_size _ rfl
  show wpAny _ A.in1 (Builtin.List.listExtendWith (.ref s.heap.objs.size) (.ref x) (.ref s.heap.objs.size)) _ _ _
  have key := K (s.heap.push { cls := .type "list", data := .seq ([] : List Value).toArray }) s.toks s.heap.objs.size 0 (.ref s.heap.objs.size)
    (fun (q : Result) (s' : Shared) => ∃ (h' : Heap) (tk : Nat) (vs : List Value) (c' : Nat), q = .ok (.ret (.ref s.heap.objs.size)) ∧ s' = { s with heap := h', toks := tk } ∧
      Fr h₀ L h' m ∧ News h₀ L h' ((s.heap.objs.size, listOf vs.toArray c') :: newsB) ∧ vs.length = n ∧ (∀ j v, vs[j]? = some v → P j v))
    (F.push _) (fun p hp => ?_) (fun p hp => Nat.ne_of_lt (Heap.lt_size (N p hp).1)) (fun h' tk vs c F' N' hl hv => ⟨h', tk, vs, c, rfl, rfl, F', N', hl, hv⟩)
  · refine wpAny_mono key (fun fin s' x => ?_) fun e s' x => ?_
    · cases fin with
      | done f =>
        obtain ⟨h', tk, vs, c', e, rfl, F', N', hl, hv⟩ := x
        cases e
        show wpAny _ A (load s.heap.objs.size >>= _) _ _ _
        refine wpAny_bind (wpAny_load (N' _ (.head _)).1 ?_)
        exact wpAny_pure (h _ _ h' tk vs F' N' hl hv)
      | again c₁ =>
        refine ⟨x.1, codeAny_mono x.2 fun q s₂ y => ?_⟩
        obtain ⟨h', tk, vs, c', rfl, rfl, F', N', hl, hv⟩ := y
        show wpAny _ A (load s.heap.objs.size >>= _) _ _ _
        refine wpAny_bind (wpAny_load (N' _ (.head _)).1 ?_)
        exact wpAny_pure (h _ _ h' tk vs F' N' hl hv)
    · obtain ⟨_, _, _, _, e', _⟩ := x
      cases e'
  · rcases List.mem_cons.mp hp with rfl | hp
    · exact ⟨hS₁, Ne.symm (Nat.ne_of_lt F.ns.lt), F.fresh⟩
    · exact ⟨Heap.get?_push_of_some _ (N p hp).1, (N p hp).2⟩

theorem ext_sorted {Q E : Value → Shared → Prop} {ns : List Int} (K : ExtSrc w A.in1 h₀ L m s newsA newsB x n P) (F : Fr h₀ L s.heap m) (N : News h₀ L s.heap newsA) (h64 : n < 64)
    (hints : ∀ vs : List Value, vs.length = n → (∀ j v, vs[j]? = some v → P j v) → IntsAre vs ns)
    (h : ∀ D c h' tk vs ms, Fr h₀ L h' m → News h₀ L h' ((D, listOf (List.toArray vs) c) :: newsB) → (∀ q ∈ newsB, q.1 < D) → IntsAre vs ms → ms.Perm ns → ms.Pairwise (· ≤ ·) → Q (.ref D) { s with heap := h', toks := tk }) :
    wpAny (model PROG w) A (call (.builtin "sorted") [.ref x]) Q E s := by
  refine call_function_entry kind_sorted plain_sorted entry_sorted (args_sorted1 _) ?_
  unfold Builtin.«sorted»
  refine wpAny_bind (m := checkCount "sorted" 1 1 _) (wpAny_pure ?_)
  refine wpAny_bind (ext_collect (A := A.in1) K F N fun D c h' tk vs F' N' hl hv => ?_)
  have hI := hints vs hl hv
  refine wpAny_bind (wpAny_newList ?_ (by rw [hl, sizeLine_eq]; omega))
  have hoL : (h'.push (seqObj "list" vs.toArray 0)).get? h'.objs.size = some (seqObj "list" vs.toArray 0) := Heap.get?_push_size _ rfl
  refine wpAny_bind (wpAny_holding (wpAny_call_entry slot_list_sort ⟨_, hoL, rfl⟩ entry_list_sort (list_sort_tree hoL hI (by omega) fun out ns' a1 a2 a3 => ⟨_, rfl, ?_⟩) (args_list_sort _)))
  obtain ⟨e, he⟩ := sortedHeap_at (out := out) hoL
  have keep : ∀ b o, h'.get? b = some o → (sortedHeap (h'.push (seqObj "list" vs.toArray 0)) h'.objs.size vs out).get? b = some o := fun b o e => by
    have hlt := Heap.lt_size e
    rw [sortedHeap_old (Nat.ne_of_lt hlt) (by rw [size_push']; exact Nat.lt_succ_of_lt hlt)]
    exact Heap.get?_push_of_some _ e
  refine wpAny_pure ⟨_, rfl, h _ e _ _ out.toList ns' (F'.keeps keep) (fun p hp => ?_) (fun q hq => Heap.lt_size (N' q (.tail _ hq)).1) a1 a2 a3⟩
  rcases List.mem_cons.mp hp with rfl | hp
  · exact ⟨by rw [Array.toArray_toList]; exact he, Ne.symm (Nat.ne_of_lt F'.ns.lt), F'.fresh⟩
  · exact ⟨keep _ _ (N' p (.tail _ hp)).1, (N' p (.tail _ hp)).2⟩
end

-- part Fill2
/-! the two sources -/
theorem slot_drk_hint : Slot "dict_reversekeyiterator" "__length_hint__" "dict_reversekeyiterator.__length_hint__" :=
  .of (owner := "dict_reversekeyiterator") (n := "__length_hint__") (by rw [typeLookup_type, builtinLookup_eq_fast]; kernel_rfl) (by decide +kernel) (by decide +kernel) (by decide +kernel)
    (by first | exact .inl (by decide +kernel) | exact .inr (by decide +kernel)) (by rw [isSubtype_type]; kernel_rfl)
theorem drk_len_none : typeLookup (.type "dict_reversekeyiterator") "__len__" = pure none := by rw [typeLookup_type, builtinLookup_eq_fast]; kernel_rfl
theorem entry_drk_hint : entryFor table "dict_reversekeyiterator.__length_hint__" = some Builtin.«dict_itemiterator.__length_hint__» :=
  entryFor_alias (id' := "dict_itemiterator.__length_hint__") (by kernel_rfl) (by first | rfl | decide +kernel | (unfold String.splitOn; simp +decide [String.splitOnAux])) (by decide +kernel) (by kernel_rfl)
theorem args_drk_hint_1 (a : Value) : argsOk "dict_reversekeyiterator.__length_hint__" ⟨[a], []⟩ := by
  unfold argsOk; rw [signature?_of (id := "dict_reversekeyiterator.__length_hint__") (n := ['_', '_', 't', 'n', 'i', 'h', '_', 'h', 't', 'g', 'n', 'e', 'l', '_', '_']) (o := ['r','o','t','a','r','e','t','i','y','e','k','e','s','r','e','v','e','r','_','t','c','i','d']) (by kernel_rfl) owner_drk]; kernel_rfl
section
variable {prog : Program} {w : World} {K : Type} [DecidableEq K] {knd : KeyKind prog w K} {A : Around} {E : Value → Shared → Prop} {s : Shared} {it d : Addr} {ep : Nat} {kvs : List (K × Value)} {k : K} {v : Value}
theorem drk_hint {i : Int} {Q : Bool → Shared → Prop} (hit : IsRev s.heap it d i kvs.length ep) (hm : s.heap.DictAt knd d kvs ep) (hi : -1 ≤ i) (hi2 : i < kvs.length) (hz : kvs.length ≤ 1000)
    (h : ∀ b tk, Q b { s with toks := tk }) : wpAny (model prog w) A (Builtin.List.listLengthHint (.ref it)) Q E s := by
  have hT := hit.typeIs
  obtain ⟨o, ho, hc, hd⟩ := id hit
  obtain ⟨od, es, hod, hcd, hdd, hk, hp, hn⟩ := id hm
  have hsz : es.size = kvs.length := by rw [← hp.length]; simp
  unfold Builtin.List.listLengthHint
  refine wpAny_bind (wpAny_specialOf hT drk_len_none ?_)
  dsimp only
  refine wpAny_ite_split (fun hab => absurd hab (by first | exact Bool.false_ne_true | decide)) (fun _ => ?_)
  refine wpAny_ite_split (fun hab => absurd hab (by simp)) (fun _ => ?_)
  refine wpAny_bind (wpAny_specialOf hT slot_drk_hint.lookup ?_)
  generalize hid : ("dict_reversekeyiterator.__length_hint__" : String) = id0
  wp_delta
  rw [show splitId id0 = some ("dict_reversekeyiterator", "__length_hint__") from by subst hid; decide +kernel]
  subst hid
  refine wpAny_bind (wpAny_isInstance (T := "dict_reversekeyiterator") (b := true) hT (by rw [isSubtype_type]; kernel_rfl) ?_)
  refine wpAny_ite_split (fun hab => absurd hab (by decide)) (fun _ => ?_)
  refine wpAny_ite_split (fun hab => absurd hab (by decide +kernel)) (fun _ => ?_)
  refine wpAny_bind (wpAny_rule ?_)
  refine wpAny_bind (wpAny_of_eq (slot_drk_hint.bind _) ?_)
  refine wpAny_bind (wpAny_attempt (wpAny_call_entry slot_drk_hint hT entry_drk_hint ?_ (args_drk_hint_1 _)))
  unfold Builtin.«dict_itemiterator.__length_hint__»
  refine wpAny_bind (wpAny_pure ?_)
  refine wpAny_bind (wpAny_fieldsOf ho hd ?_)
  refine wpAny_bind (wpAny_bind (drk_name hit.typeIs (wpAny_pure ?_)))
  have hown : Builtin.Dict_items.ownsTuple "dict_reversekeyiterator" = false := by decide
  simp only [hown, Bool.false_eq_true, if_false]
  show wpAny _ _ (if (Value.ref d == Value.none) = true then _ else _) _ _ s
  rw [if_neg (show ¬ ((Value.ref d == Value.none) = true) from Bool.false_ne_true)]
  refine wpAny_bind (m := Builtin.Dict_items.addrOf (.ref d)) (wpAny_pure ?_)
  refine wpAny_bind (wpAny_dictEntries hod hdd ?_)
  rw [if_neg (by simp [hsz])]
  refine wpAny_bind (drk_oneOf hit.typeIs ?_)
  refine wpAny_bind (wpAny_mkInt (wpAny_pure ⟨_, rfl, ?_⟩))
  dsimp only
  refine wpAny_bind (m := asInt? _) (wpAny_pure ?_)
  dsimp only
  rw [if_neg (by simp only [Builtin.List.listFitsIndex]; split <;> simp <;> omega), if_neg (by split <;> omega), if_neg (by simp only [Builtin.List.listTooLong, sizeLine_eq]; split <;> simp <;> omega)]
  exact wpAny_pure (h _ _)
end

theorem ints_of_keys {prog : Program} {w : World} : ∀ {ns : List Int} {vs : List Value}, vs.length = (kv ns).length → (∀ (i : Nat) (v : Value), vs[i]? = some v → ∃ k x, (kv ns)[i]? = some (k, x) ∧ (intKind prog w).is k v = true) → IntsAre vs ns
  | [], [], _, _ => .nil
  | n :: ns, v :: vs, hl, hv => by
    obtain ⟨k, x, h1, h2⟩ := hv 0 v rfl
    have h1' : (n, Value.none) = (k, x) := Option.some.inj h1
    obtain ⟨t, rfl⟩ := PySem.Value.isInt_shape h2
    have : n = k := congrArg Prod.fst h1'
    subst this
    exact .cons n t (ints_of_keys (by simpa using hl) fun i v hi => hv (i + 1) v hi)
  | [], _ :: _, hl, _ => by cases hl
  | _ :: _, [], hl, _ => by cases hl
section
variable {w : World} {dp un : Nat} {gd : Option (List Code)} {cn : Str} {cs : Scope} {a : Addr} {ccd : Value} {cl : List (Str × Addr)} {outer : List Env} {A₀ : Around} {base h₀ : Heap} {L : Addr} {m : Str → Option Value} {s : Shared}
    {mean : ExcName → Option Value} {mg mb : Str → Option Value} {x dx d : Addr} {ta : Tok} {na : Nat} {o : Obj} {ks : List Int} {news : List (Addr × Obj)} {k : Int} {t : Tok}
variable (B : Below A₀ base outer h₀) (X : (hd.heap_39 w.params).In h₀) (T : Top hd.view_39 (looseW hd.view_39 [Str.ofString "OrderedSet"]) mean mg mb h₀) (hk : cs.kind = .function)
  (hdp : dp + 2 < recursionLimit) (hun : un + 40 < cLine) (mx : (x, instObj 203 dx) ∈ news) (mdx : (dx, dictOf (attrs w ta d) na) ∈ news) (md : (d, o) ∈ news) (ho : o.IsDictOf (IK w) (kv ks)) (lo : (d == sysModules) = false) (hz : ks.length ≤ 1000)
include B X T hk hdp hun mx mdx
theorem inst_type {E : Value → Shared → Prop} {Q : Value → Shared → Prop} {A : Around} (F : Fr h₀ L s.heap m) (N : News h₀ L s.heap news) (h : Q (.ref 203) s) : wpAny (model PySem.Challenge.rw_bq0028_01.row.prog w) A (typeOf (.ref x)) Q E s :=
  (InstAt.of_news N mx mdx (C := 203)).type.here h
include hz md ho lo
omit hun in
theorem hint_own (hun : un + 35 < cLine) {E : Value → Shared → Prop} {Q : Bool → Shared → Prop} (F : Fr h₀ L s.heap m) (N : News h₀ L s.heap news) (h : ∀ b h' tk, Fr h₀ L h' m → News h₀ L h' news → Q b { s with heap := h', toks := tk }) :
    wpAny (model PySem.Challenge.rw_bq0028_01.row.prog w) (ktrTop dp un gd cn cs L a ccd cl outer) (Builtin.List.listLengthHint (.ref x)) Q E s := by
  revert X; k_fill; intro X
  have I : InstAt s.heap x (instObj 203 dx) 203 (some (dictOf (attrs w ta d) na)) := InstAt.of_news N mx mdx
  have hs : findIn (hd.heap_39 w.params) (.ref 203) "__len__" = some (some (.ref 64)) := by k_is
  have hf : isFn (hd.heap_39 w.params) (.ref 64) = true := by k_is
  unfold Builtin.List.listLengthHint
  refine wpAny_bind (wpAny_bind (I.type.here ((looks_findIn (X.keeps F.keep) hs).here ?_)))
  dsimp only
  refine wpAny_ite_split (fun hab => absurd hab (by first | exact Bool.false_ne_true | decide)) (fun _ => ?_)
  refine wpAny_ite_split (fun _ => ?_) (fun hab => absurd rfl hab)
  refine wpAny_bind (wpAny_rule ?_)
  refine wpAny_bind (wpAny_attempt (PySem.W.len_K F X I hs hf (wpAny_call (len_K (un := un + 1) B F X T hk hdp (by omega) N mx mdx md ho lo hz fun h' tk t F' N' => ?_))))
  refine ⟨by omega, ?_⟩
  dsimp only
  refine wpAny_bind (m := asInt? _) (wpAny_pure ?_)
  dsimp only
  rw [if_neg (by simp only [Builtin.List.listTooLong, sizeLine_eq]; simp; omega)]
  exact wpAny_pure (h _ _ _ F' N')
theorem ext_own : ExtSrc w (ktrTop dp un gd cn cs L a ccd cl outer) h₀ L m s news news x (kv ks).length (fun i v => ∃ k x, (kv ks)[i]? = some (k, x) ∧ (IK w).is k v = true) := by
  intro h tk S c₀ res R F N hoff hR
  refine fill_ext (c₀ := c₀) (C := .ref 203) (E := fun _ _ => True) (hoff _ mx).symm (by rw [kv_length, sizeLine_eq]; omega) (fun Q hq => inst_type B X T hk hdp hun (List.mem_cons_of_mem _ mx) (List.mem_cons_of_mem _ mdx) F N hq) rfl rfl hoff (fun Q hQ => ?_) hR
  refine pyIter_own (un := un + 1) B F X T hk hdp N (List.mem_cons_of_mem _ mx) (List.mem_cons_of_mem _ mdx) (List.mem_cons_of_mem _ md) ho lo (by omega) ?_
  intro h' tk' I oI ep F' N' hlt hi ha
  have hSI : S ≠ I := Nat.ne_of_lt (hlt _ (.head _))
  have W := Walks.dictKeys (prog := PySem.Challenge.rw_bq0028_01.row.prog) (w := w) (knd := IK w) (A := (ktrTop dp un gd cn cs L a ccd cl outer).in1) rfl I d (Nat.ne_of_lt (hlt _ (.tail _ md))) (kv ks) ep
  refine hQ h' tk' I oI d _ F' N' hSI (hoff _ md).symm (fun p hp => Nat.ne_of_lt (hlt p (.tail _ hp))) W (fun h₁ N₁ => ?_) (fun Q' hq' => ?_)
  · rw [← kv_length] at hi
    exact ⟨hi.at (N₁ _ (.head _)).1, ha.dictAt (N₁ _ (.tail _ (.tail _ md))).1⟩
  · exact hint_own (un := un + 1) (s := { s with heap := h', toks := tk' }) B X T hk hdp (.tail _ (.tail _ mx)) (.tail _ (.tail _ mdx)) (.tail _ (.tail _ md)) ho lo hz (by omega) F' N' fun b h₂ tk₂ F₂ N₂ => hq' b h₂ tk₂ F₂ N₂
end
section
variable {w : World} {A : Around} {h₀ : Heap} {L : Addr} {m : Str → Option Value} {s : Shared} {d I : Addr} {o io : Obj} {ep : Nat} {ks : List Int} {news : List (Addr × Obj)}
theorem ext_rev (hh : A.handled = none) (md : (d, o) ∈ news) (hi : KdkRev io d ((ks.length : Int) - 1) ks.length ep) (ha : KdkAt (IK w) o (kv ks) ep) (hz : ks.length ≤ 1000) (hoffI : ∀ p ∈ news, p.1 ≠ I) :
    ExtSrc w A h₀ L m s ((I, io) :: news) news I (kv ks).length (fun i v => ∃ k x, (kv ks).reverse[i]? = some (k, x) ∧ (IK w).is k v = true) := by
  intro h tk S c₀ res R F N hoff hR
  have N' : News h₀ L h ((I, io) :: (S, listOf #[] c₀) :: news) := by
    intro p hp
    refine N p ?_
    simp only [List.mem_cons] at hp ⊢
    rcases hp with e | e | e
    · exact .inr (.inl e)
    · exact .inl e
    · exact .inr (.inr e)
  rw [← kv_length] at hi
  have hrev : ∀ h', News h₀ L h' ((I, io) :: (S, listOf #[] c₀) :: news) → IsRev h' I d (((kv ks).length : Int) - 1) (kv ks).length ep ∧ h'.DictAt (IK w) d (kv ks) ep := fun h' N₁ => ⟨hi.at (N₁ _ (.head _)).1, ha.dictAt (N₁ _ (.tail _ (.tail _ md))).1⟩
  refine fill_ext (c₀ := c₀) (C := .type "dict_reversekeyiterator") (E := fun _ _ => True) (Ne.symm (hoff _ (.head _))) (by rw [kv_length, sizeLine_eq]; omega) (fun Q hq => wpAny_typeOf (hrev _ N').1.typeIs hq) (by decide) (by decide) (fun p hp => hoff p (.tail _ hp)) (fun Q hQ => ?_) hR
  refine drk_self (hrev _ N').1 ?_
  refine hQ h tk I io d _ F N' (Ne.symm (hoff _ (.head _))) (Ne.symm (hoff _ (.tail _ md))) hoffI (drk_walks (A := A.in1) hh I d (hoffI _ md) (kv ks) ep) (fun h₁ N₁ => ?_) (fun Q' hq' => ?_)
  · have := hrev _ N₁
    exact ⟨by simpa using this.1, this.2⟩
  · have := hrev _ N'
    exact drk_hint this.1 this.2 (by omega) (by omega) (by rw [kv_length]; omega) fun b tk' => hq' b h tk' F N'
theorem ints_of_rev {vs : List Value} (hl : vs.length = (kv ks).length) (hv : ∀ (i : Nat) (v : Value), vs[i]? = some v → ∃ k x, (kv ks).reverse[i]? = some (k, x) ∧ (IK w).is k v = true) : IntsAre vs ks.reverse := by
  refine ints_of_keys (prog := PySem.Challenge.rw_bq0028_01.row.prog) (w := w) (by rw [hl, kv_length, kv_length, List.length_reverse]) (fun i v h => ?_)
  have := hv i v h
  rw [kv, ← List.map_reverse] at this
  exact this
end

-- part Same
/-! `_law_same` -/
section
variable {w : World} {dp un : Nat} {gd : Option (List Code)} {cn : Str} {cs : Scope} {a : Addr} {ccd : Value} {cl : List (Str × Addr)} {outer : List Env} {A₀ : Around} {base h₀ : Heap} {L : Addr} {m : Str → Option Value} {s : Shared}
    {mean : ExcName → Option Value} {mg mb : Str → Option Value} {x dx d : Addr} {ta : Tok} {na : Nat} {o : Obj} {ks : List Int} {news : List (Addr × Obj)} {E Q : Value → Shared → Prop}
section
variable (B : Below A₀ base outer h₀) (F : Fr h₀ L s.heap m) (X : (hd.heap_39 w.params).In h₀) (T : Top hd.view_39 (looseW hd.view_39 [Str.ofString "OrderedSet"]) mean mg mb h₀) (hk : cs.kind = .function)
  (hdp : dp + 2 < recursionLimit) (hun : un + 50 < cLine) (N : News h₀ L s.heap news) (mx : (x, instObj 203 dx) ∈ news) (mdx : (dx, dictOf (attrs w ta d) na) ∈ news) (md : (d, o) ∈ news) (ho : o.IsDictOf (IK w) (kv ks)) (lo : (d == sysModules) = false)
include B F X T hk hdp hun N mx mdx md ho lo
theorem list_own (hz : ks.length ≤ 1000) (h : ∀ D c h' tk vs, Fr h₀ L h' m → News h₀ L h' ((D, listOf (List.toArray vs) c) :: news) → (∀ q ∈ news, q.1 < D) → IntsAre vs ks → Q (.ref D) { s with heap := h', toks := tk }) :
    wpAny (model PySem.Challenge.rw_bq0028_01.row.prog w) (ktrTop dp un gd cn cs L a ccd cl outer) (call (.type "list") [.ref x]) Q E s :=
  ext_list (ext_own (un := un + 1) B X T hk hdp (by omega) mx mdx md ho lo hz) F N fun D c h' tk vs F' N' hlt hl hv => h D c h' tk vs F' N' hlt (ints_of_keys hl hv)
theorem sorted_own (hz : ks.length < 64) (h : ∀ D c h' tk vs ms, Fr h₀ L h' m → News h₀ L h' ((D, listOf (List.toArray vs) c) :: news) → (∀ q ∈ news, q.1 < D) → IntsAre vs ms → ms.Perm ks → ms.Pairwise (· ≤ ·) → Q (.ref D) { s with heap := h', toks := tk }) :
    wpAny (model PySem.Challenge.rw_bq0028_01.row.prog w) (ktrTop dp un gd cn cs L a ccd cl outer) (call (.builtin "sorted") [.ref x]) Q E s :=
  ext_sorted (ext_own (un := un + 1) B X T hk hdp (by omega) mx mdx md ho lo (by omega)) F N (by rw [kv_length]; exact hz) (fun vs hl hv => ints_of_keys hl hv) fun D c h' tk vs ms F' N' hlt hi hp hs => h D c h' tk vs ms F' N' hlt hi hp hs
end
variable {A : Around} {I : Addr} {io : Obj} {ep : Nat}
theorem list_rev (hh : A.handled = none) (F : Fr h₀ L s.heap m) (N : News h₀ L s.heap ((I, io) :: news)) (l1 : AllLt I news) (md : (d, o) ∈ news) (hi : KdkRev io d ((ks.length : Int) - 1) ks.length ep) (ha : KdkAt (IK w) o (kv ks) ep) (hz : ks.length ≤ 1000)
    (h : ∀ D c h' tk vs, Fr h₀ L h' m → News h₀ L h' ((D, listOf (List.toArray vs) c) :: news) → (∀ q ∈ news, q.1 < D) → IntsAre vs ks.reverse → Q (.ref D) { s with heap := h', toks := tk }) :
    wpAny (model PySem.Challenge.rw_bq0028_01.row.prog w) A (call (.type "list") [.ref I]) Q E s :=
  ext_list (ext_rev (A := A.in1) hh md hi ha hz (allLt_ne l1)) F N fun D c h' tk vs F' N' hlt hl hv => h D c h' tk vs F' N' (fun q hq => hlt q (.tail _ hq)) (ints_of_rev hl hv)
end
theorem any_mem (ks : List Int) (k : Int) : (ks.any fun x => x == k) = decide (k ∈ ks) := by
  induction ks with
  | nil => rfl
  | cons a r ih =>
    rw [List.any_cons, ih]
    by_cases h : k = a
    · subst h; simp
    · have h' : (a == k) = false := by simp only [beq_eq_false_iff_ne, ne_eq]; exact fun e => h e.symm
      simp [h, h']
theorem getD_zero {ks : List Int} (h : ks ≠ []) : ks[0]? = some (ks.getD 0 0) := by
  cases ks with
  | nil => exact absurd rfl h
  | cons k r => rfl
theorem getD_last {ks : List Int} (h : ks ≠ []) : ks[ks.length - 1]? = some (ks.getD (ks.length - 1) 0) := by
  have : 0 < ks.length := List.length_pos_iff.mpr h
  rw [List.getD_eq_getElem?_getD, List.getElem?_eq_getElem (by omega)]; rfl
local macro_rules | `(tactic| walk_at "call ref") => `(tactic| (k_here; (with_reducible show wpAny _ _ (call (Value.ref 71) _) _ _ _); k_dflt (show wpAny _ _ (call (Value.ref 71) [Value.ref _]) _ _ _); refine wpAny_call ?_; k_dflt (refine' first_K ?B ?F ?X ?T ?k ?hd ?hu ?N ?mx ?mdx ?md ?ho ?lo (getD_zero ?z) ?_; (case B => k_asm); (case F => k_asm); (case X => k_asm); (case T => k_asm); (case k => first | exact rfl | assumption); (case N => k_asm); (case mx => k_mem); (case mdx => k_mem); (case md => k_mem); (case ho => k_asm); (case lo => k_asm); (case hd => ktr_room); (case hu => ktr_units); (case z => assumption)); intro h' tk' t' F' N'; (try dsimp only); walk_say "FIRST"))
local macro_rules | `(tactic| walk_at "call ref") => `(tactic| (k_here; (with_reducible show wpAny _ _ (call (Value.ref 78) _) _ _ _); k_dflt (show wpAny _ _ (call (Value.ref 78) [Value.ref _]) _ _ _); refine wpAny_call ?_; k_dflt (refine' last_K ?B ?F ?X ?T ?k ?hd ?hu ?N ?mx ?mdx ?md ?ho ?lo ?i (getD_last ?z) ?_; (case B => k_asm); (case F => k_asm); (case X => k_asm); (case T => k_asm); (case k => first | exact rfl | assumption); (case N => k_asm); (case mx => k_mem); (case mdx => k_mem); (case md => k_mem); (case ho => k_asm); (case lo => k_asm); (case hd => ktr_room); (case hu => ktr_units); (case z => assumption); (case i => have := List.length_pos_iff.mpr (by assumption : _ ≠ ([] : List Int)); omega)); intro h' tk' t' F' N'; (try dsimp only); walk_say "LAST"))
local macro_rules | `(tactic| walk_at "call type:list") => `(tactic| (k_here; k_dflt (first
  | (refine' list_own ?B ?F ?X ?T ?k ?hd ?hu ?N ?mx ?mdx ?md ?ho ?lo ?z ?_; (case B => k_asm); (case F => k_asm); (case X => k_asm); (case T => k_asm); (case k => first | exact rfl | assumption); (case N => k_asm); (case mx => k_mem); (case mdx => k_mem); (case md => k_mem); (case ho => k_asm); (case lo => k_asm); (case hd => ktr_room); (case hu => ktr_units); (case z => first | k_asm | omega); intro D' c' h' tk' vs' F' N' l1 hI'; (try k_lt l1))
  | (refine' list_rev ?h ?F ?N ?l ?md ?i ?a ?z ?_; (case h => rfl); (case F => k_asm); (case N => k_asm); (case i => k_asm); (case a => k_asm); (case md => k_mem); (case l => k_asm); (case z => first | k_asm | omega); intro D' c' h' tk' vs' F' N' l1 hI'; (try k_lt l1)))))
local macro_rules | `(tactic| walk_at "call builtin:sorted") => `(tactic| (k_here; k_dflt (refine' sorted_own ?B ?F ?X ?T ?k ?hd ?hu ?N ?mx ?mdx ?md ?ho ?lo ?z ?_; (case B => k_asm); (case F => k_asm); (case X => k_asm); (case T => k_asm); (case k => first | exact rfl | assumption); (case N => k_asm); (case mx => k_mem); (case mdx => k_mem); (case md => k_mem); (case ho => k_asm); (case lo => k_asm); (case hd => ktr_room); (case hu => ktr_units); (case z => omega)); intro D' c' h' tk' vs' ms' F' N' l1 hI' hP' hS'; (try k_lt l1)))
section
variable {w : World} {dp un : Nat} {gd : Option (List Code)} {cn : Str} {cs : Scope} {a : Addr} {ccd : Value} {cl : List (Str × Addr)} {outer : List Env} {A₀ : Around} {base h₀ : Heap} {L : Addr} {m : Str → Option Value} {s : Shared}
    {mean : ExcName → Option Value} {mg mb : Str → Option Value} {x dx d r : Addr} {ta : Tok} {na c : Nat} {o : Obj} {ks : List Int} {us : List Value} {news : List (Addr × Obj)} {R : Result → Shared → Prop}
variable (B : Below A₀ base outer h₀) (F : Fr h₀ L s.heap m) (X : (hd.heap_39 w.params).In h₀) (T : Top hd.view_39 (looseW hd.view_39 [Str.ofString "OrderedSet"]) mean mg mb h₀) (hk : cs.kind = .function)
  (hdp : dp + 6 < recursionLimit) (hun : un + 100 < cLine) (N : News h₀ L s.heap news) (mx : (x, instObj 203 dx) ∈ news) (mdx : (dx, dictOf (attrs w ta d) na) ∈ news) (md : (d, o) ∈ news) (ho : o.IsDictOf (IK w) (kv ks)) (lo : (d == sysModules) = false)
  (mr : (r, listOf us.toArray c) ∈ news) (hi : IntsAre us ks) (hz : ks.length ≤ 20)
include B F X T hk hdp hun N mx mdx md ho lo mr hi hz
theorem same_K (h : ∀ h' tk, Fr h₀ L h' m → News h₀ L h' news → R (.ok (.ret (.bool true))) { s with heap := h', toks := tk }) :
    codeAny (model PySem.Challenge.rw_bq0028_01.row.prog w) (ktrTop dp un gd cn cs L a ccd cl outer) (.call (.ref 231) ⟨[.ref x, .ref r], []⟩) R s := by
  have N : News h₀ L s.heap ((r, listOf us.toArray c) :: (x, instObj 203 dx) :: (dx, dictOf (attrs w ta d) na) :: (d, o) :: news) := fun p hp => (canM N mx mdx md) p (by rcases List.mem_cons.mp hp with rfl | hp; exact drop3 _ mr; exact hp)
  revert X; k_fill; intro X
  k_dflt (walk_at "mine enter")
  by_cases hne : ks = []
  · k_steps
    all_goals first
      | (rename _ ≠ _ => q; exact absurd rfl q)
      | (rename (_ != _) = true => q; exact absurd q (by rw [any_mem]; simp))
      | (refine LCg.CompEnd.intro (by k_asm) (by k_asm) _ (fun p hp => hp) ?_ trivial (kci_no rfl rfl); simp only [LCg.Off3, and_true]; assumption)
      | skip
    simp only [hne, decide_true]
    exact h _ _ (by k_asm) (cb_drop (by k_asm) fun p hp => by simp only [List.mem_cons]; simp [hp])
  · have hpos : 0 < ks.length := List.length_pos_iff.mpr hne
    k_steps
    all_goals first
      | (rename _ ≠ _ => q; exact absurd rfl q)
      | (rename (_ != _) = true => q; exact absurd q (by rw [any_mem]; simp))
      | (refine LCg.CompEnd.intro (by k_asm) (by k_asm) _ (fun p hp => hp) ?_ trivial (kci_no rfl rfl); simp only [LCg.Off3, and_true]; assumption)
      | skip
    rw [show ((-1 : Int) + (ks.length : Int)).toNat = ks.length - 1 by omega, beq_self_eq_true]
    exact h _ _ (by k_asm) (cb_drop (by k_asm) fun p hp => by simp only [List.mem_cons]; simp [hp])
end

-- part Refused
/-! `_law_refused`, `_law_none` -/
theorem filter_ne_self {ks : List Int} {k : Int} (h : k ∉ ks) : ks.filter (fun x => x != k) = ks := by
  apply List.filter_eq_self.mpr
  intro x hx
  simp only [bne_iff_ne, ne_eq]
  exact fun e => h (e ▸ hx)
section
variable {prog : Program} {w : World} {A₀ A : Around} {s : Shared} {base h₀ : Heap} {L : Addr} {m : Str → Option Value} {env : Env} {news : List (Addr × Obj)} {K : Frag} {p : Program} {loose : List Str} {mean : ExcName → Option Value} {mg mb : Str → Option Value}
    {R : Result → Shared → Prop} {name qual : Str} {params : Arguments} {body : List Stmt} {scope : Scope} {dV kV doc pm cdv ct oc : Value} {an od : Option Addr} {osl : Array (Option Value)} {f : Addr} {args : Args} {binds : List (Str × Value)}
/-- a call from the law's own frame of a def that catches what flies by -/
theorem code_try (B : Below A₀ base [] h₀) (F : Fr h₀ L s.heap m) (X₀ : K.In h₀) (N : News h₀ L s.heap news) (T : Top p loose mean mg mb h₀) (hA : A.frames = some [env]) (hf : env.frame = some L) (hke : env.scope.kind = .function)
    (ho : K.lookup f = some ⟨oc, od, .func (fnOf name qual params body scope dV kV doc pm an cdv ct), osl⟩) (hcd : codeIn K cdv qual = true) (hroom : A.depth < recursionLimit)
    (hbind : BindsTo s (fnOf name qual params body scope dV kV doc pm an cdv ct) args binds) (hloc : ∀ y ∈ binds, scope.names.lookup y.1 = some .local)
    (h : ∀ g L' h₁, Fr h₀ L g m → Fr g L' h₁ (fun y => binds.reverse.lookup y) → News g L' h₁ news → Below A base [env] g → K.In g → Top p loose mean mg mb g → KtsDicts ([env].filterMap (·.frame)) g →
      wpAny (model prog w) (A.deeper (envOf qual scope L' f cdv)) (execs body (envOf qual scope L' f cdv))
        (fun fl s' => LeaveS0 ([env].filterMap (·.frame)) h₀ L m g R (match fl with | .ret v => v | _ => .none) s')
        (fun e s' => wpAny (model prog w) (A.deeper (envOf qual scope L' f cdv)) (leaving (envOf qual scope L' f cdv) e) (fun _ s'' => R (.error e) s'') (fun e' s'' => R (.error e') s'') s')
        { s with heap := h₁, toks := s.toks + binds.length })
    (hco : scope.isCoroutine = false) (hgen : scope.isGenerator = false) (hk : scope.kind = .function) (hcell : ∀ x ∈ scope.names, x.2 ≠ .cell) : codeAny (model prog w) A (.call (.ref f) args) R s := by
  obtain ⟨FG, BG, st, _⟩ := groundX (R := R) B F N hA hf hke
  have X := X₀.keeps F.keep
  have hfs : ∀ b, b ∈ [env].filterMap (·.frame) → b = L := fun b hb => by
    simp only [List.filterMap_cons, hf, List.filterMap_nil, List.mem_singleton] at hb
    exact hb
  obtain ⟨oL, es, ep, hLg, hLd, hLr⟩ := FG.ns
  refine codeAny_call_def (fd := fnOf name qual params body scope dV kV doc pm an cdv ct) (body := body) (binds := binds) hroom (X _ _ ho) rfl (T.nolimit.keeps F.keep) (codeRec_of X hcd) rfl hbind hcell hloc (fun h₁ hns hk₁ => ?_) hco hgen hk
  refine wpAny_mono (h _ s.heap.objs.size h₁ FG ⟨hns, fun b o e => hk₁ b o (of_hideAll _ e), Nat.le_of_eq (hideAll_size _ _)⟩
    (fun p hp => ⟨hk₁ _ _ (N p hp).1, Nat.ne_of_lt (Heap.lt_size (N p hp).1), hideAll_none _ (List.mem_map_of_mem hp)⟩) BG (X₀.keeps st) (T.keeps st) (fun b hb => by rw [hfs b hb]; exact ⟨oL, es, ep, hLg, hLd⟩)) (fun fl s' hl => ?_) fun _ _ y => y
  obtain ⟨g', L', m', news', T', F', N', k⟩ := hl
  obtain ⟨sl, hs⟩ := T'.up hLg
  refine k ⟨⟨_, es, ep, F'.keep _ _ hs, hLd, hLr⟩, fun b o e => F'.keep b o (T'.other b o (st b o e) fun q => ?_), F.above⟩ fun p hp => ⟨(N' p hp).1, fun q => ?_, ?_⟩
  · rw [hfs b q, kts_self F] at e
    cases e
  · have := (N' p hp).2.2
    rw [q, hs] at this
    cases this
  · cases q : h₀.get? p.1 with
    | none => rfl
    | some o =>
      obtain ⟨sl', hs'⟩ := T'.up (st _ _ q)
      have := (N' p hp).2.2
      rw [hs'] at this
      cases this
end
local macro_rules | `(tactic| walk_at "mine try") => `(tactic| (refine' code_try ?k1 ?k2 ?k3 ?k4 ?k5 ?kA ?kF ?kK ?k6 ?k7 ?k8 ?k9 ?kB ?_ ?c2 ?c3 ?c4 ?c5; (case kA => exact rfl); (case kF => exact rfl); (case kK => first | exact rfl | assumption); (case k1 => assumption); (case k2 => k_asm); (case k3 => k_asm); (case k4 => k_asm); (case k5 => k_asm); (case k6 => k_is); (case k7 => k_is); (case k8 => ktr_room); (case k9 => first | exact BindsTo.of_eq rfl | exact binds_K (by k_in) rfl (by k_is) rfl rfl rfl); (case kB => exact locs rfl); (case c2 => exact rfl); (case c3 => exact rfl); (case c4 => exact rfl); (case c5 => decide); k_whole; intro g' L' h' FG' F' N' B' X' T' D'; (try dsimp only); (try k_lift B'); (try k_fold)))
section
variable {w : World} {dp un : Nat} {gd : Option (List Code)} {cn : Str} {cs : Scope} {a : Addr} {ccd : Value} {cl : List (Str × Addr)} {A₀ : Around} {base h₀ : Heap} {L : Addr} {m : Str → Option Value} {s : Shared}
    {mean : ExcName → Option Value} {mg mb : Str → Option Value} {x dx d : Addr} {ta : Tok} {na : Nat} {o : Obj} {ks : List Int} {rest news : List (Addr × Obj)} {g : Obj → List (Addr × Obj)} {k : Int} {t : Tok} {R : Result → Shared → Prop}
variable (B : Below A₀ base [] h₀) (XB : (hd.heap_39 w.params).In base) (TB : Top hd.view_39 (looseW hd.view_39 [Str.ofString "OrderedSet"]) mean mg mb base) (F : Fr h₀ L s.heap m) (X : (hd.heap_39 w.params).In h₀) (T : Top hd.view_39 (looseW hd.view_39 [Str.ofString "OrderedSet"]) mean mg mb h₀) (hk : cs.kind = .function)
  (hdp : dp + 4 < recursionLimit) (hun : un + 60 < cLine) (N : News h₀ L s.heap news)
include B XB TB F X T hk hdp hun N
theorem refused_K (mx : (x, instObj 203 dx) ∈ news) (mdx : (dx, dictOf (attrs w ta d) na) ∈ news) (U : UpdF d o news g) (ho : o.IsDictOf (IK w) (kv ks)) (lo : (d == sysModules) = false) (hz : ks.length ≤ 1000)
    (h : ∀ h' tk o', Fr h₀ L h' m → News h₀ L h' (g o') → o'.IsDictOf (IK w) (kv (ks.filter fun x => x != k)) → R (.ok (.ret (.bool (decide (k ∉ ks))))) { s with heap := h', toks := tk }) :
    codeAny (model PySem.Challenge.rw_bq0028_01.row.prog w) (ktrTop dp un gd cn cs L a ccd cl []) (.call (.ref 238) ⟨[.ref x, .int k t], []⟩) R s := by
  obtain ⟨rest, N, hoff, hx, hdx, _, back⟩ := canon N mx mdx U ho
  by_cases hin : k ∈ ks
  · revert X; k_fill; intro X
    k_dflt (walk_at "mine try")
    k_steps
    simp only [hin, not_true_eq_false, decide_false] at h
    exact h _ _ _ (by k_asm) (back _ _ _ _ (by k_asm)) (by k_asm)
  · revert X; k_fill; intro X
    k_dflt (walk_at "mine try")
    k_steps
    simp only [hin, not_false_eq_true, decide_true] at h
    exact h _ _ _ (by k_asm) (back _ _ _ _ (by k_asm)) (by rw [filter_ne_self hin]; exact ho)
theorem none_K (h : ∀ h' tk, Fr h₀ L h' m → News h₀ L h' news → R (.ok (.ret (.bool true))) { s with heap := h', toks := tk }) :
    codeAny (model PySem.Challenge.rw_bq0028_01.row.prog w) (ktrTop dp un gd cn cs L a ccd cl []) (.call (.ref 245) ⟨[], []⟩) R s := by
  revert X; k_fill; intro X
  k_dflt (walk_at "mine try")
  k_steps
  exact h _ _ (by k_asm) (cb_drop (by k_asm) fun p hp => .tail _ (.tail _ hp))
end

-- part LawLines
/-! lines for the law's walk -/
theorem off1_of {r : Addr} : ∀ {l : List (Addr × Obj)}, (∀ p ∈ l, p.1 ≠ r) → LCg.Off1 r l
  | [], _ => trivial
  | p :: l, h => ⟨h p (.head _), off1_of fun q hq => h q (.tail _ hq)⟩
theorem put_fresh {r r₀ : Addr} {o : Obj} {rest : List (Addr × Obj)} (h : r = r₀ ∨ ∀ p ∈ (r₀, o) :: rest, @LT.lt Nat _ p.1 r) (h0 : AllLt r₀ rest) : AllLt r rest := by
  rcases h with rfl | h
  · exact h0
  · exact allLt_of fun p hp => h p (.tail _ hp)
theorem small_put {ts : List Int} {n : Nat} (h : ts.length ≤ n) : (ts.foldl put1 []).length ≤ n := Nat.le_trans (foldl_put1_length _ _) (by simpa using h)
theorem ints_unique {us : List Value} {a b : List Int} (h : IntsAre us a) (h' : IntsAre us b) : a = b := by
  induction h generalizing b with
  | nil => cases h'; rfl
  | cons n t _ ih => cases h' with
    | cons _ _ h2 => rw [ih h2]
section
variable {w : World} {dp un : Nat} {gd : Option (List Code)} {cn : Str} {cs : Scope} {a : Addr} {ccd : Value} {cl : List (Str × Addr)} {outer : List Env} {A₀ : Around} {base h₀ : Heap} {L : Addr} {m : Str → Option Value} {s : Shared}
    {mean : ExcName → Option Value} {mg mb : Str → Option Value} {l r₀ : Addr} {lo : Obj} {rs ts : List Int} {vs us₀ : List Value} {nl c₀ : Nat} {news : List (Addr × Obj)} {R : Result → Shared → Prop}
theorem put_K2 (B : Below A₀ base outer h₀) (F : Fr h₀ L s.heap m) (X : (hd.heap_39 w.params).In h₀) (T : Top hd.view_39 (looseW hd.view_39 [Str.ofString "OrderedSet"]) mean mg mb h₀) (hk : cs.kind = .function)
    (hdp : dp + 2 < recursionLimit) (hun : un + 30 < cLine) (N : News h₀ L s.heap news) (mr : (r₀, listOf us₀.toArray c₀) ∈ news) (hi0 : IntsAre us₀ rs) (ml : (l, lo) ∈ news) (hc : lo.cls = .type "list") (hdat : lo.data = .seq vs.toArray nl) (hi : IntsAre vs ts) (hz : rs.length + ts.length ≤ 1000)
    (hsame : ∀ h' tk, Fr h₀ L h' m → News h₀ L h' news → ts.foldl put1 rs = rs → R (.ok (.ret (.ref r₀))) { s with heap := h', toks := tk })
    (hnew : ∀ h' tk r us c, Fr h₀ L h' m → News h₀ L h' ((r, listOf (List.toArray us) c) :: news) → IntsAre us (ts.foldl put1 rs) → (∀ p ∈ news, p.1 < r) → R (.ok (.ret (.ref r))) { s with heap := h', toks := tk }) :
    codeAny (model PySem.Challenge.rw_bq0028_01.row.prog w) (ktrTop dp un gd cn cs L a ccd cl outer) (.call (.ref 226) ⟨[.ref r₀, .ref l], []⟩) R s :=
  put_K B F X T hk hdp hun N mr hi0 ml hc hdat hi hz fun h' tk r us c F' N' hI hor => by
    rcases hor with rfl | hl
    · refine hsame h' tk F' (cb_drop N' fun p hp => .tail _ hp) ?_
      have e : some (listOf us.toArray c) = some (listOf us₀.toArray c₀) := (N' _ (.head _)).1.symm.trans (N' _ (.tail _ mr)).1
      have e2 : Data.seq us.toArray c = Data.seq us₀.toArray c₀ := congrArg Obj.data (Option.some.inj e)
      have e3 : us.toArray = us₀.toArray := by injection e2
      have e4 : us = us₀ := by simpa using congrArg Array.toList e3
      subst e4
      exact ints_unique hI hi0
    · exact hnew h' tk r us c F' N' hI hl
end
local macro_rules | `(tactic| walk_at "call ref") => `(tactic| (k_here; (with_reducible show wpAny _ _ (call (Value.ref 219) _) _ _ _); k_dflt (show wpAny _ _ (call (Value.ref 219) [Value.ref _, Value.int _ _]) _ _ _); refine wpAny_call ?_; k_dflt (refine' row_K ?B ?F ?X ?T ?k ?hd ?hu ?N ?hl ?hi ?len ?p0 ?p1 ?_; (case B => k_asm); (case F => k_asm); (case X => k_asm); (case T => k_asm); (case k => first | exact rfl | assumption); (case N => k_asm); (case hl => k_asm); (case hi => k_asm); (case len => first | k_asm | omega); (case hd => first | ktr_room | exact Nat.le_of_ble_eq_true rfl | omega); (case hu => first | ktr_units | exact Nat.le_of_ble_eq_true rfl | omega); (case p0 => omega); (case p1 => omega)); intro h' tk' r' us' c' ms' F' N' hn' hI' hL' hB'; (have hn1 := off1_of hn'); clear hn'; (try simp only [LCg.Off1] at hn1); (try dsimp only); walk_say "C219"))
local macro_rules | `(tactic| walk_at "call ref") => `(tactic| (k_here; (with_reducible show wpAny _ _ (call (Value.ref 226) _) _ _ _); k_dflt (show wpAny _ _ (call (Value.ref 226) [Value.ref _, Value.ref _]) _ _ _); refine wpAny_call ?_; k_dflt (refine' put_K2 ?B ?F ?X ?T ?k ?hd ?hu ?N ?mr ?i0 ?ml ?hc ?hdat ?i1 ?z (fun h' tk' F' N' e' => ?_) (fun h' tk' r' us' c' F' N' hI' l1 => ?_); (case B => k_asm); (case F => k_asm); (case X => k_asm); (case T => k_asm); (case k => first | exact rfl | assumption); (case N => k_asm); (case mr => k_mem); (case ml => k_mem); (case hc => rfl); (case hdat => rfl); (case i0 => l_ints); (case i1 => l_ints); (case hd => first | ktr_room | exact Nat.le_of_ble_eq_true rfl | omega); (case hu => first | ktr_units | exact Nat.le_of_ble_eq_true rfl | omega); (case z => first | omega | (simp only [List.length_cons, List.length_nil]; omega))); rotate_left; (try k_lt l1); (try dsimp only); rotate_right; (try dsimp only); walk_say "C226b"))
local macro_rules | `(tactic| walk_at "call ref") => `(tactic| (k_here; (with_reducible show wpAny _ _ (call (Value.ref 226) _) _ _ _); k_dflt (show wpAny _ _ (call (Value.ref 226) [Value.ref _, Value.ref _]) _ _ _); refine wpAny_call ?_; k_dflt (refine' put_K ?B ?F ?X ?T ?k ?hd ?hu ?N ?mr ?i0 ?ml ?hc ?hdat ?i1 ?z ?_; (case B => k_asm); (case F => k_asm); (case X => k_asm); (case T => k_asm); (case k => first | exact rfl | assumption); (case N => k_asm); (case mr => k_mem); (case ml => k_mem); (case hc => rfl); (case hdat => rfl); (case i0 => l_ints); (case i1 => l_ints); (case hd => first | ktr_room | exact Nat.le_of_ble_eq_true rfl | omega); (case hu => first | ktr_units | exact Nat.le_of_ble_eq_true rfl | omega); (case z => first | omega | (simp only [List.length_cons, List.length_nil]; omega))); intro h' tk' r' us' c' F' N' hI' hor'; (have l1 := put_fresh hor' (by first | k_asm | (simp only [AllLt, and_true]; k_asm))); clear hor'; (try simp only [AllLt, and_true] at l1); (try dsimp only); walk_say "C226"))
local macro_rules | `(tactic| walk_at "call ref") => `(tactic| (k_here; (with_reducible show wpAny _ _ (call (Value.ref 231) _) _ _ _); k_dflt (show wpAny _ _ (call (Value.ref 231) [Value.ref _, Value.ref _]) _ _ _); refine wpAny_call ?_; k_dflt (refine' same_K ?B ?F ?X ?T ?k ?hd ?hu ?N ?mx ?mdx ?md ?ho ?lo ?mr ?i ?z ?_; (case B => k_asm); (case F => k_asm); (case X => k_asm); (case T => k_asm); (case k => first | exact rfl | assumption); (case N => k_asm); (case mx => k_mem); (case mdx => k_mem); (case md => k_mem); (case ho => k_asm); (case lo => k_asm); (case mr => k_mem); (case i => first | l_ints | (rename List.foldl put1 _ _ = _ => e78; rw [e78]; l_ints)); (case hd => first | ktr_room | exact Nat.le_of_ble_eq_true rfl | omega); (case hu => first | ktr_units | exact Nat.le_of_ble_eq_true rfl | omega); (case z => first | omega | (refine small_put ?_; omega) | (simp only [List.length_append, List.length_cons, List.length_nil]; omega) | (refine Nat.le_trans (foldl_put1_length _ _) ?_; (try simp only [List.length_cons, List.length_nil]); omega) | (refine Nat.le_trans (foldl_drop1_length _ _) ?_; omega))); intro h' tk' F' N'; (try dsimp only); walk_say "C231"))
local macro_rules | `(tactic| walk_at "call ref") => `(tactic| (k_here; (with_reducible show wpAny _ _ (call (Value.ref 238) _) _ _ _); k_dflt (show wpAny _ _ (call (Value.ref 238) [Value.ref _, Value.int _ _]) _ _ _); refine wpAny_call ?_; k_dflt (refine' refused_K ?B ?XB ?TB ?F ?X ?T ?k ?hd ?hu ?N ?mx ?mdx ?U ?ho ?lo ?z ?_; (case B => k_asm); (case XB => k_asm); (case TB => k_asm); (case F => k_asm); (case X => k_asm); (case T => k_asm); (case k => first | exact rfl | assumption); (case N => k_asm); (case mx => k_mem); (case mdx => k_mem); (case U => k_updF); (case ho => k_asm); (case lo => k_asm); (case hd => first | ktr_room | exact Nat.le_of_ble_eq_true rfl | omega); (case hu => first | ktr_units | exact Nat.le_of_ble_eq_true rfl | omega); (case z => omega)); intro h' tk' o' F' N' ho'; (try dsimp only at N'); (try dsimp only); walk_say "C238"))
local macro_rules | `(tactic| walk_at "call ref") => `(tactic| (k_here; (with_reducible show wpAny _ _ (call (Value.ref 245) _) _ _ _); k_dflt (show wpAny _ _ (call (Value.ref 245) []) _ _ _); refine wpAny_call ?_; k_dflt (refine' none_K ?B ?XB ?TB ?F ?X ?T ?k ?hd ?hu ?N ?_; (case B => k_asm); (case XB => k_asm); (case TB => k_asm); (case F => k_asm); (case X => k_asm); (case T => k_asm); (case k => first | exact rfl | assumption); (case N => k_asm); (case hd => first | ktr_room | exact Nat.le_of_ble_eq_true rfl | omega); (case hu => first | ktr_units | exact Nat.le_of_ble_eq_true rfl | omega)); intro h' tk' F' N'; (try dsimp only); walk_say "C245"))
local macro_rules | `(tactic| k_enter) => `(tactic| (k_dflt (show codeAny _ _ (Code.call (Value.ref 29) ⟨[Value.ref _, Value.ref _], []⟩) _ _); k_dflt (refine' init_K ?B ?F ?X ?T ?k ?hd ?hu ?N ?lt ?xd (fk_list ?i) ?ok ?z ?_; (case B => k_asm); (case F => k_asm); (case X => k_asm); (case T => k_asm); (case k => first | exact rfl | assumption); (case N => k_asm); (case lt => first | exact kst_ltOf (by k_asm) | (refine kst_ltOf ?_; simp only [AllLt, and_true]; k_asm)); (case xd => exact ltN (by omega)); (case ok => exact fun g L h N => News.isList N (by k_mem)); (case i => l_ints); (case hd => first | ktr_room | exact Nat.le_of_ble_eq_true rfl | omega); (case hu => first | ktr_units | exact Nat.le_of_ble_eq_true rfl | omega); (case z => first | omega | (simp only [List.length_cons, List.length_nil]; omega))); intro h' tk' d' o' ta' F' N' l1 lo' ho'; (try dsimp only [PySem.W.InitBack, PySem.W.CmpBack, PySem.W.LenBack, PySem.W.StrBack, PySem.W.BoolBack]); (try refine ⟨rfl, ?_⟩); (try dsimp only [PySem.W.InitBack]); walk_say "INIT"))
local macro_rules | `(tactic| k_enter) => `(tactic| (k_dflt (show codeAny _ _ (Code.call (Value.ref 169) ⟨[Value.ref _, Value.ref _], []⟩) _ _); k_dflt (refine' eq_K ?B ?F ?X ?T ?k ?hd ?hu ?N ?mx ?mdx ?md ?ho ?lo ?z ?mx2 ?mdx2 ?md2 ?ho2 ?lo2 ?_; (case B => k_asm); (case F => k_asm); (case X => k_asm); (case T => k_asm); (case k => first | exact rfl | assumption); (case N => k_asm); (case mx => k_mem); (case mdx => k_mem); (case mx2 => k_mem); (case mdx2 => k_mem); (case md => k_mem); (case md2 => k_mem); (case ho => k_asm); (case lo => k_asm); (case ho2 => k_asm); (case lo2 => k_asm); (case hd => first | ktr_room | exact Nat.le_of_ble_eq_true rfl | omega); (case hu => first | ktr_units | exact Nat.le_of_ble_eq_true rfl | omega); (case z => omega)); intro h' tk' F' N'; (try dsimp only [PySem.W.InitBack, PySem.W.CmpBack, PySem.W.LenBack, PySem.W.StrBack, PySem.W.BoolBack]); (try refine ⟨rfl, ?_⟩); (try dsimp only [PySem.W.CmpBack]); walk_say "C169"))
local macro_rules | `(tactic| walk_at "call ref") => `(tactic| (k_here; (with_reducible show wpAny _ _ (call (Value.ref 169) _) _ _ _); k_dflt (show wpAny _ _ (call (Value.ref 169) [Value.ref _, Value.ref _]) _ _ _); refine wpAny_call ?_; k_dflt (refine' eq_K ?B ?F ?X ?T ?k ?hd ?hu ?N ?mx ?mdx ?md ?ho ?lo ?z ?mx2 ?mdx2 ?md2 ?ho2 ?lo2 ?_; (case B => k_asm); (case F => k_asm); (case X => k_asm); (case T => k_asm); (case k => first | exact rfl | assumption); (case N => k_asm); (case mx => k_mem); (case mdx => k_mem); (case mx2 => k_mem); (case mdx2 => k_mem); (case md => k_mem); (case md2 => k_mem); (case ho => k_asm); (case lo => k_asm); (case ho2 => k_asm); (case lo2 => k_asm); (case hd => first | ktr_room | exact Nat.le_of_ble_eq_true rfl | omega); (case hu => first | ktr_units | exact Nat.le_of_ble_eq_true rfl | omega); (case z => omega)); intro h' tk' F' N'; (try dsimp only [PySem.W.InitBack, PySem.W.CmpBack, PySem.W.LenBack, PySem.W.StrBack, PySem.W.BoolBack]); (try refine ⟨rfl, ?_⟩); (try dsimp only [PySem.W.CmpBack]); walk_say "C169"))
local macro_rules | `(tactic| walk_at "call ref") => `(tactic| (k_here; (with_reducible show wpAny _ _ (call (Value.ref 148) _) _ _ _); k_dflt (show wpAny _ _ (call (Value.ref 148) [Value.ref _, Value.ref _]) _ _ _); refine wpAny_call ?_; k_dflt (refine' union_K ?B ?F ?X ?T ?k ?hd ?hu ?N ?mx ?mdx ?md ?ho ?lo ?z ?mx2 ?mdx2 ?md2 ?ho2 ?lo2 ?_; (case B => k_asm); (case F => k_asm); (case X => k_asm); (case T => k_asm); (case k => first | exact rfl | assumption); (case N => k_asm); (case mx => k_mem); (case mdx => k_mem); (case mx2 => k_mem); (case mdx2 => k_mem); (case md => k_mem); (case md2 => k_mem); (case ho => k_asm); (case lo => k_asm); (case ho2 => k_asm); (case lo2 => k_asm); (case hd => first | ktr_room | exact Nat.le_of_ble_eq_true rfl | omega); (case hu => first | ktr_units | exact Nat.le_of_ble_eq_true rfl | omega); (case z => omega)); intro h' tk' x' dx' d' o' ta' na' F' N' l1 l2 l3 ho' lo'; (try k_lt l1); (try dsimp only); walk_say "C148"))
local macro_rules | `(tactic| walk_at "call ref") => `(tactic| (k_here; (with_reducible show wpAny _ _ (call (Value.ref 92) _) _ _ _); k_dflt (show wpAny _ _ (call (Value.ref 92) [Value.ref _, Value.int _ _]) _ _ _); refine wpAny_call ?_; k_dflt (refine' add_K ?B ?F ?X ?T ?k ?hd ?hu ?N ?mx ?mdx ?U ?ho ?lo ?z ?_; (case B => k_asm); (case F => k_asm); (case X => k_asm); (case T => k_asm); (case k => first | exact rfl | assumption); (case N => k_asm); (case mx => k_mem); (case mdx => k_mem); (case U => k_updF); (case ho => k_asm); (case lo => k_asm); (case z => omega); (case hd => first | ktr_room | exact Nat.le_of_ble_eq_true rfl | omega); (case hu => first | ktr_units | exact Nat.le_of_ble_eq_true rfl | omega); ); intro h' tk' o' F' N' ho'; (try dsimp only at N'); (try dsimp only); walk_say "C92"))
local macro_rules | `(tactic| walk_at "call ref") => `(tactic| (k_here; (with_reducible show wpAny _ _ (call (Value.ref 113) _) _ _ _); k_dflt (show wpAny _ _ (call (Value.ref 113) [Value.ref _, Value.int _ _]) _ _ _); refine wpAny_call ?_; k_dflt (refine' discard_K ?B ?F ?X ?T ?k ?hd ?hu ?N ?mx ?mdx ?U ?ho ?lo ?z ?_; (case B => k_asm); (case F => k_asm); (case X => k_asm); (case T => k_asm); (case k => first | exact rfl | assumption); (case N => k_asm); (case mx => k_mem); (case mdx => k_mem); (case U => k_updF); (case ho => k_asm); (case lo => k_asm); (case z => omega); (case hd => first | ktr_room | exact Nat.le_of_ble_eq_true rfl | omega); (case hu => first | ktr_units | exact Nat.le_of_ble_eq_true rfl | omega); ); intro h' tk' o' F' N' ho'; (try dsimp only at N'); (try dsimp only); walk_say "C113"))
local macro_rules | `(tactic| walk_at "call ref") => `(tactic| (k_here; (with_reducible show wpAny _ _ (call (Value.ref 127) _) _ _ _); k_dflt (show wpAny _ _ (call (Value.ref 127) [Value.ref _]) _ _ _); refine wpAny_call ?_; k_dflt (refine' clear_K ?B ?F ?X ?T ?k ?hd ?hu ?N ?mx ?mdx ?U ?ho ?lo ?z ?_; (case B => k_asm); (case F => k_asm); (case X => k_asm); (case T => k_asm); (case k => first | exact rfl | assumption); (case N => k_asm); (case mx => k_mem); (case mdx => k_mem); (case U => k_updF); (case ho => k_asm); (case lo => k_asm); (case z => omega); (case hd => first | ktr_room | exact Nat.le_of_ble_eq_true rfl | omega); (case hu => first | ktr_units | exact Nat.le_of_ble_eq_true rfl | omega); ); intro h' tk' o' F' N' ho'; (try dsimp only at N'); (try dsimp only); walk_say "C127"))
local macro_rules | `(tactic| walk_at "call ref") => `(tactic| (k_here; (with_reducible show wpAny _ _ (call (Value.ref 99) _) _ _ _); k_dflt (show wpAny _ _ (call (Value.ref 99) [Value.ref _, Value.ref _]) _ _ _); refine wpAny_call ?_; k_dflt (refine' addmany_K ?B ?F ?X ?T ?k ?hd ?hu ?N ?mx ?mdx ?U ?ho ?lo ?z ?ml ?hc ?hdat ?i ?_; (case B => k_asm); (case F => k_asm); (case X => k_asm); (case T => k_asm); (case k => first | exact rfl | assumption); (case N => k_asm); (case mx => k_mem); (case mdx => k_mem); (case U => k_updF); (case ho => k_asm); (case lo => k_asm); (case ml => k_mem); (case hc => rfl); (case hdat => rfl); (case i => l_ints); (case z => first | omega | (simp only [List.length_cons, List.length_nil]; omega)); (case hd => first | ktr_room | exact Nat.le_of_ble_eq_true rfl | omega); (case hu => first | ktr_units | exact Nat.le_of_ble_eq_true rfl | omega); ); intro h' tk' o' F' N' ho'; (try dsimp only at N'); (try dsimp only); walk_say "C99"))
local macro_rules | `(tactic| walk_at "call ref") => `(tactic| (k_here; (with_reducible show wpAny _ _ (call (Value.ref 120) _) _ _ _); k_dflt (show wpAny _ _ (call (Value.ref 120) [Value.ref _, Value.ref _]) _ _ _); refine wpAny_call ?_; k_dflt (refine' dropmany_K ?B ?F ?X ?T ?k ?hd ?hu ?N ?mx ?mdx ?U ?ho ?lo ?z ?ml ?hc ?hdat ?i ?_; (case B => k_asm); (case F => k_asm); (case X => k_asm); (case T => k_asm); (case k => first | exact rfl | assumption); (case N => k_asm); (case mx => k_mem); (case mdx => k_mem); (case U => k_updF); (case ho => k_asm); (case lo => k_asm); (case ml => k_mem); (case hc => rfl); (case hdat => rfl); (case i => l_ints); (case z => first | omega | (simp only [List.length_cons, List.length_nil]; omega)); (case hd => first | ktr_room | exact Nat.le_of_ble_eq_true rfl | omega); (case hu => first | ktr_units | exact Nat.le_of_ble_eq_true rfl | omega); ); intro h' tk' o' F' N' ho'; (try dsimp only at N'); (try dsimp only); walk_say "C120"))
local macro_rules | `(tactic| walk_at "call ref") => `(tactic| (k_here; (with_reducible show wpAny _ _ (call (Value.ref 141) _) _ _ _); k_dflt (show wpAny _ _ (call (Value.ref 141) [Value.ref _, Value.ref _]) _ _ _); refine wpAny_call ?_; k_dflt (refine' update_K ?B ?F ?X ?T ?k ?hd ?hu ?N ?mx ?mdx ?U ?ho ?lo ?z ?ml ?hc ?hdat ?i ?_; (case B => k_asm); (case F => k_asm); (case X => k_asm); (case T => k_asm); (case k => first | exact rfl | assumption); (case N => k_asm); (case mx => k_mem); (case mdx => k_mem); (case U => k_updF); (case ho => k_asm); (case lo => k_asm); (case ml => k_mem); (case hc => rfl); (case hdat => rfl); (case i => l_ints); (case z => first | omega | (simp only [List.length_cons, List.length_nil]; omega)); (case hd => first | ktr_room | exact Nat.le_of_ble_eq_true rfl | omega); (case hu => first | ktr_units | exact Nat.le_of_ble_eq_true rfl | omega); ); intro h' tk' o' F' N' ho'; (try dsimp only at N'); (try dsimp only); walk_say "C141"))
local macro_rules | `(tactic| walk_at "call ref") => `(tactic| (k_here; (with_reducible show wpAny _ _ (call (Value.ref 85) _) _ _ _); k_dflt (show wpAny _ _ (call (Value.ref 85) [Value.ref _]) _ _ _); refine wpAny_call ?_; k_dflt (refine' pop_K ?B ?F ?X ?T ?k ?hd ?hu ?N ?mx ?mdx ?U ?ho ?lo ?z ?_; (case B => k_asm); (case F => k_asm); (case X => k_asm); (case T => k_asm); (case k => first | exact rfl | assumption); (case N => k_asm); (case mx => k_mem); (case mdx => k_mem); (case U => k_updF); (case ho => k_asm); (case lo => k_asm); (case z => omega); (case hd => first | ktr_room | exact Nat.le_of_ble_eq_true rfl | omega); (case hu => first | ktr_units | exact Nat.le_of_ble_eq_true rfl | omega); ); intro h' tk' o' t' F' N' ho'; (try dsimp only at N'); (try dsimp only); walk_say "C85"))

-- part TurnDefs
/-! what a turn of the law's loop keeps -/
def lastOf : List Stmt → Stmt
  | [] => .Pass ⟨0, 0, 0, 0⟩
  | [x] => x
  | _ :: y :: r => lastOf (y :: r)
def lawStmts : List Stmt := match lastOf PySem.Challenge.pw_bq0028_01.main.body with
  | .FunctionDef _ _ b _ _ _ _ _ _ _ => b
  | _ => []
def lawScope : Scope := match lastOf PySem.Challenge.pw_bq0028_01.main.body with
  | .FunctionDef _ _ _ _ _ _ sc _ _ _ => sc
  | _ => default
def loopBody : List Stmt := match lawStmts with
  | _ :: _ :: _ :: _ :: .For _ _ b _ _ :: _ => b
  | _ => []
def nth : List Stmt → Nat → Stmt
  | [], _ => .Pass ⟨0, 0, 0, 0⟩
  | x :: _, 0 => x
  | _ :: r, n + 1 => nth r n
def lb (n : Nat) : Stmt := nth loopBody n
theorem loop_is : loopBody = [lb 0, lb 1, lb 2, lb 3, lb 4] := rfl
def Small (ks : List Int) : Prop := ∀ k ∈ ks, 0 ≤ k ∧ k < 6
def all11 (w : World) (L r b x dx d x2 dx2 d2 : Addr) (ta ta2 : Tok) (na na2 c c2 : Nat) (o o2 om ot ob : Obj) (us bs : List Value) : List (Addr × Obj) :=
  [(r, listOf us.toArray c), (b, listOf bs.toArray c2), (x, instObj 203 dx), (dx, dictOf (attrs w ta d) na), (d, o), (x2, instObj 203 dx2), (dx2, dictOf (attrs w ta2 d2) na2), (d2, o2), (L + 1 + 1 + 1, om), (L + 1 + 1, ot), (L + 1, ob)]
/-- the loop's state -/
def Inv (w : World) (L : Addr) (sv : Value) (m : Str → Option Value) (news : List (Addr × Obj)) : Prop :=
  ∃ (r b x dx d x2 dx2 d2 : Addr) (ta ta2 : Tok) (na na2 c c2 : Nat) (o o2 om ot ob : Obj) (us bs : List Value) (ks ks2 : List Int) (vt vm : Option Value),
    news = all11 w L r b x dx d x2 dx2 d2 ta ta2 na na2 c c2 o o2 om ot ob us bs ∧
    m (Str.ofString "script") = some sv ∧ m (Str.ofString "one") = some (.ref x) ∧ m (Str.ofString "other") = some (.ref x2) ∧ m (Str.ofString "row") = some (.ref r) ∧
    om.data = .cell vm ∧ ot.data = .cell vt ∧ ob.data = .cell (some (.ref b)) ∧
    o.IsDictOf (IK w) (kv ks) ∧ o2.IsDictOf (IK w) (kv ks2) ∧ (d == sysModules) = false ∧ (d2 == sysModules) = false ∧ d ≠ d2 ∧ IntsAre us ks ∧ IntsAre bs ks2 ∧ Small ks ∧ Small ks2
def TurnL (w : World) (h₀ : Heap) (L : Addr) (sv : Value) (I : Addr) (oI : Obj) (s : Shared) (f : Flow) (s₂ : Shared) : Prop :=
  match f with
  | .ret _ => False
  | .brk => False
  | _ => ∃ h' tk m' news', s₂ = { s with heap := h', toks := tk } ∧ Fr h₀ L h' m' ∧ News h₀ L h' ((I, oI) :: news') ∧ Inv w L sv m' news'
theorem ne_of {h₀ h : Heap} {L a b : Addr} {oa ob : Obj} {news : List (Addr × Obj)} (N : News h₀ L h news) (ma : (a, oa) ∈ news) (mb : (b, ob) ∈ news) (h1 : oa ≠ ob) : a ≠ b := by
  rintro rfl
  exact h1 (Option.some.inj ((N _ ma).1.symm.trans (N _ mb).1))
theorem ne_cls {o o' : Obj} (h : o.cls ≠ o'.cls) : o ≠ o' := fun e => h (by rw [e])
theorem ne_data {o o' : Obj} (h : o.data ≠ o'.data) : o ≠ o' := fun e => h (by rw [e])
theorem dict_data {w : World} {o : Obj} {ks : List Int} (h : o.IsDictOf (IK w) (kv ks)) : ∃ es n, o.data = .dict es n := by
  obtain ⟨es, ep, _, hd, _⟩ := h
  exact ⟨es, ep, hd⟩
theorem dict_cls {w : World} {o : Obj} {ks : List Int} (h : o.IsDictOf (IK w) (kv ks)) : o.cls = .type "dict" := by
  obtain ⟨es, ep, hc, _⟩ := h
  exact hc.1
theorem nodup_le : ∀ {l l' : List Int}, l.Nodup → (∀ x ∈ l, x ∈ l') → l.length ≤ l'.length
  | [], _, _, _ => Nat.zero_le _
  | a :: r, l', hn, hs => by
    have hn' := List.nodup_cons.mp hn
    have h1 : r.length ≤ (l'.erase a).length := nodup_le hn'.2 fun x hx => (List.mem_erase_of_ne (fun e : x = a => hn'.1 (by rw [← e]; exact hx))).mpr (hs x (.tail _ hx))
    have h2 : a ∈ l' := hs a (.head _)
    have h3 : 0 < l'.length := List.length_pos_iff.mpr (fun e => by rw [e] at h2; cases h2)
    rw [List.length_erase_of_mem h2] at h1
    rw [List.length_cons]
    omega
theorem small_nodup {ks : List Int} (h : Small ks) (hn : ks.Nodup) : ks.length ≤ 6 :=
  nodup_le (l' := [0, 1, 2, 3, 4, 5]) hn fun k hk => by
    have := h k hk
    simp only [List.mem_cons, List.not_mem_nil, or_false]
    omega
theorem apart {w : World} {h₀ h : Heap} {L I r b x dx d x2 dx2 d2 : Addr} {ta ta2 : Tok} {na na2 c c2 : Nat} {oI o o2 om ot ob : Obj} {us bs : List Value} {ks ks2 : List Int} {vt vm vb : Option Value}
    (N : News h₀ L h ((I, oI) :: all11 w L r b x dx d x2 dx2 d2 ta ta2 na na2 c c2 o o2 om ot ob us bs)) (cI : oI.cls = .type "range_iterator") (dI : ∃ q, oI.data = .fields q)
    (cm : om.data = .cell vm) (ct : ot.data = .cell vt) (cb : ob.data = .cell vb) (ho : o.IsDictOf (IK w) (kv ks)) (ho2 : o2.IsDictOf (IK w) (kv ks2)) (hdd : d ≠ d2) :
    I ≠ L + 1 ∧ r ≠ L + 1 ∧ b ≠ L + 1 ∧ x ≠ L + 1 ∧ dx ≠ L + 1 ∧ d ≠ L + 1 ∧ x2 ≠ L + 1 ∧ dx2 ≠ L + 1 ∧ d2 ≠ L + 1 ∧ I ≠ L + 1 + 1 ∧ r ≠ L + 1 + 1 ∧ b ≠ L + 1 + 1 ∧ x ≠ L + 1 + 1 ∧ dx ≠ L + 1 + 1 ∧ d ≠ L + 1 + 1 ∧ x2 ≠ L + 1 + 1 ∧ dx2 ≠ L + 1 + 1 ∧ d2 ≠ L + 1 + 1 ∧ I ≠ L + 1 + 1 + 1 ∧ r ≠ L + 1 + 1 + 1 ∧ b ≠ L + 1 + 1 + 1 ∧ x ≠ L + 1 + 1 + 1 ∧ dx ≠ L + 1 + 1 + 1 ∧ d ≠ L + 1 + 1 + 1 ∧ x2 ≠ L + 1 + 1 + 1 ∧ dx2 ≠ L + 1 + 1 + 1 ∧ d2 ≠ L + 1 + 1 + 1 ∧ I ≠ d ∧ I ≠ d2 ∧ r ≠ d ∧ r ≠ d2 ∧ b ≠ d ∧ b ≠ d2 ∧ x ≠ d ∧ x ≠ d2 ∧ x2 ≠ d ∧ x2 ≠ d2 ∧ dx ≠ d ∧ dx ≠ d2 ∧ dx2 ≠ d ∧ dx2 ≠ d2 ∧ d ≠ d2 ∧ d2 ≠ d := by
  have m_I : (I, oI) ∈ (I, oI) :: all11 w L r b x dx d x2 dx2 d2 ta ta2 na na2 c c2 o o2 om ot ob us bs := by simp [all11]
  have m_r : (r, listOf us.toArray c) ∈ (I, oI) :: all11 w L r b x dx d x2 dx2 d2 ta ta2 na na2 c c2 o o2 om ot ob us bs := by simp [all11]
  have m_b : (b, listOf bs.toArray c2) ∈ (I, oI) :: all11 w L r b x dx d x2 dx2 d2 ta ta2 na na2 c c2 o o2 om ot ob us bs := by simp [all11]
  have m_x : (x, instObj 203 dx) ∈ (I, oI) :: all11 w L r b x dx d x2 dx2 d2 ta ta2 na na2 c c2 o o2 om ot ob us bs := by simp [all11]
  have m_dx : (dx, dictOf (attrs w ta d) na) ∈ (I, oI) :: all11 w L r b x dx d x2 dx2 d2 ta ta2 na na2 c c2 o o2 om ot ob us bs := by simp [all11]
  have m_d : (d, o) ∈ (I, oI) :: all11 w L r b x dx d x2 dx2 d2 ta ta2 na na2 c c2 o o2 om ot ob us bs := by simp [all11]
  have m_x2 : (x2, instObj 203 dx2) ∈ (I, oI) :: all11 w L r b x dx d x2 dx2 d2 ta ta2 na na2 c c2 o o2 om ot ob us bs := by simp [all11]
  have m_dx2 : (dx2, dictOf (attrs w ta2 d2) na2) ∈ (I, oI) :: all11 w L r b x dx d x2 dx2 d2 ta ta2 na na2 c c2 o o2 om ot ob us bs := by simp [all11]
  have m_d2 : (d2, o2) ∈ (I, oI) :: all11 w L r b x dx d x2 dx2 d2 ta ta2 na na2 c c2 o o2 om ot ob us bs := by simp [all11]
  have m_ob : (L + 1, ob) ∈ (I, oI) :: all11 w L r b x dx d x2 dx2 d2 ta ta2 na na2 c c2 o o2 om ot ob us bs := by simp [all11]
  have m_ot : (L + 1 + 1, ot) ∈ (I, oI) :: all11 w L r b x dx d x2 dx2 d2 ta ta2 na na2 c c2 o o2 om ot ob us bs := by simp [all11]
  have m_om : (L + 1 + 1 + 1, om) ∈ (I, oI) :: all11 w L r b x dx d x2 dx2 d2 ta ta2 na na2 c c2 o o2 om ot ob us bs := by simp [all11]
  exact ⟨ne_of N m_I m_ob (ne_data (by rw [cb]; obtain ⟨q, e⟩ := dI; rw [e]; intro z; cases z)),
    ne_of N m_r m_ob (ne_data (by rw [cb]; intro z; cases z)),
    ne_of N m_b m_ob (ne_data (by rw [cb]; intro z; cases z)),
    ne_of N m_x m_ob (ne_data (by rw [cb]; intro z; cases z)),
    ne_of N m_dx m_ob (ne_data (by rw [cb]; intro z; cases z)),
    ne_of N m_d m_ob (ne_data (by rw [cb]; obtain ⟨q, n, e⟩ := dict_data ho; rw [e]; intro z; cases z)),
    ne_of N m_x2 m_ob (ne_data (by rw [cb]; intro z; cases z)),
    ne_of N m_dx2 m_ob (ne_data (by rw [cb]; intro z; cases z)),
    ne_of N m_d2 m_ob (ne_data (by rw [cb]; obtain ⟨q, n, e⟩ := dict_data ho2; rw [e]; intro z; cases z)),
    ne_of N m_I m_ot (ne_data (by rw [ct]; obtain ⟨q, e⟩ := dI; rw [e]; intro z; cases z)),
    ne_of N m_r m_ot (ne_data (by rw [ct]; intro z; cases z)),
    ne_of N m_b m_ot (ne_data (by rw [ct]; intro z; cases z)),
    ne_of N m_x m_ot (ne_data (by rw [ct]; intro z; cases z)),
    ne_of N m_dx m_ot (ne_data (by rw [ct]; intro z; cases z)),
    ne_of N m_d m_ot (ne_data (by rw [ct]; obtain ⟨q, n, e⟩ := dict_data ho; rw [e]; intro z; cases z)),
    ne_of N m_x2 m_ot (ne_data (by rw [ct]; intro z; cases z)),
    ne_of N m_dx2 m_ot (ne_data (by rw [ct]; intro z; cases z)),
    ne_of N m_d2 m_ot (ne_data (by rw [ct]; obtain ⟨q, n, e⟩ := dict_data ho2; rw [e]; intro z; cases z)),
    ne_of N m_I m_om (ne_data (by rw [cm]; obtain ⟨q, e⟩ := dI; rw [e]; intro z; cases z)),
    ne_of N m_r m_om (ne_data (by rw [cm]; intro z; cases z)),
    ne_of N m_b m_om (ne_data (by rw [cm]; intro z; cases z)),
    ne_of N m_x m_om (ne_data (by rw [cm]; intro z; cases z)),
    ne_of N m_dx m_om (ne_data (by rw [cm]; intro z; cases z)),
    ne_of N m_d m_om (ne_data (by rw [cm]; obtain ⟨q, n, e⟩ := dict_data ho; rw [e]; intro z; cases z)),
    ne_of N m_x2 m_om (ne_data (by rw [cm]; intro z; cases z)),
    ne_of N m_dx2 m_om (ne_data (by rw [cm]; intro z; cases z)),
    ne_of N m_d2 m_om (ne_data (by rw [cm]; obtain ⟨q, n, e⟩ := dict_data ho2; rw [e]; intro z; cases z)),
    ne_of N m_I m_d (ne_cls (by rw [cI, dict_cls ho]; decide)),
    ne_of N m_I m_d2 (ne_cls (by rw [cI, dict_cls ho2]; decide)),
    ne_of N m_r m_d (ne_cls (by rw [dict_cls ho]; show Value.type "list" ≠ Value.type "dict"; decide)),
    ne_of N m_r m_d2 (ne_cls (by rw [dict_cls ho2]; show Value.type "list" ≠ Value.type "dict"; decide)),
    ne_of N m_b m_d (ne_cls (by rw [dict_cls ho]; show Value.type "list" ≠ Value.type "dict"; decide)),
    ne_of N m_b m_d2 (ne_cls (by rw [dict_cls ho2]; show Value.type "list" ≠ Value.type "dict"; decide)),
    ne_of N m_x m_d (ne_cls (by rw [dict_cls ho]; intro z; cases z)),
    ne_of N m_x m_d2 (ne_cls (by rw [dict_cls ho2]; intro z; cases z)),
    ne_of N m_x2 m_d (ne_cls (by rw [dict_cls ho]; intro z; cases z)),
    ne_of N m_x2 m_d2 (ne_cls (by rw [dict_cls ho2]; intro z; cases z)),
    attr_ne N m_dx m_d ho,
    attr_ne N m_dx m_d2 ho2,
    attr_ne N m_dx2 m_d ho,
    attr_ne N m_dx2 m_d2 ho2,
    hdd,
    Ne.symm hdd⟩
theorem fr_eq {h₀ h : Heap} {L : Addr} {m m' : Str → Option Value} (F : Fr h₀ L h m) (e : ∀ z, m z = m' z) : Fr h₀ L h m' := by rw [← funext e]; exact F

-- part Pure
/-! plain laws -/
theorem perm_of_all {ks ks2 : List Int} (hn : ks.Nodup) (hn2 : ks2.Nodup) (hl : ks.length = ks2.length) (ha : ∀ k ∈ ks, k ∈ ks2) : ks.Perm ks2 := by
  refine (List.perm_ext_iff_of_nodup hn hn2).mpr fun a => ⟨ha a, fun h2 => ?_⟩
  by_cases h : a ∈ ks
  · exact h
  · have := nodup_le (l := a :: ks) (l' := ks2) (List.nodup_cons.mpr ⟨h, hn⟩) fun x hx => by
      rcases List.mem_cons.mp hx with rfl | hx
      · exact h2
      · exact ha x hx
    rw [List.length_cons] at this
    omega
theorem sorted_same {a b : List Int} (oa : a.Pairwise (· ≤ ·)) (ob : b.Pairwise (· ≤ ·)) (p : a.Perm b) : a = b :=
  List.Perm.eq_of_pairwise (fun x y _ _ h1 h2 => Int.le_antisymm h1 h2) oa ob p
theorem sorted_eq {ks ks2 n1 n2 : List Int} (hn : ks.Nodup) (hn2 : ks2.Nodup) (p : n1.Perm ks) (p2 : n2.Perm ks2) (o : n1.Pairwise (· ≤ ·)) (o2 : n2.Pairwise (· ≤ ·)) :
    (ks.length == ks2.length && ks.all fun k => decide (k ∈ ks2)) = decide (n1 = n2) := by
  by_cases h : n1 = n2
  · subst h
    have hp := p.symm.trans p2
    simp only [decide_true, Bool.and_eq_true, beq_iff_eq, List.all_eq_true, decide_eq_true_eq]
    exact ⟨hp.length_eq, fun k hk => hp.mem_iff.mp hk⟩
  · simp only [decide_eq_false h]
    rw [Bool.eq_false_iff]
    intro ht
    simp only [Bool.and_eq_true, beq_iff_eq, List.all_eq_true, decide_eq_true_eq] at ht
    exact h (sorted_same o o2 ((p.trans (perm_of_all hn hn2 ht.1 ht.2)).trans p2.symm))
theorem TurnL.mk {w : World} {h₀ h' : Heap} {L I r b x dx d x2 dx2 d2 : Addr} {sv : Value} {ta ta2 : Tok} {na na2 c c2 tk : Nat} {oI o o2 om ot ob : Obj} {us bs : List Value} {ks ks2 : List Int} {vt vm : Option Value} {s : Shared} {m' : Str → Option Value} {news : List (Addr × Obj)}
    (F : Fr h₀ L h' m') (N : News h₀ L h' news) (sub : ∀ p ∈ (I, oI) :: all11 w L r b x dx d x2 dx2 d2 ta ta2 na na2 c c2 o o2 om ot ob us bs, p ∈ news)
    (h1 : m' (Str.ofString "script") = some sv) (h2 : m' (Str.ofString "one") = some (.ref x)) (h3 : m' (Str.ofString "other") = some (.ref x2)) (h4 : m' (Str.ofString "row") = some (.ref r))
    (cm : om.data = .cell vm) (ct : ot.data = .cell vt) (cb : ob.data = .cell (some (.ref b))) (ho : o.IsDictOf (IK w) (kv ks)) (ho2 : o2.IsDictOf (IK w) (kv ks2)) (lo : (d == sysModules) = false) (lo2 : (d2 == sysModules) = false) (hdd : d ≠ d2)
    (hi : IntsAre us ks) (hi2 : IntsAre bs ks2) (hs : Small ks) (hs2 : Small ks2) : TurnL w h₀ L sv I oI s .next { s with heap := h', toks := tk } :=
  ⟨h', tk, m', _, rfl, F, cb_drop N sub, r, b, x, dx, d, x2, dx2, d2, ta, ta2, na, na2, c, c2, o, o2, om, ot, ob, us, bs, ks, ks2, vt, vm, rfl, h1, h2, h3, h4, cm, ct, cb, ho, ho2, lo, lo2, hdd, hi, hi2, hs, hs2⟩
theorem small_put1 {ks : List Int} {k : Int} (h : Small ks) (hk : 0 ≤ k ∧ k < 6) : Small (put1 ks k) := by
  intro a ha
  unfold put1 at ha
  split at ha
  · exact h a ha
  · rcases List.mem_append.mp ha with ha | ha
    · exact h a ha
    · rw [List.mem_singleton.mp ha]; exact hk
theorem small_putl : ∀ {ts ks : List Int}, Small ks → Small ts → Small (ts.foldl put1 ks)
  | [], _, h, _ => h
  | t :: ts, _, h, h2 => small_putl (ts := ts) (small_put1 h (h2 t (.head _))) fun a ha => h2 a (.tail _ ha)
theorem small_sub {ks ks' : List Int} (h : Small ks) (hs : ∀ k ∈ ks', k ∈ ks) : Small ks' := fun k hk => h k (hs k hk)
theorem small_filter {ks : List Int} {f : Int → Bool} (h : Small ks) : Small (ks.filter f) := small_sub h fun k hk => (List.mem_filter.mp hk).1
theorem small_nil : Small [] := fun _ h => nomatch h
theorem TurnL.mk2 {w : World} {h₀ h' : Heap} {L I r b x dx d x2 dx2 d2 : Addr} {sv : Value} {ta ta2 : Tok} {na na2 c c2 tk : Nat} {oI o o2 om ot ob : Obj} {us bs : List Value} {ks ks2 : List Int} {vt vm : Option Value} {s : Shared} {m' : Str → Option Value} {news : List (Addr × Obj)}
    (F : Fr h₀ L h' m') (h1 : m' (Str.ofString "script") = some sv) (h2 : m' (Str.ofString "one") = some (.ref x)) (h3 : m' (Str.ofString "other") = some (.ref x2)) (h4 : m' (Str.ofString "row") = some (.ref r))
    (cm : om.data = .cell vm) (ct : ot.data = .cell vt) (cb : ob.data = .cell (some (.ref b))) (ho : o.IsDictOf (IK w) (kv ks)) (ho2 : o2.IsDictOf (IK w) (kv ks2)) (lo : (d == sysModules) = false) (lo2 : (d2 == sysModules) = false) (hdd : d ≠ d2)
    (hi : IntsAre us ks) (hi2 : IntsAre bs ks2) (hs : Small ks) (hs2 : Small ks2) (N : News h₀ L h' news)
    (e1 : (I, oI) ∈ news) (e2 : (r, listOf us.toArray c) ∈ news) (e3 : (b, listOf bs.toArray c2) ∈ news) (e4 : (x, instObj 203 dx) ∈ news) (e5 : (dx, dictOf (attrs w ta d) na) ∈ news) (e6 : (d, o) ∈ news) (e7 : (x2, instObj 203 dx2) ∈ news) (e8 : (dx2, dictOf (attrs w ta2 d2) na2) ∈ news) (e9 : (d2, o2) ∈ news)
    (e10 : (L + 1 + 1 + 1, om) ∈ news) (e11 : (L + 1 + 1, ot) ∈ news) (e12 : (L + 1, ob) ∈ news) : TurnL w h₀ L sv I oI s .next { s with heap := h', toks := tk } :=
  TurnL.mk F N (fun p hp => by
    simp only [all11, List.mem_cons, List.not_mem_nil, or_false] at hp
    rcases hp with rfl | rfl | rfl | rfl | rfl | rfl | rfl | rfl | rfl | rfl | rfl | rfl
    · exact e1
    · exact e2
    · exact e3
    · exact e4
    · exact e5
    · exact e6
    · exact e7
    · exact e8
    · exact e9
    · exact e10
    · exact e11
    · exact e12) h1 h2 h3 h4 cm ct cb ho ho2 lo lo2 hdd hi hi2 hs hs2
theorem drops_filter : ∀ (ms ks : List Int), ms.foldl drop1 ks = ks.filter fun a => !ms.any fun x => x == a
  | [], ks => (List.filter_eq_self.mpr fun _ _ => rfl).symm
  | m :: ms, ks => by
    rw [List.foldl_cons, drops_filter ms, drop1, List.filter_filter]
    apply List.filter_congr
    intro a _
    rw [List.any_cons]
    by_cases h : a = m
    · subst h; simp
    · have h' : (m == a) = false := by simp only [beq_eq_false_iff_ne, ne_eq]; exact fun e => h e.symm
      simp [h, h', bne]
theorem put78 {ks : List Int} (h : Small ks) : List.foldl put1 ks [7, 8] = ks ++ [7, 8] := by
  have h7 : (7 : Int) ∉ ks := fun hm => by have := h 7 hm; omega
  have h8 : (8 : Int) ∉ ks ++ [7] := fun hm => by
    rcases List.mem_append.mp hm with hm | hm
    · have := h 8 hm; omega
    · exact absurd (List.mem_singleton.mp hm) (by decide)
  simp only [List.foldl_cons, List.foldl_nil, put1, if_neg h7, if_neg h8, List.append_assoc, List.cons_append, List.nil_append]

-- part Turn
/-! one turn of the law's loop -/
abbrev headMap (K p i : Int) (tkd tp t : Tok) (sl x x2 r : Addr) (u : Str → Option Value) : Str → Option Value := fun z => if z = Str.ofString "kind" then some (.int K tkd) else if z = Str.ofString "pick" then some (.int p tp) else if z = Str.ofString "k" then some (.int i t) else if z = Str.ofString "script" then some (.ref sl) else if z = Str.ofString "one" then some (.ref x) else if z = Str.ofString "other" then some (.ref x2) else if z = Str.ofString "row" then some (.ref r) else u z
theorem ne_k (a : String) (h : Str.ofString "k" ≠ Str.ofString a) : (Str.ofString "k" = Str.ofString a) = False := eq_false h
theorem head_eq (K p i : Int) (tkd tp t : Tok) (sl x x2 r : Addr) (u : Str → Option Value) (z : Str) : headMap K p i tkd tp t sl x x2 r u z = (if z = Str.ofString "kind" then some (.int K tkd) else if z = Str.ofString "pick" then some (.int p tp) else if z = Str.ofString "script" then some (.ref sl) else if z = Str.ofString "one" then some (.ref x) else if z = Str.ofString "other" then some (.ref x2) else if z = Str.ofString "row" then some (.ref r) else (fun z => if z = Str.ofString "k" then some (.int i t) else u z) z) := by
  unfold headMap
  by_cases h1 : z = Str.ofString "k"
  · subst h1
    simp only [ne_k "kind" (by decide), ne_k "pick" (by decide), ne_k "script" (by decide), ne_k "one" (by decide), ne_k "other" (by decide), ne_k "row" (by decide), if_false, if_true]
  · simp only [if_neg h1]
section
variable {w : World} {L fa sl : Addr} {cdv : Value} {base : Heap} {s : Shared} {mean : ExcName → Option Value} {mg mb : Str → Option Value} {E : Value → Shared → Prop} {i p kd th : Int} {ti tp tkd tth : Tok}
  {I r b x dx d x2 dx2 d2 mr : Addr} {ta ta2 : Tok} {na na2 c c2 mc : Nat} {oI o o2 om ot ob : Obj} {us bs svs mus : List Value} {ks ks2 sns ms : List Int} {vt vm : Option Value} {u : Str → Option Value}
variable (B : Below callerA base [] base) (X : (hd.heap_39 w.params).In base) (T : Top hd.view_39 (looseW hd.view_39 [Str.ofString "OrderedSet"]) mean mg mb base)
  (cI : oI.cls = .type "range_iterator") (dI : ∃ q, oI.data = .fields q) (cb : ob.data = .cell (some (.ref b))) (ho : o.IsDictOf (IK w) (kv ks)) (ho2 : o2.IsDictOf (IK w) (kv ks2)) (lo : (d == sysModules) = false) (lo2 : (d2 == sysModules) = false) (hdd : d ≠ d2)
  (hi : IntsAre us ks) (hi2 : IntsAre bs ks2) (hs : Small ks) (hs2 : Small ks2)
include B X T cI dI cb ho ho2 lo lo2 hdd hi hi2 hs hs2
theorem turn_head {rest : List Stmt} {Q : Flow → Shared → Prop} (cm : om.data = .cell vm) (ct : ot.data = .cell vt) (hl : base.IsList sl svs.toArray) (hsi : IntsAre svs sns) (hlen : sns.length < 2 ^ 62) (h0 : 0 ≤ i) (h13 : i < 13)
    (F : Fr base L s.heap (fun z => if z = Str.ofString "k" then some (.int i ti) else if z = Str.ofString "script" then some (.ref sl) else if z = Str.ofString "one" then some (.ref x) else if z = Str.ofString "other" then some (.ref x2) else if z = Str.ofString "row" then some (.ref r) else u z))
    (N : News base L s.heap ((I, oI) :: all11 w L r b x dx d x2 dx2 d2 ta ta2 na na2 c c2 o o2 om ot ob us bs))
    (hcont : ∀ h' tk p tp tkd th tth mr mus mc ms om' ot' (u' : Str → Option Value), Fr base L h' (fun z => if z = Str.ofString "kind" then some (.int ((p.fdiv 2).fmod 12) tkd) else if z = Str.ofString "pick" then some (.int p tp) else if z = Str.ofString "script" then some (.ref sl) else if z = Str.ofString "one" then some (.ref x) else if z = Str.ofString "other" then some (.ref x2) else if z = Str.ofString "row" then some (.ref r) else u' z) →
      News base L h' ((mr, listOf mus.toArray mc) :: (I, oI) :: all11 w L r b x dx d x2 dx2 d2 ta ta2 na na2 c c2 o o2 om' ot' ob us bs) → om'.data = .cell (some (.ref mr)) → ot'.data = .cell (some (.int th tth)) → IntsAre mus ms → ms.length ≤ 4 → Small ms → 0 ≤ th → th < 6 →
      wpAny (model PySem.Challenge.rw_bq0028_01.row.prog w) (callerA.deeper (envOfC (Str.ofString "law") lawScope L fa cdv)) (execs rest (envOfC (Str.ofString "law") lawScope L fa cdv)) Q E { s with heap := h', toks := tk }) :
    wpAny (model PySem.Challenge.rw_bq0028_01.row.prog w) (callerA.deeper (envOfC (Str.ofString "law") lawScope L fa cdv)) (execs (lb 0 :: lb 1 :: lb 2 :: rest) (envOfC (Str.ofString "law") lawScope L fa cdv)) Q E s := by
  obtain ⟨p1, p2, p3, p4, p5, p6, p7, p8, p9, p10, p11, p12, p13, p14, p15, p16, p17, p18, p19, p20, p21, p22, p23, p24, p25, p26, p27, p28, p29, p30, p31, p32, p33, p34, p35, p36, p37, p38, p39, p40, p41, p42, p43⟩ := apart N cI dI cm ct cb ho ho2 hdd
  unfold all11 at N
  revert X; k_fill; intro X
  dsimp only [lb, nth, loopBody, lawStmts, lawScope, lastOf, PySem.Challenge.pw_bq0028_01]
  k_steps
  dsimp only
  exact hcont _ _ (num sns (20 + 3 * i)) _ _ _ _ _ _ _ _ _ _ (fun z => if z = Str.ofString "k" then some (.int i ti) else u z)
    (fr_eq (m := headMap (((num sns (20 + 3 * i)).fdiv 2).fmod 12) (num sns (20 + 3 * i)) i _ _ ti sl x x2 r u) (by k_asm) (head_eq _ _ _ _ _ _ _ _ _ _ _)) (cb_drop (by k_asm) (by simp only [all11]; exact fun p hp => .tail _ hp)) (by k_asm) (by k_asm) (by k_asm) (by assumption)
    (by rename ∀ x ∈ _, 0 ≤ x ∧ x < 6 => hB; exact hB) (Int.fmod_nonneg_of_pos ((num sns (21 + 3 * i)).fdiv 2) (by decide : (0 : Int) < 6)) (Int.fmod_lt_of_pos _ (by decide))
end

-- part Tail
/-! the checks at a turn's end -/
section
variable {w : World} {L fa sl : Addr} {cdv : Value} {base : Heap} {s : Shared} {mean : ExcName → Option Value} {mg mb : Str → Option Value} {E : Value → Shared → Prop} {i p kd th : Int} {ti tp tkd tth : Tok}
  {I r b x dx d x2 dx2 d2 mr : Addr} {ta ta2 : Tok} {na na2 c c2 mc : Nat} {oI o o2 om ot ob : Obj} {us bs svs mus : List Value} {ks ks2 sns ms : List Int} {vt vm : Option Value} {u : Str → Option Value}
variable (B : Below callerA base [] base) (X : (hd.heap_39 w.params).In base) (T : Top hd.view_39 (looseW hd.view_39 [Str.ofString "OrderedSet"]) mean mg mb base)
  (cI : oI.cls = .type "range_iterator") (dI : ∃ q, oI.data = .fields q) (cb : ob.data = .cell (some (.ref b))) (ho : o.IsDictOf (IK w) (kv ks)) (ho2 : o2.IsDictOf (IK w) (kv ks2)) (lo : (d == sysModules) = false) (lo2 : (d2 == sysModules) = false) (hdd : d ≠ d2)
  (hi : IntsAre us ks) (hi2 : IntsAre bs ks2) (hs : Small ks) (hs2 : Small ks2)
include B X T cI dI cb ho ho2 lo lo2 hdd hi hi2 hs hs2
theorem turn_tail (cm : om.data = .cell vm) (ct : ot.data = .cell vt) (F : Fr base L s.heap (fun z => if z = Str.ofString "script" then some (.ref sl) else if z = Str.ofString "one" then some (.ref x) else if z = Str.ofString "other" then some (.ref x2) else if z = Str.ofString "row" then some (.ref r) else u z)) (N : News base L s.heap ((I, oI) :: all11 w L r b x dx d x2 dx2 d2 ta ta2 na na2 c c2 o o2 om ot ob us bs)) :
    wpAny (model PySem.Challenge.rw_bq0028_01.row.prog w) (callerA.deeper (envOfC (Str.ofString "law") lawScope L fa cdv)) (execs [lb 4] (envOfC (Str.ofString "law") lawScope L fa cdv)) (TurnL w base L (.ref sl) I oI s) E s := by
  obtain ⟨p1, p2, p3, p4, p5, p6, p7, p8, p9, p10, p11, p12, p13, p14, p15, p16, p17, p18, p19, p20, p21, p22, p23, p24, p25, p26, p27, p28, p29, p30, p31, p32, p33, p34, p35, p36, p37, p38, p39, p40, p41, p42, p43⟩ := apart N cI dI cm ct cb ho ho2 hdd
  have hz := small_nodup hs (dict_nodup ho)
  have hz2 := small_nodup hs2 (dict_nodup ho2)
  unfold all11 at N
  revert X; k_fill; intro X
  dsimp only [lb, nth, loopBody, lawStmts, lawScope, lastOf, PySem.Challenge.pw_bq0028_01]
  k_steps
  · rename (_ != _) = true => q
    exact absurd q (by rw [sorted_eq (dict_nodup ho) (dict_nodup ho2) (by assumption) (by assumption) (by assumption) (by assumption)]; simp)
  · exact TurnL.mk (by k_asm) (by k_asm) (by simp only [all11]; exact fun p hp => by first | exact hp | exact .tail _ hp | exact .tail _ (.tail _ hp) | exact .tail _ (.tail _ (.tail _ hp)) | exact .tail _ (.tail _ (.tail _ (.tail _ hp)))) rfl rfl rfl rfl cm ct cb ho ho2 lo lo2 hdd hi hi2 hs hs2
end

-- part Deed0
/-! a deed of kind 0 -/
section
variable {w : World} {L fa sl : Addr} {cdv : Value} {base : Heap} {s : Shared} {mean : ExcName → Option Value} {mg mb : Str → Option Value} {E : Value → Shared → Prop} {i p kd th : Int} {ti tp tkd tth : Tok}
  {I r b x dx d x2 dx2 d2 mr : Addr} {ta ta2 : Tok} {na na2 c c2 mc : Nat} {oI o o2 om ot ob : Obj} {us bs svs mus : List Value} {ks ks2 sns ms : List Int} {vt vm : Option Value} {u : Str → Option Value}
variable (B : Below callerA base [] base) (X : (hd.heap_39 w.params).In base) (T : Top hd.view_39 (looseW hd.view_39 [Str.ofString "OrderedSet"]) mean mg mb base)
  (cI : oI.cls = .type "range_iterator") (dI : ∃ q, oI.data = .fields q) (cb : ob.data = .cell (some (.ref b))) (ho : o.IsDictOf (IK w) (kv ks)) (ho2 : o2.IsDictOf (IK w) (kv ks2)) (lo : (d == sysModules) = false) (lo2 : (d2 == sysModules) = false) (hdd : d ≠ d2)
  (hi : IntsAre us ks) (hi2 : IntsAre bs ks2) (hs : Small ks) (hs2 : Small ks2)
include B X T cI dI cb ho ho2 lo lo2 hdd hi hi2 hs hs2
theorem deed_0 (cm : om.data = .cell (some (.ref mr))) (ct : ot.data = .cell (some (.int th tth))) (hth : 0 ≤ th) (hth6 : th < 6) (hmi : IntsAre mus ms) (hml : ms.length ≤ 4) (hms : Small ms)
    (F : Fr base L s.heap (fun z => if z = Str.ofString "kind" then some (.int kd tkd) else if z = Str.ofString "pick" then some (.int p tp) else if z = Str.ofString "script" then some (.ref sl) else if z = Str.ofString "one" then some (.ref x) else if z = Str.ofString "other" then some (.ref x2) else if z = Str.ofString "row" then some (.ref r) else u z)) (N : News base L s.heap ((mr, listOf mus.toArray mc) :: (I, oI) :: all11 w L r b x dx d x2 dx2 d2 ta ta2 na na2 c c2 o o2 om ot ob us bs)) (hkd : kd = 0) :
    wpAny (model PySem.Challenge.rw_bq0028_01.row.prog w) (callerA.deeper (envOfC (Str.ofString "law") lawScope L fa cdv)) (exec (lb 3) (envOfC (Str.ofString "law") lawScope L fa cdv)) (fun f s₂ => f = .next ∧ TurnL w base L (.ref sl) I oI s .next s₂) E s := by
  obtain ⟨p1, p2, p3, p4, p5, p6, p7, p8, p9, p10, p11, p12, p13, p14, p15, p16, p17, p18, p19, p20, p21, p22, p23, p24, p25, p26, p27, p28, p29, p30, p31, p32, p33, p34, p35, p36, p37, p38, p39, p40, p41, p42, p43⟩ := apart (fun p hp => N p (.tail _ hp)) cI dI cm ct cb ho ho2 hdd
  have q1 : mr ≠ L + 1 := ne_of N (.head _) (b := L + 1) (ob := ob) (by simp [all11]) (ne_data (by rw [cb]; intro z; cases z))
  have q2 : mr ≠ L + 1 + 1 := ne_of N (.head _) (b := L + 1 + 1) (ob := ot) (by simp [all11]) (ne_data (by rw [ct]; intro z; cases z))
  have q3 : mr ≠ L + 1 + 1 + 1 := ne_of N (.head _) (b := L + 1 + 1 + 1) (ob := om) (by simp [all11]) (ne_data (by rw [cm]; intro z; cases z))
  have q4 : mr ≠ d := ne_of N (.head _) (b := d) (ob := o) (by simp [all11]) (ne_cls (by rw [dict_cls ho]; show Value.type "list" ≠ Value.type "dict"; decide))
  have q5 : mr ≠ d2 := ne_of N (.head _) (b := d2) (ob := o2) (by simp [all11]) (ne_cls (by rw [dict_cls ho2]; show Value.type "list" ≠ Value.type "dict"; decide))
  have e1 := Ne.symm p6; have e2 := Ne.symm p15; have e3 := Ne.symm p24; have e4 := Ne.symm p9; have e5 := Ne.symm p18; have e6 := Ne.symm p27
  have hz := small_nodup hs (dict_nodup ho)
  have hz2 := small_nodup hs2 (dict_nodup ho2)
  subst hkd
  unfold all11 at N
  revert X; k_fill; intro X
  dsimp only [lb, nth, loopBody, lawStmts, lawScope, lastOf, PySem.Challenge.pw_bq0028_01]
  k_steps
  all_goals exact TurnL.mk2 (ks := put1 ks th) (ks2 := ks2) (dx := dx) (dx2 := dx2) (ta := ta) (ta2 := ta2) (na := na) (na2 := na2) (by k_asm) (by rfl) (by rfl) (by rfl) (by rfl) cm ct cb (by k_asm) ho2 lo lo2 hdd (by first | k_asm | (rename List.foldl put1 _ _ = _ => e9; first | exact e9.symm ▸ hi | (rw [e9]; exact hi))) hi2 (small_put1 hs ⟨hth, hth6⟩) hs2 (by k_asm) (by k_mem) (by k_mem) (by k_mem) (by k_mem) (by k_mem) (by k_mem) (by k_mem) (by k_mem) (by k_mem) (by k_mem) (by k_mem) (by k_mem)
end

-- part Deed1
/-! a deed of kind 1 -/
section
variable {w : World} {L fa sl : Addr} {cdv : Value} {base : Heap} {s : Shared} {mean : ExcName → Option Value} {mg mb : Str → Option Value} {E : Value → Shared → Prop} {i p kd th : Int} {ti tp tkd tth : Tok}
  {I r b x dx d x2 dx2 d2 mr : Addr} {ta ta2 : Tok} {na na2 c c2 mc : Nat} {oI o o2 om ot ob : Obj} {us bs svs mus : List Value} {ks ks2 sns ms : List Int} {vt vm : Option Value} {u : Str → Option Value}
variable (B : Below callerA base [] base) (X : (hd.heap_39 w.params).In base) (T : Top hd.view_39 (looseW hd.view_39 [Str.ofString "OrderedSet"]) mean mg mb base)
  (cI : oI.cls = .type "range_iterator") (dI : ∃ q, oI.data = .fields q) (cb : ob.data = .cell (some (.ref b))) (ho : o.IsDictOf (IK w) (kv ks)) (ho2 : o2.IsDictOf (IK w) (kv ks2)) (lo : (d == sysModules) = false) (lo2 : (d2 == sysModules) = false) (hdd : d ≠ d2)
  (hi : IntsAre us ks) (hi2 : IntsAre bs ks2) (hs : Small ks) (hs2 : Small ks2)
include B X T cI dI cb ho ho2 lo lo2 hdd hi hi2 hs hs2
theorem deed_1 (cm : om.data = .cell (some (.ref mr))) (ct : ot.data = .cell (some (.int th tth))) (hth : 0 ≤ th) (hth6 : th < 6) (hmi : IntsAre mus ms) (hml : ms.length ≤ 4) (hms : Small ms)
    (F : Fr base L s.heap (fun z => if z = Str.ofString "kind" then some (.int kd tkd) else if z = Str.ofString "pick" then some (.int p tp) else if z = Str.ofString "script" then some (.ref sl) else if z = Str.ofString "one" then some (.ref x) else if z = Str.ofString "other" then some (.ref x2) else if z = Str.ofString "row" then some (.ref r) else u z)) (N : News base L s.heap ((mr, listOf mus.toArray mc) :: (I, oI) :: all11 w L r b x dx d x2 dx2 d2 ta ta2 na na2 c c2 o o2 om ot ob us bs)) (hkd : kd = 1) :
    wpAny (model PySem.Challenge.rw_bq0028_01.row.prog w) (callerA.deeper (envOfC (Str.ofString "law") lawScope L fa cdv)) (exec (lb 3) (envOfC (Str.ofString "law") lawScope L fa cdv)) (fun f s₂ => f = .next ∧ TurnL w base L (.ref sl) I oI s .next s₂) E s := by
  obtain ⟨p1, p2, p3, p4, p5, p6, p7, p8, p9, p10, p11, p12, p13, p14, p15, p16, p17, p18, p19, p20, p21, p22, p23, p24, p25, p26, p27, p28, p29, p30, p31, p32, p33, p34, p35, p36, p37, p38, p39, p40, p41, p42, p43⟩ := apart (fun p hp => N p (.tail _ hp)) cI dI cm ct cb ho ho2 hdd
  have q1 : mr ≠ L + 1 := ne_of N (.head _) (b := L + 1) (ob := ob) (by simp [all11]) (ne_data (by rw [cb]; intro z; cases z))
  have q2 : mr ≠ L + 1 + 1 := ne_of N (.head _) (b := L + 1 + 1) (ob := ot) (by simp [all11]) (ne_data (by rw [ct]; intro z; cases z))
  have q3 : mr ≠ L + 1 + 1 + 1 := ne_of N (.head _) (b := L + 1 + 1 + 1) (ob := om) (by simp [all11]) (ne_data (by rw [cm]; intro z; cases z))
  have q4 : mr ≠ d := ne_of N (.head _) (b := d) (ob := o) (by simp [all11]) (ne_cls (by rw [dict_cls ho]; show Value.type "list" ≠ Value.type "dict"; decide))
  have q5 : mr ≠ d2 := ne_of N (.head _) (b := d2) (ob := o2) (by simp [all11]) (ne_cls (by rw [dict_cls ho2]; show Value.type "list" ≠ Value.type "dict"; decide))
  have e1 := Ne.symm p6; have e2 := Ne.symm p15; have e3 := Ne.symm p24; have e4 := Ne.symm p9; have e5 := Ne.symm p18; have e6 := Ne.symm p27
  have hz := small_nodup hs (dict_nodup ho)
  have hz2 := small_nodup hs2 (dict_nodup ho2)
  subst hkd
  unfold all11 at N
  revert X; k_fill; intro X
  dsimp only [lb, nth, loopBody, lawStmts, lawScope, lastOf, PySem.Challenge.pw_bq0028_01]
  k_steps
  all_goals exact TurnL.mk2 (ks := put1 ks th) (ks2 := ks2) (dx := dx) (dx2 := dx2) (ta := ta) (ta2 := ta2) (na := na) (na2 := na2) (by k_asm) (by rfl) (by rfl) (by rfl) (by rfl) cm ct cb (by k_asm) ho2 lo lo2 hdd (by first | k_asm | (rename List.foldl put1 _ _ = _ => e9; first | exact e9.symm ▸ hi | (rw [e9]; exact hi))) hi2 (small_put1 hs ⟨hth, hth6⟩) hs2 (by k_asm) (by k_mem) (by k_mem) (by k_mem) (by k_mem) (by k_mem) (by k_mem) (by k_mem) (by k_mem) (by k_mem) (by k_mem) (by k_mem) (by k_mem)
end

-- part Deed2
/-! a deed of kind 2 -/
section
variable {w : World} {L fa sl : Addr} {cdv : Value} {base : Heap} {s : Shared} {mean : ExcName → Option Value} {mg mb : Str → Option Value} {E : Value → Shared → Prop} {i p kd th : Int} {ti tp tkd tth : Tok}
  {I r b x dx d x2 dx2 d2 mr : Addr} {ta ta2 : Tok} {na na2 c c2 mc : Nat} {oI o o2 om ot ob : Obj} {us bs svs mus : List Value} {ks ks2 sns ms : List Int} {vt vm : Option Value} {u : Str → Option Value}
variable (B : Below callerA base [] base) (X : (hd.heap_39 w.params).In base) (T : Top hd.view_39 (looseW hd.view_39 [Str.ofString "OrderedSet"]) mean mg mb base)
  (cI : oI.cls = .type "range_iterator") (dI : ∃ q, oI.data = .fields q) (cb : ob.data = .cell (some (.ref b))) (ho : o.IsDictOf (IK w) (kv ks)) (ho2 : o2.IsDictOf (IK w) (kv ks2)) (lo : (d == sysModules) = false) (lo2 : (d2 == sysModules) = false) (hdd : d ≠ d2)
  (hi : IntsAre us ks) (hi2 : IntsAre bs ks2) (hs : Small ks) (hs2 : Small ks2)
include B X T cI dI cb ho ho2 lo lo2 hdd hi hi2 hs hs2
theorem deed_2 (cm : om.data = .cell (some (.ref mr))) (ct : ot.data = .cell (some (.int th tth))) (hth : 0 ≤ th) (hth6 : th < 6) (hmi : IntsAre mus ms) (hml : ms.length ≤ 4) (hms : Small ms)
    (F : Fr base L s.heap (fun z => if z = Str.ofString "kind" then some (.int kd tkd) else if z = Str.ofString "pick" then some (.int p tp) else if z = Str.ofString "script" then some (.ref sl) else if z = Str.ofString "one" then some (.ref x) else if z = Str.ofString "other" then some (.ref x2) else if z = Str.ofString "row" then some (.ref r) else u z)) (N : News base L s.heap ((mr, listOf mus.toArray mc) :: (I, oI) :: all11 w L r b x dx d x2 dx2 d2 ta ta2 na na2 c c2 o o2 om ot ob us bs)) (hkd : kd = 2) :
    wpAny (model PySem.Challenge.rw_bq0028_01.row.prog w) (callerA.deeper (envOfC (Str.ofString "law") lawScope L fa cdv)) (exec (lb 3) (envOfC (Str.ofString "law") lawScope L fa cdv)) (fun f s₂ => f = .next ∧ TurnL w base L (.ref sl) I oI s .next s₂) E s := by
  obtain ⟨p1, p2, p3, p4, p5, p6, p7, p8, p9, p10, p11, p12, p13, p14, p15, p16, p17, p18, p19, p20, p21, p22, p23, p24, p25, p26, p27, p28, p29, p30, p31, p32, p33, p34, p35, p36, p37, p38, p39, p40, p41, p42, p43⟩ := apart (fun p hp => N p (.tail _ hp)) cI dI cm ct cb ho ho2 hdd
  have q1 : mr ≠ L + 1 := ne_of N (.head _) (b := L + 1) (ob := ob) (by simp [all11]) (ne_data (by rw [cb]; intro z; cases z))
  have q2 : mr ≠ L + 1 + 1 := ne_of N (.head _) (b := L + 1 + 1) (ob := ot) (by simp [all11]) (ne_data (by rw [ct]; intro z; cases z))
  have q3 : mr ≠ L + 1 + 1 + 1 := ne_of N (.head _) (b := L + 1 + 1 + 1) (ob := om) (by simp [all11]) (ne_data (by rw [cm]; intro z; cases z))
  have q4 : mr ≠ d := ne_of N (.head _) (b := d) (ob := o) (by simp [all11]) (ne_cls (by rw [dict_cls ho]; show Value.type "list" ≠ Value.type "dict"; decide))
  have q5 : mr ≠ d2 := ne_of N (.head _) (b := d2) (ob := o2) (by simp [all11]) (ne_cls (by rw [dict_cls ho2]; show Value.type "list" ≠ Value.type "dict"; decide))
  have e1 := Ne.symm p6; have e2 := Ne.symm p15; have e3 := Ne.symm p24; have e4 := Ne.symm p9; have e5 := Ne.symm p18; have e6 := Ne.symm p27
  have hz := small_nodup hs (dict_nodup ho)
  have hz2 := small_nodup hs2 (dict_nodup ho2)
  subst hkd
  unfold all11 at N
  revert X; k_fill; intro X
  dsimp only [lb, nth, loopBody, lawStmts, lawScope, lastOf, PySem.Challenge.pw_bq0028_01]
  k_steps
  all_goals exact TurnL.mk2 (ks := ms.foldl put1 ks) (ks2 := ks2) (dx := dx) (dx2 := dx2) (ta := ta) (ta2 := ta2) (na := na) (na2 := na2) (by k_asm) (by rfl) (by rfl) (by rfl) (by rfl) cm ct cb (by k_asm) ho2 lo lo2 hdd (by first | k_asm | (rename List.foldl put1 _ _ = _ => e9; first | exact e9.symm ▸ hi | (rw [e9]; exact hi))) hi2 (small_putl hs hms) hs2 (by k_asm) (by k_mem) (by k_mem) (by k_mem) (by k_mem) (by k_mem) (by k_mem) (by k_mem) (by k_mem) (by k_mem) (by k_mem) (by k_mem) (by k_mem)
end

-- part Deed3
/-! a deed of kind 3 -/
section
variable {w : World} {L fa sl : Addr} {cdv : Value} {base : Heap} {s : Shared} {mean : ExcName → Option Value} {mg mb : Str → Option Value} {E : Value → Shared → Prop} {i p kd th : Int} {ti tp tkd tth : Tok}
  {I r b x dx d x2 dx2 d2 mr : Addr} {ta ta2 : Tok} {na na2 c c2 mc : Nat} {oI o o2 om ot ob : Obj} {us bs svs mus : List Value} {ks ks2 sns ms : List Int} {vt vm : Option Value} {u : Str → Option Value}
variable (B : Below callerA base [] base) (X : (hd.heap_39 w.params).In base) (T : Top hd.view_39 (looseW hd.view_39 [Str.ofString "OrderedSet"]) mean mg mb base)
  (cI : oI.cls = .type "range_iterator") (dI : ∃ q, oI.data = .fields q) (cb : ob.data = .cell (some (.ref b))) (ho : o.IsDictOf (IK w) (kv ks)) (ho2 : o2.IsDictOf (IK w) (kv ks2)) (lo : (d == sysModules) = false) (lo2 : (d2 == sysModules) = false) (hdd : d ≠ d2)
  (hi : IntsAre us ks) (hi2 : IntsAre bs ks2) (hs : Small ks) (hs2 : Small ks2)
include B X T cI dI cb ho ho2 lo lo2 hdd hi hi2 hs hs2
theorem deed_3 (cm : om.data = .cell (some (.ref mr))) (ct : ot.data = .cell (some (.int th tth))) (hth : 0 ≤ th) (hth6 : th < 6) (hmi : IntsAre mus ms) (hml : ms.length ≤ 4) (hms : Small ms)
    (F : Fr base L s.heap (fun z => if z = Str.ofString "kind" then some (.int kd tkd) else if z = Str.ofString "pick" then some (.int p tp) else if z = Str.ofString "script" then some (.ref sl) else if z = Str.ofString "one" then some (.ref x) else if z = Str.ofString "other" then some (.ref x2) else if z = Str.ofString "row" then some (.ref r) else u z)) (N : News base L s.heap ((mr, listOf mus.toArray mc) :: (I, oI) :: all11 w L r b x dx d x2 dx2 d2 ta ta2 na na2 c c2 o o2 om ot ob us bs)) (hkd : kd = 3) :
    wpAny (model PySem.Challenge.rw_bq0028_01.row.prog w) (callerA.deeper (envOfC (Str.ofString "law") lawScope L fa cdv)) (exec (lb 3) (envOfC (Str.ofString "law") lawScope L fa cdv)) (fun f s₂ => f = .next ∧ TurnL w base L (.ref sl) I oI s .next s₂) E s := by
  obtain ⟨p1, p2, p3, p4, p5, p6, p7, p8, p9, p10, p11, p12, p13, p14, p15, p16, p17, p18, p19, p20, p21, p22, p23, p24, p25, p26, p27, p28, p29, p30, p31, p32, p33, p34, p35, p36, p37, p38, p39, p40, p41, p42, p43⟩ := apart (fun p hp => N p (.tail _ hp)) cI dI cm ct cb ho ho2 hdd
  have q1 : mr ≠ L + 1 := ne_of N (.head _) (b := L + 1) (ob := ob) (by simp [all11]) (ne_data (by rw [cb]; intro z; cases z))
  have q2 : mr ≠ L + 1 + 1 := ne_of N (.head _) (b := L + 1 + 1) (ob := ot) (by simp [all11]) (ne_data (by rw [ct]; intro z; cases z))
  have q3 : mr ≠ L + 1 + 1 + 1 := ne_of N (.head _) (b := L + 1 + 1 + 1) (ob := om) (by simp [all11]) (ne_data (by rw [cm]; intro z; cases z))
  have q4 : mr ≠ d := ne_of N (.head _) (b := d) (ob := o) (by simp [all11]) (ne_cls (by rw [dict_cls ho]; show Value.type "list" ≠ Value.type "dict"; decide))
  have q5 : mr ≠ d2 := ne_of N (.head _) (b := d2) (ob := o2) (by simp [all11]) (ne_cls (by rw [dict_cls ho2]; show Value.type "list" ≠ Value.type "dict"; decide))
  have e1 := Ne.symm p6; have e2 := Ne.symm p15; have e3 := Ne.symm p24; have e4 := Ne.symm p9; have e5 := Ne.symm p18; have e6 := Ne.symm p27
  have hz := small_nodup hs (dict_nodup ho)
  have hz2 := small_nodup hs2 (dict_nodup ho2)
  subst hkd
  unfold all11 at N
  revert X; k_fill; intro X
  dsimp only [lb, nth, loopBody, lawStmts, lawScope, lastOf, PySem.Challenge.pw_bq0028_01]
  k_steps
  all_goals (first | exact default | (rename (_ != _) = true => q; exact absurd q (by rw [any_mem]; simp)) | skip)
  rename CarriedAll _ _ => hC
  have iY := IntsAre.ofCarried hC
  k_made
  exact TurnL.mk2 (ks := ks.filter fun x => x != th) (ks2 := ks2) (dx := dx) (dx2 := dx2) (ta := ta) (ta2 := ta2) (na := na) (na2 := na2) (by k_asm) (by rfl) (by rfl) (by rfl) (by rfl) cm ct cb (by k_asm) ho2 lo lo2 hdd iY hi2 (small_filter hs) hs2 (by k_asm) (by k_mem) (by k_mem) (by k_mem) (by k_mem) (by k_mem) (by k_mem) (by k_mem) (by k_mem) (by k_mem) (by k_mem) (by k_mem) (by k_mem)
end

-- part Deed4
/-! a deed of kind 4 -/
section
variable {w : World} {L fa sl : Addr} {cdv : Value} {base : Heap} {s : Shared} {mean : ExcName → Option Value} {mg mb : Str → Option Value} {E : Value → Shared → Prop} {i p kd th : Int} {ti tp tkd tth : Tok}
  {I r b x dx d x2 dx2 d2 mr : Addr} {ta ta2 : Tok} {na na2 c c2 mc : Nat} {oI o o2 om ot ob : Obj} {us bs svs mus : List Value} {ks ks2 sns ms : List Int} {vt vm : Option Value} {u : Str → Option Value}
variable (B : Below callerA base [] base) (X : (hd.heap_39 w.params).In base) (T : Top hd.view_39 (looseW hd.view_39 [Str.ofString "OrderedSet"]) mean mg mb base)
  (cI : oI.cls = .type "range_iterator") (dI : ∃ q, oI.data = .fields q) (cb : ob.data = .cell (some (.ref b))) (ho : o.IsDictOf (IK w) (kv ks)) (ho2 : o2.IsDictOf (IK w) (kv ks2)) (lo : (d == sysModules) = false) (lo2 : (d2 == sysModules) = false) (hdd : d ≠ d2)
  (hi : IntsAre us ks) (hi2 : IntsAre bs ks2) (hs : Small ks) (hs2 : Small ks2)
include B X T cI dI cb ho ho2 lo lo2 hdd hi hi2 hs hs2
theorem deed_4 (cm : om.data = .cell (some (.ref mr))) (ct : ot.data = .cell (some (.int th tth))) (hth : 0 ≤ th) (hth6 : th < 6) (hmi : IntsAre mus ms) (hml : ms.length ≤ 4) (hms : Small ms)
    (F : Fr base L s.heap (fun z => if z = Str.ofString "kind" then some (.int kd tkd) else if z = Str.ofString "pick" then some (.int p tp) else if z = Str.ofString "script" then some (.ref sl) else if z = Str.ofString "one" then some (.ref x) else if z = Str.ofString "other" then some (.ref x2) else if z = Str.ofString "row" then some (.ref r) else u z)) (N : News base L s.heap ((mr, listOf mus.toArray mc) :: (I, oI) :: all11 w L r b x dx d x2 dx2 d2 ta ta2 na na2 c c2 o o2 om ot ob us bs)) (hkd : kd = 4) :
    wpAny (model PySem.Challenge.rw_bq0028_01.row.prog w) (callerA.deeper (envOfC (Str.ofString "law") lawScope L fa cdv)) (exec (lb 3) (envOfC (Str.ofString "law") lawScope L fa cdv)) (fun f s₂ => f = .next ∧ TurnL w base L (.ref sl) I oI s .next s₂) E s := by
  obtain ⟨p1, p2, p3, p4, p5, p6, p7, p8, p9, p10, p11, p12, p13, p14, p15, p16, p17, p18, p19, p20, p21, p22, p23, p24, p25, p26, p27, p28, p29, p30, p31, p32, p33, p34, p35, p36, p37, p38, p39, p40, p41, p42, p43⟩ := apart (fun p hp => N p (.tail _ hp)) cI dI cm ct cb ho ho2 hdd
  have q1 : mr ≠ L + 1 := ne_of N (.head _) (b := L + 1) (ob := ob) (by simp [all11]) (ne_data (by rw [cb]; intro z; cases z))
  have q2 : mr ≠ L + 1 + 1 := ne_of N (.head _) (b := L + 1 + 1) (ob := ot) (by simp [all11]) (ne_data (by rw [ct]; intro z; cases z))
  have q3 : mr ≠ L + 1 + 1 + 1 := ne_of N (.head _) (b := L + 1 + 1 + 1) (ob := om) (by simp [all11]) (ne_data (by rw [cm]; intro z; cases z))
  have q4 : mr ≠ d := ne_of N (.head _) (b := d) (ob := o) (by simp [all11]) (ne_cls (by rw [dict_cls ho]; show Value.type "list" ≠ Value.type "dict"; decide))
  have q5 : mr ≠ d2 := ne_of N (.head _) (b := d2) (ob := o2) (by simp [all11]) (ne_cls (by rw [dict_cls ho2]; show Value.type "list" ≠ Value.type "dict"; decide))
  have e1 := Ne.symm p6; have e2 := Ne.symm p15; have e3 := Ne.symm p24; have e4 := Ne.symm p9; have e5 := Ne.symm p18; have e6 := Ne.symm p27
  have hz := small_nodup hs (dict_nodup ho)
  have hz2 := small_nodup hs2 (dict_nodup ho2)
  subst hkd
  unfold all11 at N
  revert X; k_fill; intro X
  dsimp only [lb, nth, loopBody, lawStmts, lawScope, lastOf, PySem.Challenge.pw_bq0028_01]
  k_steps
  all_goals (first | exact default | skip)
  rename CarriedAll _ _ => hC
  have iY := IntsAre.ofCarried hC
  k_made
  exact TurnL.mk2 (ks := ks.filter fun x => x != th) (ks2 := ks2) (dx := dx) (dx2 := dx2) (ta := ta) (ta2 := ta2) (na := na) (na2 := na2) (by k_asm) (by rfl) (by rfl) (by rfl) (by rfl) cm ct cb (by k_asm) ho2 lo lo2 hdd iY hi2 (small_filter hs) hs2 (by k_asm) (by k_mem) (by k_mem) (by k_mem) (by k_mem) (by k_mem) (by k_mem) (by k_mem) (by k_mem) (by k_mem) (by k_mem) (by k_mem) (by k_mem)
end

-- part Deed5
/-! a deed of kind 5 -/
section
variable {w : World} {L fa sl : Addr} {cdv : Value} {base : Heap} {s : Shared} {mean : ExcName → Option Value} {mg mb : Str → Option Value} {E : Value → Shared → Prop} {i p kd th : Int} {ti tp tkd tth : Tok}
  {I r b x dx d x2 dx2 d2 mr : Addr} {ta ta2 : Tok} {na na2 c c2 mc : Nat} {oI o o2 om ot ob : Obj} {us bs svs mus : List Value} {ks ks2 sns ms : List Int} {vt vm : Option Value} {u : Str → Option Value}
variable (B : Below callerA base [] base) (X : (hd.heap_39 w.params).In base) (T : Top hd.view_39 (looseW hd.view_39 [Str.ofString "OrderedSet"]) mean mg mb base)
  (cI : oI.cls = .type "range_iterator") (dI : ∃ q, oI.data = .fields q) (cb : ob.data = .cell (some (.ref b))) (ho : o.IsDictOf (IK w) (kv ks)) (ho2 : o2.IsDictOf (IK w) (kv ks2)) (lo : (d == sysModules) = false) (lo2 : (d2 == sysModules) = false) (hdd : d ≠ d2)
  (hi : IntsAre us ks) (hi2 : IntsAre bs ks2) (hs : Small ks) (hs2 : Small ks2)
include B X T cI dI cb ho ho2 lo lo2 hdd hi hi2 hs hs2
theorem deed_5 (cm : om.data = .cell (some (.ref mr))) (ct : ot.data = .cell (some (.int th tth))) (hth : 0 ≤ th) (hth6 : th < 6) (hmi : IntsAre mus ms) (hml : ms.length ≤ 4) (hms : Small ms)
    (F : Fr base L s.heap (fun z => if z = Str.ofString "kind" then some (.int kd tkd) else if z = Str.ofString "pick" then some (.int p tp) else if z = Str.ofString "script" then some (.ref sl) else if z = Str.ofString "one" then some (.ref x) else if z = Str.ofString "other" then some (.ref x2) else if z = Str.ofString "row" then some (.ref r) else u z)) (N : News base L s.heap ((mr, listOf mus.toArray mc) :: (I, oI) :: all11 w L r b x dx d x2 dx2 d2 ta ta2 na na2 c c2 o o2 om ot ob us bs)) (hkd : kd = 5) :
    wpAny (model PySem.Challenge.rw_bq0028_01.row.prog w) (callerA.deeper (envOfC (Str.ofString "law") lawScope L fa cdv)) (exec (lb 3) (envOfC (Str.ofString "law") lawScope L fa cdv)) (fun f s₂ => f = .next ∧ TurnL w base L (.ref sl) I oI s .next s₂) E s := by
  obtain ⟨p1, p2, p3, p4, p5, p6, p7, p8, p9, p10, p11, p12, p13, p14, p15, p16, p17, p18, p19, p20, p21, p22, p23, p24, p25, p26, p27, p28, p29, p30, p31, p32, p33, p34, p35, p36, p37, p38, p39, p40, p41, p42, p43⟩ := apart (fun p hp => N p (.tail _ hp)) cI dI cm ct cb ho ho2 hdd
  have q1 : mr ≠ L + 1 := ne_of N (.head _) (b := L + 1) (ob := ob) (by simp [all11]) (ne_data (by rw [cb]; intro z; cases z))
  have q2 : mr ≠ L + 1 + 1 := ne_of N (.head _) (b := L + 1 + 1) (ob := ot) (by simp [all11]) (ne_data (by rw [ct]; intro z; cases z))
  have q3 : mr ≠ L + 1 + 1 + 1 := ne_of N (.head _) (b := L + 1 + 1 + 1) (ob := om) (by simp [all11]) (ne_data (by rw [cm]; intro z; cases z))
  have q4 : mr ≠ d := ne_of N (.head _) (b := d) (ob := o) (by simp [all11]) (ne_cls (by rw [dict_cls ho]; show Value.type "list" ≠ Value.type "dict"; decide))
  have q5 : mr ≠ d2 := ne_of N (.head _) (b := d2) (ob := o2) (by simp [all11]) (ne_cls (by rw [dict_cls ho2]; show Value.type "list" ≠ Value.type "dict"; decide))
  have e1 := Ne.symm p6; have e2 := Ne.symm p15; have e3 := Ne.symm p24; have e4 := Ne.symm p9; have e5 := Ne.symm p18; have e6 := Ne.symm p27
  have hz := small_nodup hs (dict_nodup ho)
  have hz2 := small_nodup hs2 (dict_nodup ho2)
  subst hkd
  unfold all11 at N
  revert X; k_fill; intro X
  dsimp only [lb, nth, loopBody, lawStmts, lawScope, lastOf, PySem.Challenge.pw_bq0028_01]
  have hdf := drops_filter ms ks
  k_steps
  all_goals (first | exact default | skip)
  rename Obj.IsDictOf _ _ (kv (List.foldl drop1 ks ms)) => hx
  rw [hdf] at hx
  rename CarriedAll _ _ => hC
  have iY := IntsAre.ofCarried hC
  k_made
  exact TurnL.mk2 (ks := ks.filter fun a => !ms.any fun x => x == a) (ks2 := ks2) (dx := dx) (dx2 := dx2) (ta := ta) (ta2 := ta2) (na := na) (na2 := na2) (by k_asm) (by rfl) (by rfl) (by rfl) (by rfl) cm ct cb (by k_asm) ho2 lo lo2 hdd iY hi2 (small_filter hs) hs2 (by k_asm) (by k_mem) (by k_mem) (by k_mem) (by k_mem) (by k_mem) (by k_mem) (by k_mem) (by k_mem) (by k_mem) (by k_mem) (by k_mem) (by k_mem)
end

-- part Deed6
/-! a deed of kind 6 -/
section
variable {w : World} {L fa sl : Addr} {cdv : Value} {base : Heap} {s : Shared} {mean : ExcName → Option Value} {mg mb : Str → Option Value} {E : Value → Shared → Prop} {i p kd th : Int} {ti tp tkd tth : Tok}
  {I r b x dx d x2 dx2 d2 mr : Addr} {ta ta2 : Tok} {na na2 c c2 mc : Nat} {oI o o2 om ot ob : Obj} {us bs svs mus : List Value} {ks ks2 sns ms : List Int} {vt vm : Option Value} {u : Str → Option Value}
variable (B : Below callerA base [] base) (X : (hd.heap_39 w.params).In base) (T : Top hd.view_39 (looseW hd.view_39 [Str.ofString "OrderedSet"]) mean mg mb base)
  (cI : oI.cls = .type "range_iterator") (dI : ∃ q, oI.data = .fields q) (cb : ob.data = .cell (some (.ref b))) (ho : o.IsDictOf (IK w) (kv ks)) (ho2 : o2.IsDictOf (IK w) (kv ks2)) (lo : (d == sysModules) = false) (lo2 : (d2 == sysModules) = false) (hdd : d ≠ d2)
  (hi : IntsAre us ks) (hi2 : IntsAre bs ks2) (hs : Small ks) (hs2 : Small ks2)
include B X T cI dI cb ho ho2 lo lo2 hdd hi hi2 hs hs2
theorem deed_6 (cm : om.data = .cell (some (.ref mr))) (ct : ot.data = .cell (some (.int th tth))) (hth : 0 ≤ th) (hth6 : th < 6) (hmi : IntsAre mus ms) (hml : ms.length ≤ 4) (hms : Small ms)
    (F : Fr base L s.heap (fun z => if z = Str.ofString "kind" then some (.int kd tkd) else if z = Str.ofString "pick" then some (.int p tp) else if z = Str.ofString "script" then some (.ref sl) else if z = Str.ofString "one" then some (.ref x) else if z = Str.ofString "other" then some (.ref x2) else if z = Str.ofString "row" then some (.ref r) else u z)) (N : News base L s.heap ((mr, listOf mus.toArray mc) :: (I, oI) :: all11 w L r b x dx d x2 dx2 d2 ta ta2 na na2 c c2 o o2 om ot ob us bs)) (hkd : kd = 6) :
    wpAny (model PySem.Challenge.rw_bq0028_01.row.prog w) (callerA.deeper (envOfC (Str.ofString "law") lawScope L fa cdv)) (exec (lb 3) (envOfC (Str.ofString "law") lawScope L fa cdv)) (fun f s₂ => f = .next ∧ TurnL w base L (.ref sl) I oI s .next s₂) E s := by
  obtain ⟨p1, p2, p3, p4, p5, p6, p7, p8, p9, p10, p11, p12, p13, p14, p15, p16, p17, p18, p19, p20, p21, p22, p23, p24, p25, p26, p27, p28, p29, p30, p31, p32, p33, p34, p35, p36, p37, p38, p39, p40, p41, p42, p43⟩ := apart (fun p hp => N p (.tail _ hp)) cI dI cm ct cb ho ho2 hdd
  have q1 : mr ≠ L + 1 := ne_of N (.head _) (b := L + 1) (ob := ob) (by simp [all11]) (ne_data (by rw [cb]; intro z; cases z))
  have q2 : mr ≠ L + 1 + 1 := ne_of N (.head _) (b := L + 1 + 1) (ob := ot) (by simp [all11]) (ne_data (by rw [ct]; intro z; cases z))
  have q3 : mr ≠ L + 1 + 1 + 1 := ne_of N (.head _) (b := L + 1 + 1 + 1) (ob := om) (by simp [all11]) (ne_data (by rw [cm]; intro z; cases z))
  have q4 : mr ≠ d := ne_of N (.head _) (b := d) (ob := o) (by simp [all11]) (ne_cls (by rw [dict_cls ho]; show Value.type "list" ≠ Value.type "dict"; decide))
  have q5 : mr ≠ d2 := ne_of N (.head _) (b := d2) (ob := o2) (by simp [all11]) (ne_cls (by rw [dict_cls ho2]; show Value.type "list" ≠ Value.type "dict"; decide))
  have e1 := Ne.symm p6; have e2 := Ne.symm p15; have e3 := Ne.symm p24; have e4 := Ne.symm p9; have e5 := Ne.symm p18; have e6 := Ne.symm p27
  have hz := small_nodup hs (dict_nodup ho)
  have hz2 := small_nodup hs2 (dict_nodup ho2)
  subst hkd
  unfold all11 at N
  revert X; k_fill; intro X
  dsimp only [lb, nth, loopBody, lawStmts, lawScope, lastOf, PySem.Challenge.pw_bq0028_01]
  rcases List.eq_nil_or_concat ks with hk0 | ⟨ks', k, hk0⟩
  · subst hk0
    k_steps
    rename IntsAre _ (List.take _ _) => hT
    exact TurnL.mk2 (ks := []) (ks2 := ks2) (dx := dx) (dx2 := dx2) (ta := ta) (ta2 := ta2) (na := na) (na2 := na2) (by k_asm) (by rfl) (by rfl) (by rfl) (by rfl) cm ct cb ho ho2 lo lo2 hdd hT hi2 small_nil hs2 (by k_asm) (by k_mem) (by k_mem) (by k_mem) (by k_mem) (by k_mem) (by k_mem) (by k_mem) (by k_mem) (by k_mem) (by k_mem) (by k_mem) (by k_mem)
  · rw [List.concat_eq_append] at hk0
    subst hk0
    have hl6 : (-1 + (((ks' ++ [k]).length : Nat) : Int)).toNat = ks'.length := by simp only [List.length_append, List.length_cons, List.length_nil]; omega
    have hz6 : ks'.length ≤ 5 := by simp only [List.length_append, List.length_cons, List.length_nil] at hz; omega
    have hT6 : List.take ((ks' ++ [k]).length - 1) (ks' ++ [k]) = ks' := by simp
    k_steps
    · rename decide _ = true => q
      exact absurd q (by simp)
    · rename _ ≠ _ => q
      exact absurd rfl q
    · rename _ ≠ _ => q
      exact absurd rfl q
    · rename IntsAre _ (List.take _ _) => hT
      rw [hT6] at hT
      exact TurnL.mk2 (ks := ks') (ks2 := ks2) (dx := dx) (dx2 := dx2) (ta := ta) (ta2 := ta2) (na := na) (na2 := na2) (by k_asm) (by rfl) (by rfl) (by rfl) (by rfl) cm ct cb (by k_asm) ho2 lo lo2 hdd hT hi2 (small_sub hs fun k hk => List.mem_append_left _ hk) hs2 (by k_asm) (by k_mem) (by k_mem) (by k_mem) (by k_mem) (by k_mem) (by k_mem) (by k_mem) (by k_mem) (by k_mem) (by k_mem) (by k_mem) (by k_mem)
end

-- part Deed7
section
/-! a deed of kind 7 -/
section
variable {w : World} {dp un : Nat} {gd : Option (List Code)} {cn : Str} {cs : Scope} {a : Addr} {ccd : Value} {cl : List (Str × Addr)} {outer : List Env} {A₀ : Around} {base h₀ : Heap} {L : Addr} {m : Str → Option Value} {s : Shared}
    {mean : ExcName → Option Value} {mg mb : Str → Option Value} {l r₀ : Addr} {lo : Obj} {rs ts : List Int} {vs us₀ : List Value} {nl c₀ : Nat} {news : List (Addr × Obj)} {R : Result → Shared → Prop}
theorem put_K3 (B : Below A₀ base outer h₀) (F : Fr h₀ L s.heap m) (X : (hd.heap_39 w.params).In h₀) (T : Top hd.view_39 (looseW hd.view_39 [Str.ofString "OrderedSet"]) mean mg mb h₀) (hk : cs.kind = .function)
    (hdp : dp + 2 < recursionLimit) (hun : un + 30 < cLine) (N : News h₀ L s.heap news) (mr : (r₀, listOf us₀.toArray c₀) ∈ news) (hi0 : IntsAre us₀ rs) (ml : (l, lo) ∈ news) (hc : lo.cls = .type "list") (hdat : lo.data = .seq vs.toArray nl) (hi : IntsAre vs ts) (hz : rs.length + ts.length ≤ 1000)
    (h : ∀ h' tk r us c, Fr h₀ L h' m → News h₀ L h' ((r, listOf (List.toArray us) c) :: news) → IntsAre us (ts.foldl put1 rs) → (@Eq Nat r r₀ ∨ AllLt r news) → R (.ok (.ret (.ref r))) { s with heap := h', toks := tk }) :
    codeAny (model PySem.Challenge.rw_bq0028_01.row.prog w) (ktrTop dp un gd cn cs L a ccd cl outer) (.call (.ref 226) ⟨[.ref r₀, .ref l], []⟩) R s :=
  put_K B F X T hk hdp hun N mr hi0 ml hc hdat hi hz fun h' tk r us c F' N' hI hor => h h' tk r us c F' N' hI (hor.imp id allLt_of)
def KeepList (_ : List (Addr × Obj)) : Prop := True
theorem add_made {x' dx' d' : Addr} {ta' : Tok} {na' : Nat} {o' : Obj} {ks' : List Int} {k : Int} {t : Tok} {keep : List (Addr × Obj)} (B : Below A₀ base outer h₀) (F : Fr h₀ L s.heap m) (X : (hd.heap_39 w.params).In h₀) (T : Top hd.view_39 (looseW hd.view_39 [Str.ofString "OrderedSet"]) mean mg mb h₀) (hk : cs.kind = .function)
    (hdp : dp + 2 < recursionLimit) (hun : un + 20 < cLine) (N : News h₀ L s.heap news) (mx : (x', instObj 203 dx') ∈ news) (mdx : (dx', dictOf (attrs w ta' d') na') ∈ news) (md : (d', o') ∈ news) (ho : o'.IsDictOf (IK w) (kv ks')) (lo : (d' == sysModules) = false) (hz : ks'.length ≤ 1000)
    (hKeep : KeepList keep) (sub : ∀ p ∈ keep, p ∈ news) (off : ∀ p ∈ keep, @LT.lt Nat _ p.1 d')
    (h : ∀ h' tk, Fr h₀ L h' m → News h₀ L h' keep → R (.ok (.ret .none)) { s with heap := h', toks := tk }) :
    codeAny (model PySem.Challenge.rw_bq0028_01.row.prog w) (ktrTop dp un gd cn cs L a ccd cl outer) (.call (.ref 92) ⟨[.ref x', .int k t], []⟩) R s := by
  have hx := inst_ne N mx md ho
  have hdx := attr_ne N mdx md ho
  have N2 := canM N mx mdx md
  have N3 : News h₀ L s.heap (can w x' dx' d' ta' na' o' keep) := fun p hp => N2 p (by
    rcases List.mem_cons.mp hp with rfl | hp
    · exact .head _
    rcases List.mem_cons.mp hp with rfl | hp
    · exact .tail _ (.head _)
    rcases List.mem_cons.mp hp with rfl | hp
    · exact .tail _ (.tail _ (.head _))
    exact .tail _ (.tail _ (.tail _ (sub p hp))))
  exact add_core B F X T hk hdp hun N3 hx hdx (fun p hp b hb => by rw [List.mem_singleton.mp hb]; exact Nat.ne_of_lt (off p hp)) ho hz fun h' tk o'' F' N' _ => h h' tk F' fun p hp => N' p (drop3 p hp)
theorem sums_of {us : List Value} {ks ks2 : List Int} (h : CarriedAll us ((ks.filter fun a => !ks2.any fun x => x == a).map PyData.int)) : IntsAre us (ks2.foldl drop1 ks) := by
  rw [drops_filter]; exact IntsAre.ofCarried h
end
local macro_rules | `(tactic| walk_at "CompPack") => `(tactic| ((refine CompPack.intro ?_); (rename News _ _ _ _ => N9'); (try unfold can at N9'); k_dflt (refine ⟨_, _, _, _, rfl, News.isList (by k_asm) (by k_mem), IntsAre.areOf (by k_asm), (by simp only [sizeLine_eq]; omega), (by k_asm), (by k_asm), ?_, ?_, ?_⟩) <;> (first
  | (intros; (rename Heap.Ns _ _ _ => hn'); (rename (∀ b o, Heap.get? _ b = some o → Heap.get? _ b = some o) => hk''); (rename (Array.size _ ≤ _) => hC'); (have Fc' := frInComp hn' hk'' hC'); (rename ItemKind.is _ _ _ => i'); (obtain ⟨_, e'⟩ := ItemKind.int_is i'); subst e'; (try (((with_reducible refine wpAny_leafK ?_); (try (first | ((with_reducible refine markB ?_); intro _) | ((with_reducible refine markD ?_); intro _)))))))
  | (intros; (rename CarriedAll _ _ => Y'))
  | skip)))
local macro_rules | `(tactic| walk_at "call ref") => `(tactic| (k_here; (with_reducible show wpAny _ _ (call (Value.ref 231) _) _ _ _); k_dflt (show wpAny _ _ (call (Value.ref 231) [Value.ref _, Value.ref _]) _ _ _); refine wpAny_call ?_; k_dflt (refine' same_K ?B ?F ?X ?T ?k ?hd ?hu ?N ?mx ?mdx ?md ?ho ?lo ?mr ?i ?z ?_; (case B => k_asm); (case F => k_asm); (case X => k_asm); (case T => k_asm); (case k => first | exact rfl | assumption); (case N => k_asm); (case mx => k_mem); (case mdx => k_mem); (case md => k_mem); (case ho => k_asm); (case lo => k_asm); (case mr => k_mem); (case i => first | l_ints | exact sums_of (by assumption)); (case hd => first | ktr_room | exact Nat.le_of_ble_eq_true rfl | omega); (case hu => first | ktr_units | exact Nat.le_of_ble_eq_true rfl | omega); (case z => first | (refine Nat.le_trans (foldl_put1_length _ _) ?_; omega) | (refine Nat.le_trans (foldl_drop1_length _ _) ?_; omega) | omega)); intro h' tk' F' N'; (try dsimp only); walk_say "C231s"))
local macro_rules | `(tactic| walk_at "call ref") => `(tactic| (k_here; (with_reducible show wpAny _ _ (call (Value.ref 226) _) _ _ _); k_dflt (show wpAny _ _ (call (Value.ref 226) [Value.ref _, Value.ref _]) _ _ _); refine wpAny_call ?_; k_dflt (refine' put_K3 ?B ?F ?X ?T ?k ?hd ?hu ?N ?mr ?i0 ?ml ?hc ?hdat ?i1 ?z ?_; (case B => k_asm); (case F => k_asm); (case X => k_asm); (case T => k_asm); (case k => first | exact rfl | assumption); (case N => k_asm); (case mr => k_mem); (case ml => k_mem); (case hc => rfl); (case hdat => rfl); (case i0 => l_ints); (case i1 => l_ints); (case hd => first | ktr_room | exact Nat.le_of_ble_eq_true rfl | omega); (case hu => first | ktr_units | exact Nat.le_of_ble_eq_true rfl | omega); (case z => first | omega | (simp only [List.length_cons, List.length_nil]; omega))); intro h' tk' r' us' c' F' N' hI' l1; (try simp only [AllLt, and_true] at l1); (try dsimp only); walk_say "C226d"))
local macro_rules | `(tactic| walk_at "call ref") => `(tactic| (k_here; (with_reducible show wpAny _ _ (call (Value.ref 92) _) _ _ _); k_dflt (show wpAny _ _ (call (Value.ref 92) [Value.ref _, Value.int _ _]) _ _ _); refine wpAny_call ?_; k_dflt (refine' add_made ?B ?F ?X ?T ?k ?hd ?hu ?N ?mx ?mdx ?md ?ho ?lo ?z ?K ?sub ?off ?_; (case B => k_asm); (case F => k_asm); (case X => k_asm); (case T => k_asm); (case k => first | exact rfl | assumption); (case N => k_asm); (case mx => k_mem); (case mdx => k_mem); (case md => k_mem); (case ho => k_asm); (case lo => k_asm); (case K => assumption); (case z => first | (refine Nat.le_trans (foldl_put1_length _ _) ?_; omega) | (refine Nat.le_trans (foldl_drop1_length _ _) ?_; omega) | omega); (case sub => ((repeat (refine List.forall_mem_cons.mpr ⟨by k_mem, ?_⟩)); exact List.forall_mem_nil _)); (case off => ((repeat (refine List.forall_mem_cons.mpr ⟨ltN (by (try dsimp only); omega), ?_⟩)); exact List.forall_mem_nil _)); (case hd => first | ktr_room | exact Nat.le_of_ble_eq_true rfl | omega); (case hu => first | ktr_units | exact Nat.le_of_ble_eq_true rfl | omega)); intro h' tk' F' N'; (try dsimp only); walk_say "C92s"))
local macro_rules | `(tactic| walk_at "newTuple") => `(tactic| (k_here; (first | gn_on | (k_dflt (refine' kup_newTuple ?F ?N ?_ ?z; (case F => k_asm); (case N => k_asm); (case z => kmk_size)); intro D' h' F' N' l1; (try k_lt l1); (try k_sweep)))))
section
variable {w : World} {L fa sl : Addr} {cdv : Value} {base : Heap} {s : Shared} {mean : ExcName → Option Value} {mg mb : Str → Option Value} {E : Value → Shared → Prop} {i p kd th : Int} {ti tp tkd tth : Tok}
  {I r b x dx d x2 dx2 d2 mr : Addr} {ta ta2 : Tok} {na na2 c c2 mc : Nat} {oI o o2 om ot ob : Obj} {us bs svs mus : List Value} {ks ks2 sns ms : List Int} {vt vm : Option Value} {u : Str → Option Value}
variable (B : Below callerA base [] base) (X : (hd.heap_39 w.params).In base) (T : Top hd.view_39 (looseW hd.view_39 [Str.ofString "OrderedSet"]) mean mg mb base)
  (cI : oI.cls = .type "range_iterator") (dI : ∃ q, oI.data = .fields q) (cb : ob.data = .cell (some (.ref b))) (ho : o.IsDictOf (IK w) (kv ks)) (ho2 : o2.IsDictOf (IK w) (kv ks2)) (lo : (d == sysModules) = false) (lo2 : (d2 == sysModules) = false) (hdd : d ≠ d2)
  (hi : IntsAre us ks) (hi2 : IntsAre bs ks2) (hs : Small ks) (hs2 : Small ks2)
include B X T cI dI cb ho ho2 lo lo2 hdd hi hi2 hs hs2
theorem deed_7 (cm : om.data = .cell (some (.ref mr))) (ct : ot.data = .cell (some (.int th tth))) (hth : 0 ≤ th) (hth6 : th < 6) (hmi : IntsAre mus ms) (hml : ms.length ≤ 4) (hms : Small ms)
    (F : Fr base L s.heap (fun z => if z = Str.ofString "kind" then some (.int kd tkd) else if z = Str.ofString "pick" then some (.int p tp) else if z = Str.ofString "script" then some (.ref sl) else if z = Str.ofString "one" then some (.ref x) else if z = Str.ofString "other" then some (.ref x2) else if z = Str.ofString "row" then some (.ref r) else u z)) (N : News base L s.heap ((mr, listOf mus.toArray mc) :: (I, oI) :: all11 w L r b x dx d x2 dx2 d2 ta ta2 na na2 c c2 o o2 om ot ob us bs)) (hkd : kd = 7) :
    wpAny (model PySem.Challenge.rw_bq0028_01.row.prog w) (callerA.deeper (envOfC (Str.ofString "law") lawScope L fa cdv)) (exec (lb 3) (envOfC (Str.ofString "law") lawScope L fa cdv)) (fun f s₂ => f = .next ∧ TurnL w base L (.ref sl) I oI s .next s₂) E s := by
  obtain ⟨p1, p2, p3, p4, p5, p6, p7, p8, p9, p10, p11, p12, p13, p14, p15, p16, p17, p18, p19, p20, p21, p22, p23, p24, p25, p26, p27, p28, p29, p30, p31, p32, p33, p34, p35, p36, p37, p38, p39, p40, p41, p42, p43⟩ := apart (fun p hp => N p (.tail _ hp)) cI dI cm ct cb ho ho2 hdd
  have q1 : mr ≠ L + 1 := ne_of N (.head _) (b := L + 1) (ob := ob) (by simp [all11]) (ne_data (by rw [cb]; intro z; cases z))
  have q2 : mr ≠ L + 1 + 1 := ne_of N (.head _) (b := L + 1 + 1) (ob := ot) (by simp [all11]) (ne_data (by rw [ct]; intro z; cases z))
  have q3 : mr ≠ L + 1 + 1 + 1 := ne_of N (.head _) (b := L + 1 + 1 + 1) (ob := om) (by simp [all11]) (ne_data (by rw [cm]; intro z; cases z))
  have q4 : mr ≠ d := ne_of N (.head _) (b := d) (ob := o) (by simp [all11]) (ne_cls (by rw [dict_cls ho]; show Value.type "list" ≠ Value.type "dict"; decide))
  have q5 : mr ≠ d2 := ne_of N (.head _) (b := d2) (ob := o2) (by simp [all11]) (ne_cls (by rw [dict_cls ho2]; show Value.type "list" ≠ Value.type "dict"; decide))
  have e1 := Ne.symm p6; have e2 := Ne.symm p15; have e3 := Ne.symm p24; have e4 := Ne.symm p9; have e5 := Ne.symm p18; have e6 := Ne.symm p27
  have hz := small_nodup hs (dict_nodup ho)
  have hz2 := small_nodup hs2 (dict_nodup ho2)
  subst hkd
  unfold all11 at N
  revert X; k_fill; intro X
  dsimp only [lb, nth, loopBody, lawStmts, lawScope, lastOf, PySem.Challenge.pw_bq0028_01]
  have hK7 : KeepList ((I, oI) :: all11 w L r b x dx d x2 dx2 d2 ta ta2 na na2 c c2 o o2 om ot ob us bs) := trivial
  unfold all11 at hK7
  k_steps
  all_goals (first | exact default | skip)
  all_goals exact TurnL.mk2 (ks := ks) (ks2 := ks2) (dx := dx) (dx2 := dx2) (ta := ta) (ta2 := ta2) (na := na) (na2 := na2) (by k_asm) (by rfl) (by rfl) (by rfl) (by rfl) cm ct cb ho ho2 lo lo2 hdd hi hi2 hs hs2 (by k_asm) (by k_mem) (by k_mem) (by k_mem) (by k_mem) (by k_mem) (by k_mem) (by k_mem) (by k_mem) (by k_mem) (by k_mem) (by k_mem) (by k_mem)
end

end
-- part Deed8
/-! a deed of kind 8 -/
section
variable {w : World} {L fa sl : Addr} {cdv : Value} {base : Heap} {s : Shared} {mean : ExcName → Option Value} {mg mb : Str → Option Value} {E : Value → Shared → Prop} {i p kd th : Int} {ti tp tkd tth : Tok}
  {I r b x dx d x2 dx2 d2 mr : Addr} {ta ta2 : Tok} {na na2 c c2 mc : Nat} {oI o o2 om ot ob : Obj} {us bs svs mus : List Value} {ks ks2 sns ms : List Int} {vt vm : Option Value} {u : Str → Option Value}
variable (B : Below callerA base [] base) (X : (hd.heap_39 w.params).In base) (T : Top hd.view_39 (looseW hd.view_39 [Str.ofString "OrderedSet"]) mean mg mb base)
  (cI : oI.cls = .type "range_iterator") (dI : ∃ q, oI.data = .fields q) (cb : ob.data = .cell (some (.ref b))) (ho : o.IsDictOf (IK w) (kv ks)) (ho2 : o2.IsDictOf (IK w) (kv ks2)) (lo : (d == sysModules) = false) (lo2 : (d2 == sysModules) = false) (hdd : d ≠ d2)
  (hi : IntsAre us ks) (hi2 : IntsAre bs ks2) (hs : Small ks) (hs2 : Small ks2)
include B X T cI dI cb ho ho2 lo lo2 hdd hi hi2 hs hs2
theorem deed_8 (cm : om.data = .cell (some (.ref mr))) (ct : ot.data = .cell (some (.int th tth))) (hth : 0 ≤ th) (hth6 : th < 6) (hmi : IntsAre mus ms) (hml : ms.length ≤ 4) (hms : Small ms)
    (F : Fr base L s.heap (fun z => if z = Str.ofString "kind" then some (.int kd tkd) else if z = Str.ofString "pick" then some (.int p tp) else if z = Str.ofString "script" then some (.ref sl) else if z = Str.ofString "one" then some (.ref x) else if z = Str.ofString "other" then some (.ref x2) else if z = Str.ofString "row" then some (.ref r) else u z)) (N : News base L s.heap ((mr, listOf mus.toArray mc) :: (I, oI) :: all11 w L r b x dx d x2 dx2 d2 ta ta2 na na2 c c2 o o2 om ot ob us bs)) (hkd : kd = 8) :
    wpAny (model PySem.Challenge.rw_bq0028_01.row.prog w) (callerA.deeper (envOfC (Str.ofString "law") lawScope L fa cdv)) (exec (lb 3) (envOfC (Str.ofString "law") lawScope L fa cdv)) (fun f s₂ => f = .next ∧ TurnL w base L (.ref sl) I oI s .next s₂) E s := by
  obtain ⟨p1, p2, p3, p4, p5, p6, p7, p8, p9, p10, p11, p12, p13, p14, p15, p16, p17, p18, p19, p20, p21, p22, p23, p24, p25, p26, p27, p28, p29, p30, p31, p32, p33, p34, p35, p36, p37, p38, p39, p40, p41, p42, p43⟩ := apart (fun p hp => N p (.tail _ hp)) cI dI cm ct cb ho ho2 hdd
  have q1 : mr ≠ L + 1 := ne_of N (.head _) (b := L + 1) (ob := ob) (by simp [all11]) (ne_data (by rw [cb]; intro z; cases z))
  have q2 : mr ≠ L + 1 + 1 := ne_of N (.head _) (b := L + 1 + 1) (ob := ot) (by simp [all11]) (ne_data (by rw [ct]; intro z; cases z))
  have q3 : mr ≠ L + 1 + 1 + 1 := ne_of N (.head _) (b := L + 1 + 1 + 1) (ob := om) (by simp [all11]) (ne_data (by rw [cm]; intro z; cases z))
  have q4 : mr ≠ d := ne_of N (.head _) (b := d) (ob := o) (by simp [all11]) (ne_cls (by rw [dict_cls ho]; show Value.type "list" ≠ Value.type "dict"; decide))
  have q5 : mr ≠ d2 := ne_of N (.head _) (b := d2) (ob := o2) (by simp [all11]) (ne_cls (by rw [dict_cls ho2]; show Value.type "list" ≠ Value.type "dict"; decide))
  have e1 := Ne.symm p6; have e2 := Ne.symm p15; have e3 := Ne.symm p24; have e4 := Ne.symm p9; have e5 := Ne.symm p18; have e6 := Ne.symm p27
  have hz := small_nodup hs (dict_nodup ho)
  have hz2 := small_nodup hs2 (dict_nodup ho2)
  subst hkd
  unfold all11 at N
  revert X; k_fill; intro X
  dsimp only [lb, nth, loopBody, lawStmts, lawScope, lastOf, PySem.Challenge.pw_bq0028_01]
  k_steps
  all_goals exact TurnL.mk2 (ks := ks2.foldl put1 ks) (ks2 := ks2) (dx := dx) (dx2 := dx2) (ta := ta) (ta2 := ta2) (na := na) (na2 := na2) (by k_asm) (by rfl) (by rfl) (by rfl) (by rfl) cm ct cb (by k_asm) ho2 lo lo2 hdd (by first | k_asm | (rename List.foldl put1 _ _ = _ => e9; first | exact e9.symm ▸ hi | (rw [e9]; exact hi))) hi2 (small_putl hs hs2) hs2 (by k_asm) (by k_mem) (by k_mem) (by k_mem) (by k_mem) (by k_mem) (by k_mem) (by k_mem) (by k_mem) (by k_mem) (by k_mem) (by k_mem) (by k_mem)
end

-- part Deed9
/-! a deed of kind 9 -/
section
variable {w : World} {L fa sl : Addr} {cdv : Value} {base : Heap} {s : Shared} {mean : ExcName → Option Value} {mg mb : Str → Option Value} {E : Value → Shared → Prop} {i p kd th : Int} {ti tp tkd tth : Tok}
  {I r b x dx d x2 dx2 d2 mr : Addr} {ta ta2 : Tok} {na na2 c c2 mc : Nat} {oI o o2 om ot ob : Obj} {us bs svs mus : List Value} {ks ks2 sns ms : List Int} {vt vm : Option Value} {u : Str → Option Value}
variable (B : Below callerA base [] base) (X : (hd.heap_39 w.params).In base) (T : Top hd.view_39 (looseW hd.view_39 [Str.ofString "OrderedSet"]) mean mg mb base)
  (cI : oI.cls = .type "range_iterator") (dI : ∃ q, oI.data = .fields q) (cb : ob.data = .cell (some (.ref b))) (ho : o.IsDictOf (IK w) (kv ks)) (ho2 : o2.IsDictOf (IK w) (kv ks2)) (lo : (d == sysModules) = false) (lo2 : (d2 == sysModules) = false) (hdd : d ≠ d2)
  (hi : IntsAre us ks) (hi2 : IntsAre bs ks2) (hs : Small ks) (hs2 : Small ks2)
include B X T cI dI cb ho ho2 lo lo2 hdd hi hi2 hs hs2
theorem deed_9 (cm : om.data = .cell (some (.ref mr))) (ct : ot.data = .cell (some (.int th tth))) (hth : 0 ≤ th) (hth6 : th < 6) (hmi : IntsAre mus ms) (hml : ms.length ≤ 4) (hms : Small ms)
    (F : Fr base L s.heap (fun z => if z = Str.ofString "kind" then some (.int kd tkd) else if z = Str.ofString "pick" then some (.int p tp) else if z = Str.ofString "script" then some (.ref sl) else if z = Str.ofString "one" then some (.ref x) else if z = Str.ofString "other" then some (.ref x2) else if z = Str.ofString "row" then some (.ref r) else u z)) (N : News base L s.heap ((mr, listOf mus.toArray mc) :: (I, oI) :: all11 w L r b x dx d x2 dx2 d2 ta ta2 na na2 c c2 o o2 om ot ob us bs)) (hkd : kd = 9) :
    wpAny (model PySem.Challenge.rw_bq0028_01.row.prog w) (callerA.deeper (envOfC (Str.ofString "law") lawScope L fa cdv)) (exec (lb 3) (envOfC (Str.ofString "law") lawScope L fa cdv)) (fun f s₂ => f = .next ∧ TurnL w base L (.ref sl) I oI s .next s₂) E s := by
  obtain ⟨p1, p2, p3, p4, p5, p6, p7, p8, p9, p10, p11, p12, p13, p14, p15, p16, p17, p18, p19, p20, p21, p22, p23, p24, p25, p26, p27, p28, p29, p30, p31, p32, p33, p34, p35, p36, p37, p38, p39, p40, p41, p42, p43⟩ := apart (fun p hp => N p (.tail _ hp)) cI dI cm ct cb ho ho2 hdd
  have q1 : mr ≠ L + 1 := ne_of N (.head _) (b := L + 1) (ob := ob) (by simp [all11]) (ne_data (by rw [cb]; intro z; cases z))
  have q2 : mr ≠ L + 1 + 1 := ne_of N (.head _) (b := L + 1 + 1) (ob := ot) (by simp [all11]) (ne_data (by rw [ct]; intro z; cases z))
  have q3 : mr ≠ L + 1 + 1 + 1 := ne_of N (.head _) (b := L + 1 + 1 + 1) (ob := om) (by simp [all11]) (ne_data (by rw [cm]; intro z; cases z))
  have q4 : mr ≠ d := ne_of N (.head _) (b := d) (ob := o) (by simp [all11]) (ne_cls (by rw [dict_cls ho]; show Value.type "list" ≠ Value.type "dict"; decide))
  have q5 : mr ≠ d2 := ne_of N (.head _) (b := d2) (ob := o2) (by simp [all11]) (ne_cls (by rw [dict_cls ho2]; show Value.type "list" ≠ Value.type "dict"; decide))
  have e1 := Ne.symm p6; have e2 := Ne.symm p15; have e3 := Ne.symm p24; have e4 := Ne.symm p9; have e5 := Ne.symm p18; have e6 := Ne.symm p27
  have hz := small_nodup hs (dict_nodup ho)
  have hz2 := small_nodup hs2 (dict_nodup ho2)
  subst hkd
  unfold all11 at N
  revert X; k_fill; intro X
  dsimp only [lb, nth, loopBody, lawStmts, lawScope, lastOf, PySem.Challenge.pw_bq0028_01]
  have hdf := drops_filter ks2 ks
  k_steps
  all_goals (first | exact default | skip)
  rename Obj.IsDictOf _ _ (kv (List.foldl drop1 ks ks2)) => hx
  rw [hdf] at hx
  rename CarriedAll _ _ => hC
  have iY := IntsAre.ofCarried hC
  exact TurnL.mk2 (ks := ks.filter fun a => !ks2.any fun x => x == a) (ks2 := ks2) (dx := dx) (dx2 := dx2) (ta := ta) (ta2 := ta2) (na := na) (na2 := na2) (by k_asm) (by rfl) (by rfl) (by rfl) (by rfl) cm ct cb (by k_asm) ho2 lo lo2 hdd iY hi2 (small_filter hs) hs2 (by k_asm) (by k_mem) (by k_mem) (by k_mem) (by k_mem) (by k_mem) (by k_mem) (by k_mem) (by k_mem) (by k_mem) (by k_mem) (by k_mem) (by k_mem)
end

-- part Deed10
/-! a deed of kind 10 -/
section
variable {w : World} {L fa sl : Addr} {cdv : Value} {base : Heap} {s : Shared} {mean : ExcName → Option Value} {mg mb : Str → Option Value} {E : Value → Shared → Prop} {i p kd th : Int} {ti tp tkd tth : Tok}
  {I r b x dx d x2 dx2 d2 mr : Addr} {ta ta2 : Tok} {na na2 c c2 mc : Nat} {oI o o2 om ot ob : Obj} {us bs svs mus : List Value} {ks ks2 sns ms : List Int} {vt vm : Option Value} {u : Str → Option Value}
variable (B : Below callerA base [] base) (X : (hd.heap_39 w.params).In base) (T : Top hd.view_39 (looseW hd.view_39 [Str.ofString "OrderedSet"]) mean mg mb base)
  (cI : oI.cls = .type "range_iterator") (dI : ∃ q, oI.data = .fields q) (cb : ob.data = .cell (some (.ref b))) (ho : o.IsDictOf (IK w) (kv ks)) (ho2 : o2.IsDictOf (IK w) (kv ks2)) (lo : (d == sysModules) = false) (lo2 : (d2 == sysModules) = false) (hdd : d ≠ d2)
  (hi : IntsAre us ks) (hi2 : IntsAre bs ks2) (hs : Small ks) (hs2 : Small ks2)
include B X T cI dI cb ho ho2 lo lo2 hdd hi hi2 hs hs2
theorem deed_10 (cm : om.data = .cell (some (.ref mr))) (ct : ot.data = .cell (some (.int th tth))) (hth : 0 ≤ th) (hth6 : th < 6) (hmi : IntsAre mus ms) (hml : ms.length ≤ 4) (hms : Small ms)
    (F : Fr base L s.heap (fun z => if z = Str.ofString "kind" then some (.int kd tkd) else if z = Str.ofString "pick" then some (.int p tp) else if z = Str.ofString "script" then some (.ref sl) else if z = Str.ofString "one" then some (.ref x) else if z = Str.ofString "other" then some (.ref x2) else if z = Str.ofString "row" then some (.ref r) else u z)) (N : News base L s.heap ((mr, listOf mus.toArray mc) :: (I, oI) :: all11 w L r b x dx d x2 dx2 d2 ta ta2 na na2 c c2 o o2 om ot ob us bs)) (hkd : kd = 10) :
    wpAny (model PySem.Challenge.rw_bq0028_01.row.prog w) (callerA.deeper (envOfC (Str.ofString "law") lawScope L fa cdv)) (exec (lb 3) (envOfC (Str.ofString "law") lawScope L fa cdv)) (fun f s₂ => f = .next ∧ TurnL w base L (.ref sl) I oI s .next s₂) E s := by
  obtain ⟨p1, p2, p3, p4, p5, p6, p7, p8, p9, p10, p11, p12, p13, p14, p15, p16, p17, p18, p19, p20, p21, p22, p23, p24, p25, p26, p27, p28, p29, p30, p31, p32, p33, p34, p35, p36, p37, p38, p39, p40, p41, p42, p43⟩ := apart (fun p hp => N p (.tail _ hp)) cI dI cm ct cb ho ho2 hdd
  have q1 : mr ≠ L + 1 := ne_of N (.head _) (b := L + 1) (ob := ob) (by simp [all11]) (ne_data (by rw [cb]; intro z; cases z))
  have q2 : mr ≠ L + 1 + 1 := ne_of N (.head _) (b := L + 1 + 1) (ob := ot) (by simp [all11]) (ne_data (by rw [ct]; intro z; cases z))
  have q3 : mr ≠ L + 1 + 1 + 1 := ne_of N (.head _) (b := L + 1 + 1 + 1) (ob := om) (by simp [all11]) (ne_data (by rw [cm]; intro z; cases z))
  have q4 : mr ≠ d := ne_of N (.head _) (b := d) (ob := o) (by simp [all11]) (ne_cls (by rw [dict_cls ho]; show Value.type "list" ≠ Value.type "dict"; decide))
  have q5 : mr ≠ d2 := ne_of N (.head _) (b := d2) (ob := o2) (by simp [all11]) (ne_cls (by rw [dict_cls ho2]; show Value.type "list" ≠ Value.type "dict"; decide))
  have e1 := Ne.symm p6; have e2 := Ne.symm p15; have e3 := Ne.symm p24; have e4 := Ne.symm p9; have e5 := Ne.symm p18; have e6 := Ne.symm p27
  have hz := small_nodup hs (dict_nodup ho)
  have hz2 := small_nodup hs2 (dict_nodup ho2)
  subst hkd
  unfold all11 at N
  revert X; k_fill; intro X
  dsimp only [lb, nth, loopBody, lawStmts, lawScope, lastOf, PySem.Challenge.pw_bq0028_01]
  have h78 := put78 hs
  k_steps
  all_goals exact TurnL.mk2 (ks := ms.foldl put1 ks) (ks2 := ks2) (dx := dx) (dx2 := dx2) (ta := ta) (ta2 := ta2) (na := na) (na2 := na2) (by k_asm) (by rfl) (by rfl) (by rfl) (by rfl) cm ct cb (by k_asm) ho2 lo lo2 hdd (by first | k_asm | (rename List.foldl put1 _ _ = _ => e9; first | exact e9.symm ▸ hi | (rw [e9]; exact hi))) hi2 (small_putl hs hms) hs2 (by k_asm) (by k_mem) (by k_mem) (by k_mem) (by k_mem) (by k_mem) (by k_mem) (by k_mem) (by k_mem) (by k_mem) (by k_mem) (by k_mem) (by k_mem)
end

-- part Deed11
/-! a deed of kind 11 -/
section
variable {w : World} {L fa sl : Addr} {cdv : Value} {base : Heap} {s : Shared} {mean : ExcName → Option Value} {mg mb : Str → Option Value} {E : Value → Shared → Prop} {i p kd th : Int} {ti tp tkd tth : Tok}
  {I r b x dx d x2 dx2 d2 mr : Addr} {ta ta2 : Tok} {na na2 c c2 mc : Nat} {oI o o2 om ot ob : Obj} {us bs svs mus : List Value} {ks ks2 sns ms : List Int} {vt vm : Option Value} {u : Str → Option Value}
variable (B : Below callerA base [] base) (X : (hd.heap_39 w.params).In base) (T : Top hd.view_39 (looseW hd.view_39 [Str.ofString "OrderedSet"]) mean mg mb base)
  (cI : oI.cls = .type "range_iterator") (dI : ∃ q, oI.data = .fields q) (cb : ob.data = .cell (some (.ref b))) (ho : o.IsDictOf (IK w) (kv ks)) (ho2 : o2.IsDictOf (IK w) (kv ks2)) (lo : (d == sysModules) = false) (lo2 : (d2 == sysModules) = false) (hdd : d ≠ d2)
  (hi : IntsAre us ks) (hi2 : IntsAre bs ks2) (hs : Small ks) (hs2 : Small ks2)
include B X T cI dI cb ho ho2 lo lo2 hdd hi hi2 hs hs2
theorem deed_11 (cm : om.data = .cell (some (.ref mr))) (ct : ot.data = .cell (some (.int th tth))) (hth : 0 ≤ th) (hth6 : th < 6) (hmi : IntsAre mus ms) (hml : ms.length ≤ 4) (hms : Small ms)
    (F : Fr base L s.heap (fun z => if z = Str.ofString "kind" then some (.int kd tkd) else if z = Str.ofString "pick" then some (.int p tp) else if z = Str.ofString "script" then some (.ref sl) else if z = Str.ofString "one" then some (.ref x) else if z = Str.ofString "other" then some (.ref x2) else if z = Str.ofString "row" then some (.ref r) else u z)) (N : News base L s.heap ((mr, listOf mus.toArray mc) :: (I, oI) :: all11 w L r b x dx d x2 dx2 d2 ta ta2 na na2 c c2 o o2 om ot ob us bs)) (hkd : kd = 11) :
    wpAny (model PySem.Challenge.rw_bq0028_01.row.prog w) (callerA.deeper (envOfC (Str.ofString "law") lawScope L fa cdv)) (exec (lb 3) (envOfC (Str.ofString "law") lawScope L fa cdv)) (fun f s₂ => f = .next ∧ TurnL w base L (.ref sl) I oI s .next s₂) E s := by
  obtain ⟨p1, p2, p3, p4, p5, p6, p7, p8, p9, p10, p11, p12, p13, p14, p15, p16, p17, p18, p19, p20, p21, p22, p23, p24, p25, p26, p27, p28, p29, p30, p31, p32, p33, p34, p35, p36, p37, p38, p39, p40, p41, p42, p43⟩ := apart (fun p hp => N p (.tail _ hp)) cI dI cm ct cb ho ho2 hdd
  have q1 : mr ≠ L + 1 := ne_of N (.head _) (b := L + 1) (ob := ob) (by simp [all11]) (ne_data (by rw [cb]; intro z; cases z))
  have q2 : mr ≠ L + 1 + 1 := ne_of N (.head _) (b := L + 1 + 1) (ob := ot) (by simp [all11]) (ne_data (by rw [ct]; intro z; cases z))
  have q3 : mr ≠ L + 1 + 1 + 1 := ne_of N (.head _) (b := L + 1 + 1 + 1) (ob := om) (by simp [all11]) (ne_data (by rw [cm]; intro z; cases z))
  have q4 : mr ≠ d := ne_of N (.head _) (b := d) (ob := o) (by simp [all11]) (ne_cls (by rw [dict_cls ho]; show Value.type "list" ≠ Value.type "dict"; decide))
  have q5 : mr ≠ d2 := ne_of N (.head _) (b := d2) (ob := o2) (by simp [all11]) (ne_cls (by rw [dict_cls ho2]; show Value.type "list" ≠ Value.type "dict"; decide))
  have e1 := Ne.symm p6; have e2 := Ne.symm p15; have e3 := Ne.symm p24; have e4 := Ne.symm p9; have e5 := Ne.symm p18; have e6 := Ne.symm p27
  have hz := small_nodup hs (dict_nodup ho)
  have hz2 := small_nodup hs2 (dict_nodup ho2)
  subst hkd
  unfold all11 at N
  revert X; k_fill; intro X
  dsimp only [lb, nth, loopBody, lawStmts, lawScope, lastOf, PySem.Challenge.pw_bq0028_01]
  k_steps
  · exact TurnL.mk2 (ks := []) (ks2 := ks) (dx := dx2) (dx2 := dx) (ta := ta2) (ta2 := ta) (na := na2) (na2 := na) (by k_asm) (by rfl) (by rfl) (by rfl) (by rfl) cm ct (by k_asm) (by k_asm) ho lo2 lo (Ne.symm hdd) .nil hi small_nil hs (by k_asm) (by k_mem) (by k_mem) (by k_mem) (by k_mem) (by k_mem) (by k_mem) (by k_mem) (by k_mem) (by k_mem) (by k_mem) (by k_mem) (by k_mem)
  · exact TurnL.mk2 (ks := ks2) (ks2 := ks) (dx := dx2) (dx2 := dx) (ta := ta2) (ta2 := ta) (na := na2) (na2 := na) (by k_asm) (by rfl) (by rfl) (by rfl) (by rfl) cm ct (by k_asm) ho2 ho lo2 lo (Ne.symm hdd) hi2 hi hs2 hs (by k_asm) (by k_mem) (by k_mem) (by k_mem) (by k_mem) (by k_mem) (by k_mem) (by k_mem) (by k_mem) (by k_mem) (by k_mem) (by k_mem) (by k_mem)
end

-- part TurnAll
/-! one whole turn of the law's loop, and the loop -/
theorem kmap_eq {sl x x2 r : Addr} {m₁ : Str → Option Value} (h1 : m₁ (Str.ofString "script") = some (.ref sl)) (h2 : m₁ (Str.ofString "one") = some (.ref x)) (h3 : m₁ (Str.ofString "other") = some (.ref x2)) (h4 : m₁ (Str.ofString "row") = some (.ref r)) (z : Str) :
    m₁ z = (if z = Str.ofString "script" then some (.ref sl) else if z = Str.ofString "one" then some (.ref x) else if z = Str.ofString "other" then some (.ref x2) else if z = Str.ofString "row" then some (.ref r) else m₁ z) := by
  by_cases a1 : z = Str.ofString "script"
  · subst a1; rw [if_pos rfl, h1]
  by_cases a2 : z = Str.ofString "one"
  · subst a2; rw [if_neg a1, if_pos rfl, h2]
  by_cases a3 : z = Str.ofString "other"
  · subst a3; rw [if_neg a1, if_neg a2, if_pos rfl, h3]
  by_cases a4 : z = Str.ofString "row"
  · subst a4; rw [if_neg a1, if_neg a2, if_neg a3, if_pos rfl, h4]
  rw [if_neg a1, if_neg a2, if_neg a3, if_neg a4]
section
variable {w : World} {L fa sl : Addr} {cdv : Value} {base : Heap} {s : Shared} {mean : ExcName → Option Value} {mg mb : Str → Option Value} {E : Value → Shared → Prop} {i : Int} {ti : Tok}
  {I : Addr} {oI : Obj} {svs : List Value} {sns : List Int} {news₁ : List (Addr × Obj)} {m₁ : Str → Option Value}
theorem turn_all (B : Below callerA base [] base) (X : (hd.heap_39 w.params).In base) (T : Top hd.view_39 (looseW hd.view_39 [Str.ofString "OrderedSet"]) mean mg mb base)
    (cI : oI.cls = .type "range_iterator") (dI : ∃ q, oI.data = .fields q) (hl : base.IsList sl svs.toArray) (hsi : IntsAre svs sns) (hlen : sns.length < 2 ^ 62) (h0 : 0 ≤ i) (h13 : i < 13)
    (F : Fr base L s.heap (fun z => if z = Str.ofString "k" then some (.int i ti) else m₁ z)) (N : News base L s.heap ((I, oI) :: news₁)) (hJ : Inv w L (.ref sl) m₁ news₁) :
    wpAny (model PySem.Challenge.rw_bq0028_01.row.prog w) (callerA.deeper (envOfC (Str.ofString "law") lawScope L fa cdv)) (execs loopBody (envOfC (Str.ofString "law") lawScope L fa cdv)) (TurnL w base L (.ref sl) I oI s) E s := by
  obtain ⟨r, b, x, dx, d, x2, dx2, d2, ta, ta2, na, na2, c, c2, o, o2, om, ot, ob, us, bs, ks, ks2, vt, vm, rfl, g1, g2, g3, g4, cm, ct, cb, ho, ho2, lo, lo2, hdd, hi, hi2, hs, hs2⟩ := hJ
  have F1 := fr_eq (m' := fun z => if z = Str.ofString "k" then some (.int i ti) else if z = Str.ofString "script" then some (.ref sl) else if z = Str.ofString "one" then some (.ref x) else if z = Str.ofString "other" then some (.ref x2) else if z = Str.ofString "row" then some (.ref r) else m₁ z) F (fun z => by
    by_cases hz : z = Str.ofString "k"
    · simp only [if_pos hz]
    · simp only [if_neg hz]
      exact kmap_eq g1 g2 g3 g4 z)
  rw [loop_is]
  refine turn_head B X T cI dI cb ho ho2 lo lo2 hdd hi hi2 hs hs2 cm ct hl hsi hlen h0 h13 F1 N ?_
  intro h' tk p tp tkd th tth mr mus mc ms om' ot' u' F' N' cm' ct' hmi hml hms hth hth6
  have hk0 : 0 ≤ (p.fdiv 2).fmod 12 := Int.fmod_nonneg_of_pos _ (by decide)
  have hk12 : (p.fdiv 2).fmod 12 < 12 := Int.fmod_lt_of_pos _ (by decide)
  refine wpAny_execs_cons ?_
  have hd : wpAny (model PySem.Challenge.rw_bq0028_01.row.prog w) (callerA.deeper (envOfC (Str.ofString "law") lawScope L fa cdv)) (exec (lb 3) (envOfC (Str.ofString "law") lawScope L fa cdv)) (fun f s₂ => f = .next ∧ TurnL w base L (.ref sl) I oI { s with heap := h', toks := tk } .next s₂) E { s with heap := h', toks := tk } := by
    have : (p.fdiv 2).fmod 12 = 0 ∨ (p.fdiv 2).fmod 12 = 1 ∨ (p.fdiv 2).fmod 12 = 2 ∨ (p.fdiv 2).fmod 12 = 3 ∨ (p.fdiv 2).fmod 12 = 4 ∨ (p.fdiv 2).fmod 12 = 5 ∨ (p.fdiv 2).fmod 12 = 6 ∨ (p.fdiv 2).fmod 12 = 7 ∨ (p.fdiv 2).fmod 12 = 8 ∨ (p.fdiv 2).fmod 12 = 9 ∨ (p.fdiv 2).fmod 12 = 10 ∨ (p.fdiv 2).fmod 12 = 11 := by omega
    rcases this with e | e | e | e | e | e | e | e | e | e | e | e
    · exact deed_0 B X T cI dI cb ho ho2 lo lo2 hdd hi hi2 hs hs2 cm' ct' hth hth6 hmi hml hms F' N' e
    · exact deed_1 B X T cI dI cb ho ho2 lo lo2 hdd hi hi2 hs hs2 cm' ct' hth hth6 hmi hml hms F' N' e
    · exact deed_2 B X T cI dI cb ho ho2 lo lo2 hdd hi hi2 hs hs2 cm' ct' hth hth6 hmi hml hms F' N' e
    · exact deed_3 B X T cI dI cb ho ho2 lo lo2 hdd hi hi2 hs hs2 cm' ct' hth hth6 hmi hml hms F' N' e
    · exact deed_4 B X T cI dI cb ho ho2 lo lo2 hdd hi hi2 hs hs2 cm' ct' hth hth6 hmi hml hms F' N' e
    · exact deed_5 B X T cI dI cb ho ho2 lo lo2 hdd hi hi2 hs hs2 cm' ct' hth hth6 hmi hml hms F' N' e
    · exact deed_6 B X T cI dI cb ho ho2 lo lo2 hdd hi hi2 hs hs2 cm' ct' hth hth6 hmi hml hms F' N' e
    · exact deed_7 B X T cI dI cb ho ho2 lo lo2 hdd hi hi2 hs hs2 cm' ct' hth hth6 hmi hml hms F' N' e
    · exact deed_8 B X T cI dI cb ho ho2 lo lo2 hdd hi hi2 hs hs2 cm' ct' hth hth6 hmi hml hms F' N' e
    · exact deed_9 B X T cI dI cb ho ho2 lo lo2 hdd hi hi2 hs hs2 cm' ct' hth hth6 hmi hml hms F' N' e
    · exact deed_10 B X T cI dI cb ho ho2 lo lo2 hdd hi hi2 hs hs2 cm' ct' hth hth6 hmi hml hms F' N' e
    · exact deed_11 B X T cI dI cb ho ho2 lo lo2 hdd hi hi2 hs hs2 cm' ct' hth hth6 hmi hml hms F' N' e
  refine wpAny_mono hd (fun f s₂ hf => ?_) fun _ _ e => e
  obtain ⟨rfl, h2, tk2, m2, news2, rfl, F2, N2, hJ2⟩ := hf
  obtain ⟨r, b, x, dx, d, x2, dx2, d2, ta, ta2, na, na2, c, c2, o, o2, om, ot, ob, us, bs, ks, ks2, vt, vm, rfl, g1, g2, g3, g4, cm, ct, cb, ho, ho2, lo, lo2, hdd, hi, hi2, hs, hs2⟩ := hJ2
  have F3 := fr_eq F2 (kmap_eq g1 g2 g3 g4)
  exact turn_tail B X T cI dI cb ho ho2 lo lo2 hdd hi hi2 hs hs2 cm ct F3 N2
/-- the loop over a range -/
theorem law_loop (hh : (callerA.deeper (envOfC (Str.ofString "law") lawScope L fa cdv)).handled = none) (B : Below callerA base [] base) (X : (hd.heap_39 w.params).In base) (T : Top hd.view_39 (looseW hd.view_39 [Str.ofString "OrderedSet"]) mean mg mb base)
    (hl : base.IsList sl svs.toArray) (hsi : IntsAre svs sns) (hlen : sns.length < 2 ^ 62) {rg : Addr} {b₀ : Int} {t₀ u₀ v₀ : Tok} {Q : Flow → Shared → Prop}
    (hr : IsRange s.heap rg 0 b₀ 1 t₀ u₀ v₀) (hb0 : 0 ≤ b₀) (hb : b₀ < 13) (F : Fr base L s.heap m₁) (N : News base L s.heap news₁) (hJ : Inv w L (.ref sl) m₁ news₁)
    (done : ∀ h' tk m' news', Fr base L h' m' → News base L h' news' → Inv w L (.ref sl) m' news' → Q .next { s with heap := h', toks := tk }) :
    wpAny (model PySem.Challenge.rw_bq0028_01.row.prog w) (callerA.deeper (envOfC (Str.ofString "law") lawScope L fa cdv)) (pyIter (.ref rg)) (fun it s₂ => LoopAtV PySem.Challenge.rw_bq0028_01.row.prog w (callerA.deeper (envOfC (Str.ofString "law") lawScope L fa cdv)) base (envOfC (Str.ofString "law") lawScope L fa cdv) (Str.ofString "k") loopBody Q E it s₂) E s := by
  have hn : Builtin.Range.rangeSize 0 b₀ 1 = ((b₀.toNat : Nat) : Int) := by
    have h14 : b₀ = 0 ∨ b₀ = 1 ∨ b₀ = 2 ∨ b₀ = 3 ∨ b₀ = 4 ∨ b₀ = 5 ∨ b₀ = 6 ∨ b₀ = 7 ∨ b₀ = 8 ∨ b₀ = 9 ∨ b₀ = 10 ∨ b₀ = 11 ∨ b₀ = 12 := by omega
    rcases h14 with rfl | rfl | rfl | rfl | rfl | rfl | rfl | rfl | rfl | rfl | rfl | rfl | rfl <;> rfl
  have hsmall : Builtin.Range.small 0 b₀ 1 = true := by
    have h14 : b₀ = 0 ∨ b₀ = 1 ∨ b₀ = 2 ∨ b₀ = 3 ∨ b₀ = 4 ∨ b₀ = 5 ∨ b₀ = 6 ∨ b₀ = 7 ∨ b₀ = 8 ∨ b₀ = 9 ∨ b₀ = 10 ∨ b₀ = 11 ∨ b₀ = 12 := by omega
    rcases h14 with rfl | rfl | rfl | rfl | rfl | rfl | rfl | rfl | rfl | rfl | rfl | rfl | rfl <;> decide
  refine wpAny_pyIter_range hr hsmall ?_
  have W : Walks PySem.Challenge.rw_bq0028_01.row.prog w (callerA.deeper (envOfC (Str.ofString "law") lawScope L fa cdv)) s.heap.objs.size [s.heap.objs.size] [s.heap.objs.size] b₀.toNat (fun i v => i < b₀.toNat ∧ ∃ t, v = .int (0 + i * 1) t)
      (fun i h => IsRangeIter h s.heap.objs.size (0 + (i : Nat) * 1) ((b₀.toNat : Int) - (i : Nat)) 1) := (Walks.range hh _ 0 1 b₀.toNat).bound
  have hnew := next_is_new F
  refine ⟨_, _, _, b₀.toNat, _, _, m₁, news₁, (fun _ m news => Inv w L (.ref sl) m news), rfl, W, ?_, ?_, ?_, (by show IsRangeIter _ _ _ _ _; rw [hn]; simpa using Heap.get?_push_size _ rfl), F.push _, (fun p hp => ⟨Heap.get?_push_of_some _ (N p hp).1, (N p hp).2⟩), hJ, ?_, ?_⟩
  · intro hm
    exact absurd F.ns.lt ((List.mem_singleton.mp hm) ▸ Nat.lt_irrefl _)
  · intro b hb
    rw [List.mem_singleton.mp hb]
    exact hnew
  · intro p hp hI
    exact absurd (Heap.lt_size (N p hp).1) ((List.mem_singleton.mp hI) ▸ Nat.lt_irrefl _)
  · rintro i v m₂ news₂ s₁ own ⟨hh', tk', rfl⟩ hin ⟨_, t, rfl⟩ hJ2 hoff hown hget hall hst F₁ N₁
    have e1 : (0 : Int) + (i : Int) * 1 = (i : Int) := by omega
    rw [e1] at F₁
    have hst' : hh'.get? s.heap.objs.size = some (itR (0 + ((i + 1 : Nat) : Int)) ((b₀.toNat : Int) - ((i + 1 : Nat) : Int))) := by
      have q : IsRangeIter hh' s.heap.objs.size (0 + ((i + 1 : Nat) : Int) * 1) ((b₀.toNat : Int) - ((i + 1 : Nat) : Int)) 1 := hst
      rw [Int.mul_one] at q
      exact q
    have hmem := hall s.heap.objs.size (List.mem_singleton.mpr rfl) hnew _ hst'
    have N₂ : News base L hh' ((s.heap.objs.size, itR (0 + ((i + 1 : Nat) : Int)) ((b₀.toNat : Int) - ((i + 1 : Nat) : Int))) :: news₂) := fun p hp => by
      rcases List.mem_cons.mp hp with rfl | hp
      · exact N₁ _ (List.mem_append_left _ hmem)
      · exact N₁ _ (List.mem_append_right _ hp)
    refine wpAny_mono (turn_all (s := ⟨hh', s.gens, s.drawn, tk', s.os⟩) B X T rfl ⟨_, rfl⟩ hl hsi hlen (by omega) (by omega) F₁ N₂ hJ2) (fun f s₂ p => ?_) fun _ _ e => e
    have fin : (∃ h' tk m' news', s₂ = { s with heap := h', toks := tk } ∧ Fr base L h' m' ∧ News base L h' ((s.heap.objs.size, itR (0 + ((i + 1 : Nat) : Int)) ((b₀.toNat : Int) - ((i + 1 : Nat) : Int))) :: news') ∧ Inv w L (.ref sl) m' news') →
        LoopStepU base L [s.heap.objs.size] own (fun m news => Inv w L (.ref sl) m news) { s with heap := hh', toks := tk' } .next s₂ := by
      rintro ⟨h', tk, m', news', rfl, F', N', hJ'⟩
      refine ⟨rfl, h', tk, m', news', rfl, F', fun p hp => ?_, ?_, hJ'⟩
      · rcases List.mem_append.mp hp with hp | hp
        · have h1 : p.1 = s.heap.objs.size := List.mem_singleton.mp (hown p hp)
          have h2 : hh'.get? p.1 = some p.2 := hget p hp
          have h3 : p = (s.heap.objs.size, itR (0 + ((i + 1 : Nat) : Int)) ((b₀.toNat : Int) - ((i + 1 : Nat) : Int))) := by
            rw [h1, hst'] at h2
            exact Prod.ext h1 (Option.some.inj h2).symm
          rw [h3]; exact N' _ (List.mem_cons_self ..)
        · exact N' _ (List.mem_cons_of_mem _ hp)
      · intro p hp hI
        obtain ⟨r, b, x, dx, d, x2, dx2, d2, ta, ta2, na, na2, c, c2, o, o2, om, ot, ob, us, bs, ks, ks2, vt, vm, rfl, _, _, _, _, cm, ct, cb, ho, ho2, _⟩ := hJ'
        have hI' := List.mem_singleton.mp hI
        have hobj : some p.2 = some (itR (0 + ((i + 1 : Nat) : Int)) ((b₀.toNat : Int) - ((i + 1 : Nat) : Int))) := by
          rw [← (N' p (.tail _ hp)).1, hI', (N' _ (.head _)).1]
        have hcls : p.2.cls = .type "range_iterator" := by rw [Option.some.inj hobj]; rfl
        have hdata : ∃ q, p.2.data = .fields q := ⟨_, by rw [Option.some.inj hobj]; rfl⟩
        obtain ⟨q, hq⟩ := hdata
        simp only [all11, List.mem_cons, List.not_mem_nil, or_false] at hp
        rcases hp with rfl | rfl | rfl | rfl | rfl | rfl | rfl | rfl | rfl | rfl | rfl
        · exact absurd hcls (by show Value.type "list" ≠ Value.type "range_iterator"; decide)
        · exact absurd hcls (by show Value.type "list" ≠ Value.type "range_iterator"; decide)
        · cases hcls
        · exact absurd hcls (by show Value.type "dict" ≠ Value.type "range_iterator"; decide)
        · rw [dict_cls ho] at hcls; exact absurd hcls (by decide)
        · cases hcls
        · exact absurd hcls (by show Value.type "dict" ≠ Value.type "range_iterator"; decide)
        · rw [dict_cls ho2] at hcls; exact absurd hcls (by decide)
        · rw [cm] at hq; cases hq
        · rw [ct] at hq; cases hq
        · rw [cb] at hq; cases hq
    cases f with
    | ret v => exact p.elim
    | brk => exact p.elim
    | next => exact .next (fin p)
    | cont => exact .cont (fin p)
  · rintro h' tk m' news' F' N' _ hJ'
    exact done h' tk m' news' F' N' hJ'
end

-- part Sets
/-! sets of small ints: their table is written out -/
def tab (led : Bool) (ks : List Int) : SetTable := { mask := if ks.length < 5 then 7 else 31, place := (ks.map Int.toNat).toArray, dummies := #[], finger := 0, led, moves := if ks.length < 5 then 0 else 1, plain := true }
def subsOf : List Int → List (List Int)
  | [] => [[]]
  | a :: r => (subsOf r).map (a :: ·) ++ subsOf r
def subs : List (List Int) := subsOf [0, 1, 2, 3, 4, 5]
def ins (k : Int) : List Int → List Int
  | [] => [k]
  | a :: r => if k < a then k :: a :: r else a :: ins k r
def stepOk (led : Bool) (ks : List Int) (k : Int) : Bool :=
  let q := (tab led ks).put k.toNat
  (tab led ks).freeSlot k == some (k.toNat, false) && ks.take q.2 ++ k :: ks.drop q.2 == ins k ks && q.1.fits (ks.length + 1) && subs.contains (ins k ks) && q.1.plain && (tab led (ins k ks)).fits (ks.length + 1) &&
    (if q.1.tooFull then q.1.relaid (ins k ks).toArray (SetTable.grown (ks.length + 1)) == some (tab led (ins k ks), Array.range (ks.length + 1)) else q.1 == tab led (ins k ks))
theorem steps_ok : ([true, false].all fun led => subs.all fun ks => [0, 1, 2, 3, 4, 5].all fun k => ks.contains k || stepOk led ks k) = true := by decide +kernel
def nextOk (led : Bool) (ks : List Int) (i : Nat) : Bool :=
  SetTable.below (tab led ks).place (match i with | 0 => 0 | j + 1 => (ks.getD j 0).toNat + 1) == i
theorem nexts_ok : ([true, false].all fun led => subs.all fun ks => (List.range (ks.length + 1)).all fun i => nextOk led ks i) = true := by decide +kernel
theorem fits_ok : ([true, false].all fun led => subs.all fun ks => (tab led ks).fits ks.length) = true := by decide +kernel
theorem nodups_ok : (subs.all fun ks => decide ks.Nodup && decide (ks.length ≤ 6) && ks.all fun k => decide (0 ≤ k ∧ k < 6)) = true := by decide +kernel
theorem small_mem {k : Int} (h : 0 ≤ k ∧ k < 6) : k ∈ ([0, 1, 2, 3, 4, 5] : List Int) := by
  simp only [List.mem_cons, List.not_mem_nil, or_false]; omega
theorem bool_mem (b : Bool) : b ∈ [true, false] := by cases b <;> simp
theorem step_ok (led : Bool) {ks : List Int} {k : Int} (hs : ks ∈ subs) (hk : 0 ≤ k ∧ k < 6) (hm : k ∉ ks) : stepOk led ks k = true := by
  have h := List.all_eq_true.mp (List.all_eq_true.mp (List.all_eq_true.mp steps_ok led (bool_mem led)) ks hs) k (small_mem hk)
  simp only [Bool.or_eq_true, List.contains_iff_mem] at h
  exact h.resolve_left hm
theorem next_ok (led : Bool) {ks : List Int} {i : Nat} (hs : ks ∈ subs) (hi : i ≤ ks.length) : nextOk led ks i = true :=
  List.all_eq_true.mp (List.all_eq_true.mp (List.all_eq_true.mp nexts_ok led (bool_mem led)) ks hs) i (List.mem_range.mpr (by omega))
theorem fit_ok (led : Bool) {ks : List Int} (hs : ks ∈ subs) : (tab led ks).fits ks.length = true :=
  List.all_eq_true.mp (List.all_eq_true.mp fits_ok led (bool_mem led)) ks hs
theorem sub_facts {ks : List Int} (hs : ks ∈ subs) : ks.Nodup ∧ ks.length ≤ 6 ∧ ∀ k ∈ ks, 0 ≤ k ∧ k < 6 := by
  have h := List.all_eq_true.mp nodups_ok ks hs
  simp only [Bool.and_eq_true, decide_eq_true_eq, List.all_eq_true] at h
  exact ⟨h.1.1, h.1.2, h.2⟩
theorem ins_perm (k : Int) : ∀ ks : List Int, (ins k ks).Perm (k :: ks)
  | [] => .refl _
  | a :: r => by
    unfold ins
    split
    · exact .refl _
    · exact ((ins_perm k r).cons a).trans (.swap k a r)
theorem ins_mem {k a : Int} {ks : List Int} : a ∈ ins k ks ↔ a = k ∨ a ∈ ks := by rw [(ins_perm k ks).mem_iff, List.mem_cons]
def Ents (es : Array (Int × Value)) (ks : List Int) : Prop := es.toList.map (·.1) = ks ∧ ∀ e ∈ es.toList, ∃ t, e.2 = .int e.1 t
theorem Ents.size {es : Array (Int × Value)} {ks : List Int} (h : Ents es ks) : es.size = ks.length := by rw [← h.1, List.length_map, Array.length_toList]
abbrev ledOf (w : World) : Bool := !w.params.followText "set-order"
def CanSet (w : World) (o : Obj) (ks : List Int) : Prop := o.ExactSet ∧ ks ∈ subs ∧ ∃ es ep, o.data = .set es ep (tab (ledOf w) ks) ∧ Ents es ks
theorem hash_small {prog : Program} {w : World} {k : Int} (h : 0 ≤ k ∧ k < 6) : (intKind prog w).hash k = k := by
  have : k = 0 ∨ k = 1 ∨ k = 2 ∨ k = 3 ∨ k = 4 ∨ k = 5 := by omega
  rcases this with rfl | rfl | rfl | rfl | rfl | rfl <;> rfl
theorem Ents.elems {prog : Program} {w : World} {es : Array (Int × Value)} {ks : List Int} (h : Ents es ks) (hs : ks ∈ subs) : ElemsOf (intKind prog w) es.toList := by
  intro e he
  obtain ⟨t, ht⟩ := h.2 e he
  have hk : e.1 ∈ ks := by rw [← h.1]; exact List.mem_map.mpr ⟨e, he, rfl⟩
  refine ⟨⟨e.1, by rw [ht]; exact intKind_is _ _ _ _, (hash_small ((sub_facts hs).2.2 _ hk)).symm⟩, by rw [ht]; rfl⟩
theorem Ents.mem {prog : Program} {w : World} {es : Array (Int × Value)} {ks : List Int} (h : Ents es ks) (k : Int) : decide (k ∈ ks) = true ↔ ∃ e ∈ es.toList, (intKind prog w).is k e.2 = true := by
  rw [decide_eq_true_eq, ← h.1, List.mem_map]
  constructor
  · rintro ⟨e, he, rfl⟩
    obtain ⟨t, ht⟩ := h.2 e he
    exact ⟨e, he, by rw [ht]; exact intKind_is _ _ _ _⟩
  · rintro ⟨e, he, hk⟩
    obtain ⟨t, ht⟩ := h.2 e he
    rw [ht] at hk
    exact ⟨e, he, ((intKind prog w).inj _ _ _ hk (intKind_is _ _ _ _)).symm⟩
theorem CanSet.setOf {prog : Program} {w : World} {h : Heap} {a : Addr} {o : Obj} {ks : List Int} (c : CanSet w o ks) (ho : h.get? a = some o) : h.SetOf (intKind prog w) a (fun k => decide (k ∈ ks)) ks.length := by
  obtain ⟨hex, hs, es, ep, hd, he⟩ := c
  refine ⟨o, es, ep, _, ho, hex, hd, he.elems hs, he.mem, ?_, by rw [he.size]; exact fit_ok _ hs, he.size⟩
  have := (sub_facts hs).2.1
  rw [he.size]; unfold scanBound; omega
theorem lay_tab {led : Bool} {es : Array (Int × Value)} {ks : List Int} {k : Int} {x : Value} (hs : ks ∈ subs) (he : Ents es ks) (hk : 0 ≤ k ∧ k < 6) (hm : k ∉ ks) (hx : ∃ t, x = .int k t) :
    ∃ es1 t1, layNew (tab led ks) es k x = (es1, t1, false, false) ∧ Ents es1 (ins k ks) ∧ t1.fits es1.size = true ∧ t1.plain = true ∧
      ((t1.tooFull = true ∧ relayAll t1 es1 (SetTable.grown es1.size) = (es1, tab led (ins k ks), false)) ∨ (t1.tooFull = false ∧ t1 = tab led (ins k ks))) ∧ ins k ks ∈ subs := by
  have hok := step_ok led hs hk hm
  unfold stepOk at hok
  generalize hq : (tab led ks).put k.toNat = q at hok
  obtain ⟨t1, p⟩ := q
  simp only [Bool.and_eq_true, beq_iff_eq, List.contains_iff_mem] at hok
  obtain ⟨⟨⟨⟨⟨⟨h1, h2⟩, h3⟩, h4⟩, h5⟩, h6⟩, h7⟩ := hok
  have e1 : Ents (SetTable.insertAt es p (k, x)) (ins k ks) := by
    constructor
    · rw [SetTable.toList_insertAt, List.map_append, List.map_cons, List.map_take, List.map_drop, he.1]; exact h2
    · intro e hm'
      have := (SetTable.insertAt_perm es p (k, x)).mem_iff.mp hm'
      rw [Array.toList_push] at this
      rcases List.mem_append.mp this with h | h
      · exact he.2 e h
      · rw [List.mem_singleton] at h; subst h; exact hx
  have hlen : (ins k ks).length = ks.length + 1 := (ins_perm k ks).length_eq
  have hsz : (SetTable.insertAt es p (k, x)).size = ks.length + 1 := by rw [e1.size, hlen]
  refine ⟨SetTable.insertAt es p (k, x), t1, ?_, e1, by rw [hsz]; exact h3, h5, ?_, h4⟩
  · unfold layNew
    rw [h1]
    dsimp only
    rw [hq]
    dsimp only
    unfold SetTable.orStandIn
    rw [hsz, h3]; rfl
  · cases hf : t1.tooFull with
    | false => rw [hf] at h7; exact .inr ⟨rfl, by simpa using h7⟩
    | true =>
      rw [hf] at h7
      refine .inl ⟨rfl, ?_⟩
      simp only [if_true, beq_iff_eq] at h7
      unfold relayAll
      have hkeys : (SetTable.insertAt es p (k, x)).map (·.1) = (ins k ks).toArray := by rw [← e1.1]; apply Array.ext'; rw [Array.toList_map]
      rw [hkeys, hsz, h7]
      dsimp only
      have hr : (Array.range (ks.length + 1)).filterMap (fun i => (SetTable.insertAt es p (k, x))[i]?) = SetTable.insertAt es p (k, x) := by
        have hr1 : (Array.range (ks.length + 1)).toList = List.range (SetTable.insertAt es p (k, x)).size := Array.toList_range.trans (by rw [hsz])
        apply Array.ext'
        rw [Array.toList_filterMap, hr1, filterMap_getElem?_range]
      rw [hr]
      have hc : coversAll (Array.range (ks.length + 1)) (ks.length + 1) = true := by
        unfold coversAll
        rw [Array.toList_range]
        exact List.isPerm_iff.mpr (.refl _)
      rw [hsz, hc, h6]; rfl
theorem erase_perm {α : Type} : ∀ (l : List α) (i : Nat) (h : i < l.length), List.Perm ([l[i]] ++ l.eraseIdx i) l
  | a :: r, 0, h => by simp
  | a :: r, i + 1, h => by
    have := erase_perm r i (by simpa using h)
    simp only [List.getElem_cons_succ, List.eraseIdx_cons_succ, List.cons_append, List.nil_append] at this ⊢
    exact (List.Perm.swap a _ _).trans (this.cons a)
theorem pick_go {α : Type} (next : Nat → Nat) : ∀ (n k : Nat) (left : List α) (out : Array α), left.length = n → List.Perm (pickOrder.go next n k left out).toList (out.toList ++ left)
  | 0, k, left, out, h => by
    have : left = [] := List.length_eq_zero_iff.mp h
    subst this
    simp [pickOrder.go]
  | n + 1, k, left, out, h => by
    have hlt : next k % left.length < left.length := Nat.mod_lt _ (by omega)
    unfold pickOrder.go
    rw [List.getElem?_eq_getElem hlt]
    dsimp only
    refine (pick_go next n (k + 1) _ _ (by rw [List.length_eraseIdx_of_lt hlt]; omega)).trans ?_
    rw [Array.toList_push, List.append_assoc]
    refine List.Perm.append_left _ ?_
    exact erase_perm left _ hlt
theorem pick_perm {α : Type} (next : Nat → Nat) (xs : Array α) : List.Perm (pickOrder next xs).toList xs.toList := by
  exact (pick_go next xs.size 0 xs.toList #[] (by simp)).trans (by simp)
/-- the order in which a set is walked -/
def walkOf (w : World) (a : Addr) (ep : Nat) (es : Array (Int × Value)) : Array (Int × Value) := if w.params.followText "set-order" then pickOrder (w.params.setOrder a ep) es else es
theorem walk_perm (w : World) (a : Addr) (ep : Nat) (es : Array (Int × Value)) : List.Perm (walkOf w a ep es).toList es.toList := by
  unfold walkOf
  split
  · exact pick_perm _ _
  · exact .refl _
section
variable {prog : Program} {w : World} {A : Around} {E : Value → Shared → Prop} {s : Shared} {a : Addr} {o : Obj} {ks : List Int} {k : Int} {t : Tok}
theorem setAdd_C {Q : Bool → Shared → Prop} (ho : s.heap.get? a = some o) (c : CanSet w o ks) (hk : 0 ≤ k ∧ k < 6)
    (h : ∀ h' o' b, Heap.SameBut a s.heap h' → h'.get? a = some o' → CanSet w o' (if k ∈ ks then ks else ins k ks) → Q b { s with heap := h' }) :
    wpAny (model prog w) A (setAddHashed a (.int k t) k) Q E s := by
  have hS := c.setOf (prog := prog) ho
  obtain ⟨hex, hs, es, ep, hd, he⟩ := id c
  have hf : (tab (ledOf w) ks).fits es.size = true := by rw [he.size]; exact fit_ok _ hs
  have hb : es.size < scanBound := by have := (sub_facts hs).2.1; rw [he.size]; unfold scanBound; omega
  have hkey : (intKind prog w).is k (.int k t) = true := intKind_is _ _ _ _
  have hh : (intKind prog w).hash k = k := hash_small hk
  have hscan : ∀ {R : ScanMet → Shared → Prop}, R (match es.toList.findIdx? (fun e => (intKind prog w).is k e.2) with | some j => .found (0 + j) | none => .absent) s → wpAny (model prog w) A (setScan a (.int k t) k true es) R E s := by
    intro R hR
    have := wpAny_setScan_of (knd := intKind prog w) (E := E) (A := A) (x := .int k t) (adding := true) hkey ho hd hf (he.elems hs) hR
    rw [hh] at this
    exact this
  unfold setAddHashed setAddHashedIn
  refine wpAny_holding (wpAny_bind (wpAny_setState_of ho hd hf ?_))
  dsimp only
  rw [byScan_of (knd := intKind prog w) rfl hb (he.elems hs)]
  simp only [↓reduceIte]
  unfold setAddByScan
  refine wpAny_bind ?_
  refine wpAny_bind (wpAny_rule ?_)
  refine wpAny_bind (hscan ?_)
  cases hr : List.findIdx? (fun e => (intKind prog w).is k e.2) es.toList with
  | some j =>
    dsimp only
    obtain ⟨hj, hpj, _⟩ := List.findIdx?_eq_some_iff_getElem.mp hr
    have hSk : k ∈ ks := by simpa using (he.mem (prog := prog) (w := w) k).mpr ⟨es.toList[j], List.getElem_mem hj, hpj⟩
    refine wpAny_pure (wpAny_pure ?_)
    have := h s.heap o false (Heap.SameBut.refl a s.heap) ho (by rw [if_pos hSk]; exact c)
    exact this
  | none =>
    dsimp only
    have hSk : k ∉ ks := fun hm => by
      obtain ⟨e, hme, hp⟩ := (he.mem (prog := prog) (w := w) k).mp (by simpa using hm)
      have := List.findIdx?_eq_none_iff.mp hr e hme; rw [hp] at this; exact Bool.noConfusion this
    rw [if_neg hSk] at h
    obtain ⟨es1, t1, hlay, he1, hf1, hp1, hend, hs1⟩ := lay_tab (led := ledOf w) hs he hk hSk ⟨t, rfl⟩
    have hb1 : es1.size < scanBound := by have := (sub_facts hs1).2.1; rw [he1.size]; unfold scanBound; omega
    rw [hlay]
    dsimp only
    refine wpAny_bind (wpAny_pure ?_)
    rw [hp1]
    simp only [↓reduceIte]
    refine wpAny_bind (wpAny_pure ?_)
    simp only [↓reduceIte]
    have hg1 : (s.heap.update a (Obj.putSet es1 t1)).get? a = some { o with data := .set es1 (ep + 1) t1 } := by
      have := Heap.get?_update_self (Obj.putSet es1 t1) ho (by rw [putSet_of es1 t1 hd]; rfl)
      rw [putSet_of es1 t1 hd] at this; exact this
    refine wpAny_bind (wpAny_storeSet_of ho hd ?_ (fits_of_scanBound hb1))
    rcases hend with ⟨htf, hrl⟩ | ⟨htf, rfl⟩
    · rw [htf, hrl]
      simp only [Bool.not_false, Bool.and_self, ↓reduceIte]
      refine wpAny_bind (wpAny_pure ?_)
      refine wpAny_bind (wpAny_storeSet_of hg1 rfl ?_ (fits_of_scanBound hb1))
      refine wpAny_pure (wpAny_pure ?_)
      refine h _ { o with data := .set es1 (ep + 1 + 1) (tab (ledOf w) (ins k ks)) } _ ((Heap.SameBut.update s.heap a _).trans (Heap.SameBut.update _ a _)) ?_ ⟨hex, hs1, es1, ep + 1 + 1, rfl, he1⟩
      have := Heap.get?_update_self (Obj.putSet es1 (tab (ledOf w) (ins k ks))) hg1 (by rw [putSet_of es1 _ rfl]; rfl)
      rw [putSet_of es1 _ rfl] at this; exact this
    · rw [htf]
      simp only [Bool.and_false, Bool.false_eq_true, ↓reduceIte]
      refine wpAny_pure (wpAny_pure ?_)
      exact h _ _ _ (Heap.SameBut.update s.heap a _) hg1 ⟨hex, hs1, es1, ep + 1, rfl, he1⟩
theorem setWalk_C {es : Array (Int × Value)} {ep : Nat} {Q : Array (Int × Value) → Shared → Prop} (ho : s.heap.get? a = some o) (hs : ks ∈ subs) (hd : o.data = .set es ep (tab (ledOf w) ks)) (he : Ents es ks) (h : Q (walkOf w a ep es) s) :
    wpAny (model prog w) A (setWalk a) Q E s := by
  have hf : (tab (ledOf w) ks).fits es.size = true := by rw [he.size]; exact fit_ok _ hs
  unfold setWalk
  refine wpAny_bind (wpAny_setState_of ho hd hf ?_)
  dsimp only
  unfold setsByText
  refine wpAny_bind (wpAny_bind (wpAny_askSetting (wpAny_pure ?_)))
  show wpAny _ _ (if w.params.followText "set-order" = true then _ else _) _ _ _
  cases hb : w.params.followText "set-order" with
  | true =>
    simp only [↓reduceIte]
    refine wpAny_bind (wpAny_askSetting ?_)
    refine wpAny_pure ?_
    unfold walkOf at h
    rw [hb] at h
    exact h
  | false =>
    simp only [Bool.false_eq_true, ↓reduceIte]
    unfold walkOf at h
    rw [hb] at h
    show wpAny _ _ (if (!(tab (ledOf w) ks).plain && decide (es.size > 1)) = true then _ else _) _ _ _
    rw [if_neg (by simp [tab])]
    refine wpAny_bind (m := if (!(tab (ledOf w) ks).led && decide (es.size > 1)) = true then _ else _) ?_
    rw [if_neg (by simp [tab, hb])]
    exact wpAny_pure (wpAny_pure h)
theorem newSet_C {Q : Value → Shared → Prop}
    (h : ∀ o, o.isFreed = false → CanSet w o [] → Q (.ref s.heap.objs.size) { s with heap := s.heap.push o }) : wpAny (model prog w) A (newSet (.type "set")) Q E s := by
  unfold newSet setsByText
  refine wpAny_bind (wpAny_bind (wpAny_askSetting (wpAny_pure ?_)))
  dsimp only
  simp only [newObj]
  refine wpAny_bind (wpAny_alloc (wpAny_pure (h _ rfl ⟨⟨rfl, rfl, rfl⟩, by decide, #[], 0, ?_, rfl, fun e he => by simp at he⟩)))
  rfl
end

-- part SetIter
/-! the walk over a set -/
theorem owner_si : Manifest.owners.lookup (String.ofList ['r','o','t','a','r','e','t','i','_','t','e','s'].reverse) = some Manifest.sig_set_iterator := by kernel_rfl
theorem slot_si_next : Slot "set_iterator" "__next__" "set_iterator.__next__" :=
  .of (owner := "set_iterator") (n := "__next__") (by rw [typeLookup_type, builtinLookup_eq_fast]; kernel_rfl) (by decide +kernel) (by decide +kernel) (by decide +kernel)
    (by first | exact .inl (by decide +kernel) | exact .inr (by decide +kernel)) (by rw [isSubtype_type]; kernel_rfl)
theorem entry_si_next : entryFor table "set_iterator.__next__" = some Builtin.«set_iterator.__next__» := entryFor_of_tree (by kernel_rfl)
theorem args_si_next (a : Value) : argsOk "set_iterator.__next__" ⟨[a], []⟩ := by
  unfold argsOk; rw [signature?_of (id := "set_iterator.__next__") (n := ['_', '_', 't', 'x', 'e', 'n', '_', '_']) (o := ['r','o','t','a','r','e','t','i','_','t','e','s']) (by kernel_rfl) owner_si]; kernel_rfl
theorem slot_si_iter : Slot "set_iterator" "__iter__" "set_iterator.__iter__" :=
  .of (owner := "set_iterator") (n := "__iter__") (by rw [typeLookup_type, builtinLookup_eq_fast]; kernel_rfl) (by decide +kernel) (by decide +kernel) (by decide +kernel)
    (by first | exact .inl (by decide +kernel) | exact .inr (by decide +kernel)) (by rw [isSubtype_type]; kernel_rfl)
theorem args_si_iter (a : Value) : argsOk "set_iterator.__iter__" ⟨[a], []⟩ := by
  unfold argsOk; rw [signature?_of (id := "set_iterator.__iter__") (n := ['_', '_', 'r', 'e', 't', 'i', '_', '_']) (o := ['r','o','t','a','r','e','t','i','_','t','e','s']) (by kernel_rfl) owner_si]; kernel_rfl
theorem entry_si_iter : entryFor table "set_iterator.__iter__" = some Builtin.«dict_keyiterator.__iter__» :=
  entryFor_alias (id' := "dict_keyiterator.__iter__") (by kernel_rfl) (by first | rfl | decide +kernel | (unfold String.splitOn; simp +decide [String.splitOnAux])) (by decide +kernel) (by kernel_rfl)
theorem entry_set_iter : entryFor table "set.__iter__" = some Builtin.«frozenset.__iter__» :=
  entryFor_alias (id' := "frozenset.__iter__") (by kernel_rfl) (by first | rfl | decide +kernel | (unfold String.splitOn; simp +decide [String.splitOnAux])) (by decide +kernel) (by kernel_rfl)
def IsSetIter (h : Heap) (it S : Addr) (slot i n ep : Nat) : Prop := ∃ o, h.get? it = some o ∧ o.cls = .type "set_iterator" ∧ o.data = .fields #[.int slot 0, .int i 0, .ref S, .int n 0, .int ep 0]
theorem IsSetIter.at {h h' : Heap} {it S : Addr} {slot i n ep : Nat} (x : IsSetIter h it S slot i n ep) (e : ∀ o, h.get? it = some o → h'.get? it = some o) : IsSetIter h' it S slot i n ep := let ⟨o, ho, r⟩ := x; ⟨o, e _ ho, r⟩
theorem IsSetIter.typeIs {s : Shared} {it S : Addr} {slot i n ep : Nat} (x : IsSetIter s.heap it S slot i n ep) : s.TypeIs (.ref it) "set_iterator" := let ⟨o, ho, hc, _⟩ := x; ⟨o, ho, hc⟩
def slotAt (ks : List Int) : Nat → Nat
  | 0 => 0
  | j + 1 => (ks.getD j 0).toNat + 1
def SlotOk (w : World) (ks : List Int) (slot i : Nat) : Prop := w.params.followText "set-order" = false → slot = slotAt ks i
section
variable {prog : Program} {w : World} {A : Around} {E : Value → Shared → Prop} {s : Shared} {a S it : Addr} {o : Obj} {ks : List Int} {es : Array (Int × Value)} {ep slot i : Nat}
theorem walk_size (h : Ents es ks) : (walkOf w a ep es).size = ks.length := by rw [← Array.length_toList, (walk_perm w a ep es).length_eq, Array.length_toList, h.size]
theorem setNext_C {Q : Option (Value × Nat) → Shared → Prop} (ho : s.heap.get? a = some o) (hs : ks ∈ subs) (hd : o.data = .set es ep (tab (ledOf w) ks)) (he : Ents es ks) (hsl : SlotOk w ks slot i) (hi : i ≤ ks.length)
    (h : ∀ next, (i < ks.length → SlotOk w ks next (i + 1)) → Q (((walkOf w a ep es)[i]?).map fun e => (e.2, next)) s) :
    wpAny (model prog w) A (setNext a slot i ep) Q E s := by
  have hf : (tab (ledOf w) ks).fits es.size = true := by rw [he.size]; exact fit_ok _ hs
  unfold setNext
  refine wpAny_bind (wpAny_setState_of ho hd hf ?_)
  dsimp only
  unfold setsByText
  refine wpAny_bind (wpAny_bind (wpAny_askSetting (wpAny_pure ?_)))
  show wpAny _ _ (if w.params.followText "set-order" = true then _ else _) _ _ _
  cases hb : w.params.followText "set-order" with
  | true =>
    simp only [↓reduceIte]
    rw [if_neg (by simp)]
    refine wpAny_bind (setWalk_C ho hs hd he ?_)
    exact wpAny_pure (h slot fun _ hn => by rw [hb] at hn; cases hn)
  | false =>
    simp only [Bool.false_eq_true, ↓reduceIte]
    have hw : walkOf w a ep es = es := by unfold walkOf; rw [hb]; rfl
    rw [hw] at h
    refine KFB.if_not (by show (!(tab (ledOf w) ks).plain && decide (es.size > 1)) = false; simp [tab]) ?_
    refine wpAny_bind ?_
    refine KFB.if_not (by show (!(tab (ledOf w) ks).led && !es.isEmpty) = false; simp [tab, hb]) ?_
    refine wpAny_pure ?_
    have hbel : SetTable.below (tab (ledOf w) ks).place slot = i := by
      have := next_ok (ledOf w) hs hi
      unfold nextOk at this
      rw [beq_iff_eq] at this
      rw [hsl hb]
      cases i <;> exact this
    rw [hbel]
    rcases Nat.lt_or_ge i ks.length with hlt | hge
    · have hlt' : i < es.size := by rw [he.size]; exact hlt
      have h1 : es[i]? = some es[i] := Array.getElem?_eq_getElem hlt'
      have h2 : (tab (ledOf w) ks).place[i]? = some (ks[i].toNat) := by simp [tab, hlt]
      rw [h1, h2]
      have := h (ks[i].toNat + 1) fun _ _ => by unfold slotAt; simp [List.getD, hlt]
      rw [h1] at this
      exact wpAny_pure this
    · have h1 : es[i]? = none := Array.getElem?_eq_none (by rw [he.size]; exact hge)
      rw [h1]
      have := h 0 fun hlt => absurd hlt (by omega)
      rw [h1] at this
      exact wpAny_pure this
theorem si_item {e : Int × Value} {Q : Option Value → Shared → Prop} (hit : IsSetIter s.heap it S slot i ks.length ep) (ho : s.heap.get? S = some o) (hs : ks ∈ subs) (hd : o.data = .set es ep (tab (ledOf w) ks)) (he : Ents es ks) (hsl : SlotOk w ks slot i)
    (hx : (walkOf w S ep es)[i]? = some e) (hQ : ∀ next h', SlotOk w ks next (i + 1) → IsSetIter h' it S next (i + 1) ks.length ep → Heap.SameBut it s.heap h' → Q (some e.2) { s with heap := h' }) :
    wpAny (model prog w) A (pyNext (.ref it)) Q E s := by
  obtain ⟨oi, hoi, hci, hdi⟩ := id hit
  have hf : (tab (ledOf w) ks).fits es.size = true := by rw [he.size]; exact fit_ok _ hs
  have hi : i < ks.length := by
    rw [← walk_size (w := w) (a := S) (ep := ep) he]
    exact (Array.getElem?_eq_some_iff.mp hx).1
  unfold pyNext
  refine wpAny_bind (wpAny_attempt (wpAny_callSpecial?_slot (name := Str.ofString "__next__") hit.typeIs slot_si_next (wpAny_call_entry slot_si_next hit.typeIs entry_si_next ?_ (args_si_next _))))
  unfold Builtin.«set_iterator.__next__»
  refine wpAny_bind (wpAny_pure ?_)
  refine wpAny_bind (wpAny_fieldsOf hoi hdi ?_)
  dsimp only
  refine wpAny_bind (wpAny_setEntries_of ho hd hf ?_)
  rw [if_neg (by rw [he.size]; simp)]
  try refine wpAny_bind (wpAny_pure ?_)
  dsimp only [Int.toNat_natCast]
  refine wpAny_bind (setNext_C ho hs hd he hsl (Nat.le_of_lt hi) fun next hn => ?_)
  rw [hx]
  dsimp only [Option.map]
  refine wpAny_bind (wpAny_setField hoi hdi (by simp) ?_)
  have hg1 : (s.heap.update it (Obj.mapFields (·.setIfInBounds 0 (rawInt next)))).get? it = some (Obj.mapFields (·.setIfInBounds 0 (rawInt next)) oi) := Heap.get?_update_self _ hoi (Obj.isFreed_of_fields (Obj.data_mapFields hdi _))
  have hd1 := Obj.data_mapFields hdi (·.setIfInBounds 0 (rawInt (next : Int)))
  refine wpAny_bind (wpAny_setField hg1 hd1 (by simp) ?_)
  refine wpAny_pure ⟨_, rfl, wpAny_pure ?_⟩
  refine (hQ next _ (hn hi) ⟨_, Heap.get?_update_self _ hg1 (Obj.isFreed_of_fields (Obj.data_mapFields hd1 _)), (Obj.cls_mapFields ..).trans ((Obj.cls_mapFields ..).trans hci), ?_⟩ ((Heap.SameBut.update ..).trans (Heap.SameBut.update ..)))
  rw [Obj.data_mapFields hd1]; simp [rawInt]
theorem si_end {Q : Option Value → Shared → Prop} (hh : A.handled = none) (hit : IsSetIter s.heap it S slot ks.length ks.length ep) (ho : s.heap.get? S = some o) (hs : ks ∈ subs) (hd : o.data = .set es ep (tab (ledOf w) ks)) (he : Ents es ks) (hsl : SlotOk w ks slot ks.length)
    (hQ : ∀ h', Heap.ExtBut it s.heap h' → Q none { s with heap := h' }) : wpAny (model prog w) A (pyNext (.ref it)) Q E s := by
  obtain ⟨oi, hoi, hci, hdi⟩ := id hit
  have hf : (tab (ledOf w) ks).fits es.size = true := by rw [he.size]; exact fit_ok _ hs
  unfold pyNext
  refine wpAny_bind (wpAny_attempt (wpAny_callSpecial?_slot (name := Str.ofString "__next__") hit.typeIs slot_si_next (wpAny_call_entry slot_si_next hit.typeIs entry_si_next ?_ (args_si_next _))))
  unfold Builtin.«set_iterator.__next__»
  refine wpAny_bind (wpAny_pure ?_)
  refine wpAny_bind (wpAny_fieldsOf hoi hdi ?_)
  dsimp only
  refine wpAny_bind (wpAny_setEntries_of ho hd hf ?_)
  rw [if_neg (by rw [he.size]; simp)]
  try refine wpAny_bind (wpAny_pure ?_)
  dsimp only [Int.toNat_natCast]
  refine wpAny_bind (setNext_C ho hs hd he hsl (Nat.le_refl _) fun next hn => ?_)
  rw [Array.getElem?_eq_none (by rw [walk_size he]; exact Nat.le_refl _)]
  dsimp only [Option.map]
  refine wpAny_bind (wpAny_setField hoi hdi (by simp) ?_)
  show wpAny _ _ (newExc (.type "StopIteration") [] >>= _) _ _ _
  refine wpAny_bind ?_
  simp only [newExc, newTuple]
  refine wpAny_bind (wpAny_newObj_type ?_ (by size_fits))
  refine wpAny_bind (m := firstArgMember _ _) (wpAny_of_eq (a := Value.none) (by first | rfl | (simp only [firstArgMember]; rfl)) ?_)
  refine wpAny_newObj_type ?_ (by size_fits)
  simp only [raiseNew]
  refine wpAny_bind (wpAny_handled ?_)
  rw [show A.in1.handled = none from hh]
  first
    | refine wpAny_throw ?_
    | refine wpAny_bind (wpAny_pure (wpAny_throw ?_))
  refine wpAny_bind (wpAny_isInstance (T := "StopIteration") (b := true) ⟨_, Heap.get?_push_size _ rfl, rfl⟩ isSubtype_stop ?_)
  exact wpAny_pure (hQ _ (((Heap.SameBut.update ..).extBut.push _).push _))
theorem si_self {i n : Nat} {Q : Value → Shared → Prop} (hit : IsSetIter s.heap it S slot i n ep) (h : Q (.ref it) s) : wpAny (model prog w) A (pyIter (.ref it)) Q E s := by
  refine wpAny_pyIter_slot hit.typeIs slot_si_iter (wpAny_call_entry slot_si_iter hit.typeIs entry_si_iter ?_ (args_si_iter _))
  show wpAny _ _ (ret (.ref it)) _ _ s
  exact wpAny_pure ⟨_, rfl, "set_iterator", _, hit.typeIs, slot_si_next.lookup, h⟩
/-- the ints of a set as they are walked -/
def walkKs (w : World) (S : Addr) (ep : Nat) (es : Array (Int × Value)) : List Int := (walkOf w S ep es).toList.map (·.1)
theorem walkKs_perm (he : Ents es ks) : (walkKs w S ep es).Perm ks := by
  have := (walk_perm w S ep es).map (fun e : Int × Value => e.1)
  rw [he.1] at this
  exact this
theorem walkKs_get (he : Ents es ks) {e : Int × Value} (h : (walkOf w S ep es)[i]? = some e) : ∃ k t, (walkKs w S ep es)[i]? = some k ∧ e.2 = .int k t := by
  have hm : e ∈ es.toList := (walk_perm w S ep es).mem_iff.mp (by
    have := List.mem_of_getElem? (show (walkOf w S ep es).toList[i]? = some e by rw [Array.getElem?_toList]; exact h)
    exact this)
  obtain ⟨t, ht⟩ := he.2 e hm
  refine ⟨e.1, t, ?_, ht⟩
  unfold walkKs
  rw [List.getElem?_map, Array.getElem?_toList, h]; rfl
theorem walks_set (hh : A.handled = none) (I S : Addr) (hne : S ≠ I) (hs : ks ∈ subs) (hd : o.data = .set es ep (tab (ledOf w) ks)) (he : Ents es ks) :
    Walks prog w A I [I, S] [I] ks.length (fun i v => ∃ e, (walkOf w S ep es)[i]? = some e ∧ v = e.2) (fun i h => ∃ slot, SlotOk w ks slot i ∧ IsSetIter h I S slot i ks.length ep ∧ h.get? S = some o) where
  sub := fun b hb => by simp at hb; simp [hb]
  frame := fun _ _ _ ⟨slot, h1, h2, h3⟩ hk => ⟨slot, h1, h2.at fun o e => hk I (by simp) o e, hk S (by simp) _ h3⟩
  item := fun i s Q E hi ⟨slot, h1, h2, h3⟩ hQ => by
    have hlt : i < (walkOf w S ep es).size := by rw [walk_size he]; exact hi
    refine si_item h2 h3 hs hd he h1 (Array.getElem?_eq_getElem hlt) fun next h' a b c => ?_
    refine hQ _ h' s.toks ⟨_, Array.getElem?_eq_getElem hlt, rfl⟩ ⟨next, a, b, (c.2 S hne).trans h3⟩ fun b' o' hb e => (c.2 b' (fun q => hb (by rw [q]; exact .head _))).trans e
  done := fun s Q E ⟨slot, h1, h2, h3⟩ hQ => si_end hh h2 h3 hs hd he h1 fun h' x => hQ h' s.toks fun b o hb e => x b o (fun q => hb (by rw [q]; exact .head _)) e
  self := fun i s Q E ⟨slot, h1, h2, h3⟩ hQ => si_self h2 hQ
theorem pyIter_set {Q : Value → Shared → Prop} (ho : s.heap.get? S = some o) (hc : o.cls = .type "set") (hs : ks ∈ subs) (hd : o.data = .set es ep (tab (ledOf w) ks)) (he : Ents es ks)
    (h : ∀ oI, oI.isFreed = false → IsSetIter (s.heap.push oI) s.heap.objs.size S 0 0 ks.length ep → Q (.ref s.heap.objs.size) { s with heap := s.heap.push oI }) :
    wpAny (model prog w) A (pyIter (.ref S)) Q E s := by
  have hT : s.TypeIs (.ref S) "set" := ⟨o, ho, hc⟩
  have hf : (tab (ledOf w) ks).fits es.size = true := by rw [he.size]; exact fit_ok _ hs
  refine wpAny_pyIter_slot hT PySem.F.slot_set_iter (wpAny_call_entry PySem.F.slot_set_iter hT entry_set_iter ?_ (PySem.F.args_set_iter_1 _))
  unfold Builtin.«frozenset.__iter__»
  refine wpAny_bind ?_
  unfold Builtin.Frozenset.slot0
  refine wpAny_bind (wpAny_pure ?_)
  refine wpAny_pure ?_
  refine wpAny_bind ?_
  unfold Builtin.Frozenset.sizeOf
  refine wpAny_bind (wpAny_setEntries_of ho hd hf (wpAny_pure ?_))
  refine wpAny_bind ?_
  unfold setDrawn
  refine wpAny_bind (wpAny_setState_of ho hd hf ?_)
  dsimp only
  unfold setsByText
  refine wpAny_bind (wpAny_bind (wpAny_askSetting (wpAny_pure ?_)))
  refine wpAny_pure ?_
  refine KFB.if_not (by show (!w.params.followText "set-order" && (!(tab (ledOf w) ks).plain && decide (es.size > 1))) = false; simp [tab]) ?_
  refine wpAny_bind (wpAny_pure ?_)
  refine wpAny_bind (wpAny_setEpoch_of ho hd hf ?_)
  refine wpAny_bind (wpAny_newObj_type (wpAny_pure ⟨_, rfl, "set_iterator", _, ⟨_, Heap.get?_push_size _ rfl, rfl⟩, slot_si_next.lookup, ?_⟩))
  rw [he.size]
  exact h _ rfl ⟨_, Heap.get?_push_size _ rfl, rfl, by simp [rawInt]⟩
theorem slot_zero : SlotOk w ks 0 0 := fun _ => rfl
end

-- part SetAnd
/-! & of keys and sets -/
theorem mroOf_dk : mroOf (.type "dict_keys") = pure [.type "dict_keys", .type "object"] := by rw [mroOf_type]; kernel_rfl
theorem mroOf_setT : mroOf (.type "set") = pure [.type "set", .type "object"] := by rw [mroOf_type]; kernel_rfl
theorem sub_dk_set : isSubtype (.type "dict_keys") (.type "set") = pure false := by rw [isSubtype_type]; kernel_rfl
theorem sub_dk_frozen : isSubtype (.type "dict_keys") (.type "frozenset") = pure false := by rw [isSubtype_type]; kernel_rfl
theorem slot_dk_and : Slot "dict_keys" (dunder "and") "dict_keys.__and__" :=
  .of (owner := "dict_keys") (n := "__and__") (by rw [typeLookup_type, builtinLookup_eq_fast]; kernel_rfl) (by decide +kernel) (by decide +kernel) (by decide +kernel)
    (by first | exact .inl (by decide +kernel) | exact .inr (by decide +kernel)) (by rw [isSubtype_type]; kernel_rfl)
theorem slot_dk_rand : Slot "dict_keys" (dunderR "and") "dict_keys.__rand__" :=
  .of (owner := "dict_keys") (n := "__rand__") (by rw [typeLookup_type, builtinLookup_eq_fast]; kernel_rfl) (by decide +kernel) (by decide +kernel) (by decide +kernel)
    (by first | exact .inl (by decide +kernel) | exact .inr (by decide +kernel)) (by rw [isSubtype_type]; kernel_rfl)
theorem slot_dk_len : Slot "dict_keys" "__len__" "dict_keys.__len__" :=
  .of (owner := "dict_keys") (n := "__len__") (by rw [typeLookup_type, builtinLookup_eq_fast]; kernel_rfl) (by decide +kernel) (by decide +kernel) (by decide +kernel)
    (by first | exact .inl (by decide +kernel) | exact .inr (by decide +kernel)) (by rw [isSubtype_type]; kernel_rfl)
theorem iand_dk : typeLookup (.type "dict_keys") (dunderI "and") = pure none := by rw [typeLookup_type, builtinLookup_eq_fast]; kernel_rfl
theorem fills_dk_and : fillsNumberSlot (.type "dict_keys") "and" = pure true :=
  fillsNumberSlot_of (id := "dict_keys.__and__") (r := some (.builtin "dict_keys.__rand__")) slot_dk_and.lookup (by decide +kernel) slot_dk_rand.lookup
theorem entry_dk_and : entryFor table "dict_keys.__and__" = some Builtin.«dict_items.__and__» :=
  entryFor_alias (id' := "dict_items.__and__") (by kernel_rfl) (by first | rfl | decide +kernel | (unfold String.splitOn; simp +decide [String.splitOnAux])) (by decide +kernel) (by kernel_rfl)
theorem entry_dk_rand : entryFor table "dict_keys.__rand__" = some Builtin.«dict_items.__rand__» :=
  entryFor_alias (id' := "dict_items.__rand__") (by kernel_rfl) (by first | rfl | decide +kernel | (unfold String.splitOn; simp +decide [String.splitOnAux])) (by decide +kernel) (by kernel_rfl)
theorem entry_dk_len : entryFor table "dict_keys.__len__" = some Builtin.«dict_items.__len__» :=
  entryFor_alias (id' := "dict_items.__len__") (by kernel_rfl) (by first | rfl | decide +kernel | (unfold String.splitOn; simp +decide [String.splitOnAux])) (by decide +kernel) (by kernel_rfl)
theorem args_dk_and (a b : Value) : argsOk "dict_keys.__and__" ⟨[a, b], []⟩ := by
  unfold argsOk; rw [signature?_of (id := "dict_keys.__and__") (n := ['_', '_', 'd', 'n', 'a', '_', '_']) (o := ['s', 'y', 'e', 'k', '_', 't', 'c', 'i', 'd']) (by kernel_rfl) kdl_owner_keys]; kernel_rfl
theorem args_dk_rand (a b : Value) : argsOk "dict_keys.__rand__" ⟨[a, b], []⟩ := by
  unfold argsOk; rw [signature?_of (id := "dict_keys.__rand__") (n := ['_', '_', 'd', 'n', 'a', 'r', '_', '_']) (o := ['s', 'y', 'e', 'k', '_', 't', 'c', 'i', 'd']) (by kernel_rfl) kdl_owner_keys]; kernel_rfl
theorem args_dk_len (a : Value) : argsOk "dict_keys.__len__" ⟨[a], []⟩ := by
  unfold argsOk; rw [signature?_of (id := "dict_keys.__len__") (n := ['_', '_', 'n', 'e', 'l', '_', '_']) (o := ['s', 'y', 'e', 'k', '_', 't', 'c', 'i', 'd']) (by kernel_rfl) kdl_owner_keys]; kernel_rfl
theorem entry_andl : entryFor table "dict_items.__and__.loop" = some Builtin.«dict_items.__and__.loop» := entryFor_of_tree (by kernel_rfl)
theorem plain_andl : plainId "dict_items.__and__.loop" = true := by decide +kernel
theorem entry_intl : entryFor table "frozenset.intersection.loop" = some Builtin.«frozenset.intersection.loop» := entryFor_of_tree (by kernel_rfl)
theorem plain_intl : plainId "frozenset.intersection.loop" = true := by decide +kernel
theorem entry_set_and : entryFor table "set.__and__" = some Builtin.«frozenset.__and__» :=
  entryFor_alias (id' := "frozenset.__and__") (by kernel_rfl) (by first | rfl | decide +kernel | (unfold String.splitOn; simp +decide [String.splitOnAux])) (by decide +kernel) (by kernel_rfl)
theorem entry_set_inter : entryFor table "set.intersection" = some Builtin.«frozenset.intersection» :=
  entryFor_alias (id' := "frozenset.intersection") (by kernel_rfl) (by first | rfl | decide +kernel | (unfold String.splitOn; simp +decide [String.splitOnAux])) (by decide +kernel) (by kernel_rfl)
section
variable {prog : Program} {w : World} {A : Around} {E : Value → Shared → Prop} {s : Shared} {v d S I : Addr} {ks2 ks : List Int} {ep : Nat} {k : Int} {t : Tok} {o : Obj}
theorem oneOf_dk {types : List String} {Q : Bool → Shared → Prop} (hT : s.TypeIs (.ref v) "dict_keys")
    (h : Q (types.any fun t => [Value.type "dict_keys", Value.type "object"].contains (.type t)) s) : wpAny (model prog w) A (Builtin.Dict_items.isOneOf (.ref v) types) Q E s := by
  unfold Builtin.Dict_items.isOneOf
  refine wpAny_bind (wpAny_typeOf hT ?_)
  rw [mroOf_dk]
  exact wpAny_bind (wpAny_pure (wpAny_pure h))
theorem oneOf_set {types : List String} {Q : Bool → Shared → Prop} (hT : s.TypeIs (.ref v) "set")
    (h : Q (types.any fun t => [Value.type "set", Value.type "object"].contains (.type t)) s) : wpAny (model prog w) A (Builtin.Dict_items.isOneOf (.ref v) types) Q E s := by
  unfold Builtin.Dict_items.isOneOf
  refine wpAny_bind (wpAny_typeOf hT ?_)
  rw [mroOf_setT]
  exact wpAny_bind (wpAny_pure (wpAny_pure h))
theorem dk_dictOf {Q : Addr → Shared → Prop} (hv : KdlKeysView s.heap v d) (h : Q d s) : wpAny (model prog w) A (Builtin.Dict_items.dictOf (.ref v)) Q E s := by
  obtain ⟨ov, hov, hcv, hdv⟩ := hv
  unfold Builtin.Dict_items.dictOf
  exact wpAny_bind (wpAny_field hov hdv (x := .ref d) rfl (wpAny_pure h))
theorem view_contains {Q : Bool → Shared → Prop} (hv : KdlKeysView s.heap v d) (hm : s.heap.DictAt (IK w) d (kv ks2) ep) (h : Q (decide (k ∈ ks2)) { s with toks := s.toks + 1 }) :
    wpAny (model PySem.Challenge.rw_bq0028_01.row.prog w) A (Builtin.Dict_items.viewContains (.ref v) (.int k t)) Q E s := by
  unfold Builtin.Dict_items.viewContains
  refine wpAny_bind (oneOf_dk hv.typeIs ?_)
  refine KFB.if_so (by decide) ?_
  unfold Builtin.Dict_items.keysContain
  refine wpAny_bind (dk_dictOf hv ?_)
  have hD : s.heap.DictOf (IK w) d (kv ks2) := let ⟨o, es, ho, r⟩ := hm; ⟨o, es, ep, ho, r⟩
  refine wpAny_bind (wpAny_dictGet_of (knd := IK w) (k := k) (intKind_is _ _ _ _) hD.mapOf ?_)
  refine wpAny_pure ?_
  rw [valueAt_kv]
  by_cases hk : k ∈ ks2
  · rw [if_pos hk]; rw [decide_eq_true hk] at h; exact h
  · rw [if_neg hk]; rw [decide_eq_false hk] at h; exact h
end
section
variable {w : World} {A : Around} {E : Value → Shared → Prop} {v d S I S0 : Addr} {fp : List Addr} {ns ks2 ss : List Int} {ep : Nat} {P : Nat → Value → Prop} {St : Nat → Heap → Prop} {R : Result → Shared → Prop} {o0 : Obj}
theorem and_loop (W : Walks PySem.Challenge.rw_bq0028_01.row.prog w A.in1 I fp [I] ns.length P St) (hP : ∀ i v, P i v → ∃ k t, ns[i]? = some k ∧ v = .int k t) (hSf : S ∉ fp) (hSI : S ≠ I) (hvI : v ≠ I) (hdI : d ≠ I) (hvS : v ≠ S) (hdS : d ≠ S) (hsm : ∀ k ∈ ns, 0 ≤ k ∧ k < 6) :
    ∀ (j i : Nat) (s : Shared) (o : Obj) (rs : List Int), ns.length - i = j → i ≤ ns.length → St i s.heap → s.heap.get? S = some o → CanSet w o rs → (∀ k, k ∈ rs ↔ k ∈ ns.take i ∧ k ∈ ks2) → KdlKeysView s.heap v d → s.heap.DictAt (IK w) d (kv ks2) ep →
      (∀ h' tk o' rs', h'.get? S = some o' → CanSet w o' rs' → (∀ k, k ∈ rs' ↔ k ∈ ns ∧ k ∈ ks2) → (∀ b o, b ≠ S → b ≠ I → s.heap.get? b = some o → h'.get? b = some o) → R (.ok (.ret (.ref S))) { s with heap := h', toks := tk }) →
      codeAny (model PySem.Challenge.rw_bq0028_01.row.prog w) A (.builtin "dict_items.__and__.loop" ⟨[.ref v, .ref I, .ref S], []⟩) R s := by
  intro j
  induction j with
  | zero =>
    intro i s o rs hj hi hst ho hc hrs hv hm hR
    have hin : i = ns.length := by omega
    subst hin
    refine codeAny_builtin entry_andl ?_
    rw [Around.under_plainId plain_andl _]
    show wpAny _ A.in1 (pyNext (.ref I) >>= _) _ _ s
    refine wpAny_bind (W.done s _ _ hst fun h' tk hk => ?_)
    rw [List.take_length] at hrs
    exact wpAny_pure (hR h' tk o rs (hk S o (by simpa using hSI) ho) hc hrs fun b o hb hI e => hk b o (by simpa using hI) e)
  | succ j ih =>
    intro i s o rs hj hi hst ho hc hrs hv hm hR
    have hlt : i < ns.length := by omega
    refine codeAny_builtin entry_andl ?_
    rw [Around.under_plainId plain_andl _]
    show wpAny _ A.in1 (pyNext (.ref I) >>= _) _ _ s
    refine wpAny_bind (W.item i s _ _ hlt hst fun x h' tk hx hst' hk => ?_)
    obtain ⟨k, t, hki, rfl⟩ := hP i x hx
    have hkn : k ∈ ns := List.mem_of_getElem? hki
    have ho' : h'.get? S = some o := hk S o (by simpa using hSI) ho
    have hv' : KdlKeysView h' v d := let ⟨ov, h1, h2⟩ := hv; ⟨ov, hk v ov (by simpa using hvI) h1, h2⟩
    have hm' : h'.DictAt (IK w) d (kv ks2) ep := hm.at' fun o e => hk d o (by simpa using hdI) e
    have htk : ∀ a, a ∈ ns.take (i + 1) ↔ a ∈ ns.take i ∨ a = k := by intro a; rw [List.take_add_one, hki]; simp
    refine wpAny_bind ?_
    refine wpAny_holding ?_
    refine wpAny_bind (view_contains (s := ⟨h', s.gens, s.drawn, tk, s.os⟩) hv' hm' ?_)
    by_cases hk2 : k ∈ ks2
    · rw [decide_eq_true hk2]
      refine KFB.if_so rfl ?_
      refine wpAny_bind ?_
      unfold setAdd
      refine wpAny_holding (wpAny_bind ((intKind PySem.Challenge.rw_bq0028_01.row.prog w).pyHash (k := k) (intKind_is _ _ _ _) ?_))
      rw [hash_small (hsm k hkn)]
      refine setAdd_C (s := ⟨h', s.gens, s.drawn, tk + 1 + 1, s.os⟩) ho' hc (hsm k hkn) fun h'' o'' b hsb hg hc' => ?_
      refine wpAny_pure (wpAny_pure ⟨plainId_quiet plain_andl _, ?_⟩)
      have hk'' : ∀ b ob, b ≠ S → h'.get? b = some ob → h''.get? b = some ob := fun b ob hb e => (hsb.2 b hb).trans e
      refine ih (i + 1) ⟨h'', s.gens, s.drawn, tk + 1 + 1, s.os⟩ o'' _ (by omega) hlt (W.frame _ _ _ hst' fun b hb ob e => hk'' b ob (fun q => hSf (q ▸ hb)) e) hg hc' ?_ ?_ ?_ fun h3 tk3 o3 rs3 a1 a2 a3 a4 => ?_
      · intro a
        rw [htk]
        by_cases hkr : k ∈ rs
        · rw [if_pos hkr, hrs]
          constructor
          · exact fun q => ⟨.inl q.1, q.2⟩
          · rintro ⟨q | rfl, q2⟩
            · exact ⟨q, q2⟩
            · exact (hrs a).mp hkr
        · rw [if_neg hkr, ins_mem, hrs]
          constructor
          · rintro (rfl | q)
            · exact ⟨.inr rfl, hk2⟩
            · exact ⟨.inl q.1, q.2⟩
          · rintro ⟨q | rfl, q2⟩
            · exact .inr ⟨q, q2⟩
            · exact .inl rfl
      · obtain ⟨ov, h1, h2⟩ := hv'; exact ⟨ov, hk'' v ov hvS h1, h2⟩
      · exact hm'.at' fun o e => hk'' d o hdS e
      · exact hR h3 tk3 o3 rs3 a1 a2 a3 fun b ob hb hI e => a4 b ob hb hI (hk'' b ob hb (hk b ob (by simpa using hI) e))
    · rw [decide_eq_false hk2]
      refine KFB.if_not rfl ?_
      refine wpAny_pure (wpAny_pure ⟨plainId_quiet plain_andl _, ?_⟩)
      refine ih (i + 1) ⟨h', s.gens, s.drawn, tk + 1, s.os⟩ o rs (by omega) hlt hst' ho' hc ?_ hv' hm' fun h3 tk3 o3 rs3 a1 a2 a3 a4 => ?_
      · intro a
        rw [htk, hrs]
        constructor
        · exact fun q => ⟨.inl q.1, q.2⟩
        · rintro ⟨q | rfl, q2⟩
          · exact ⟨q, q2⟩
          · exact absurd q2 hk2
      · exact hR h3 tk3 o3 rs3 a1 a2 a3 fun b ob hb hI e => a4 b ob hb hI (hk b ob (by simpa using hI) e)
theorem inter_loop (W : Walks PySem.Challenge.rw_bq0028_01.row.prog w A.in1 I fp [I] ns.length P St) (hP : ∀ i v, P i v → ∃ k t, ns[i]? = some k ∧ v = .int k t) (hSf : S ∉ fp) (hSI : S ≠ I) (h0I : S0 ≠ I) (h0S : S0 ≠ S) (hsm : ∀ k ∈ ns, 0 ≤ k ∧ k < 6) (c0 : CanSet w o0 ss) :
    ∀ (j i : Nat) (s : Shared) (o : Obj) (rs : List Int), ns.length - i = j → i ≤ ns.length → St i s.heap → s.heap.get? S = some o → CanSet w o rs → (∀ k, k ∈ rs ↔ k ∈ ns.take i ∧ k ∈ ss) → s.heap.get? S0 = some o0 →
      (∀ h' tk o' rs', h'.get? S = some o' → CanSet w o' rs' → (∀ k, k ∈ rs' ↔ k ∈ ns ∧ k ∈ ss) → (∀ b o, b ≠ S → b ≠ I → s.heap.get? b = some o → h'.get? b = some o) → R (.ok (.ret .none)) { s with heap := h', toks := tk }) →
      codeAny (model PySem.Challenge.rw_bq0028_01.row.prog w) A (.builtin "frozenset.intersection.loop" ⟨[.ref S0, .ref I, .ref S], []⟩) R s := by
  intro j
  induction j with
  | zero =>
    intro i s o rs hj hi hst ho hc hrs h0 hR
    have hin : i = ns.length := by omega
    subst hin
    refine codeAny_builtin entry_intl ?_
    rw [Around.under_plainId plain_intl _]
    show wpAny _ A.in1 (pyNext (.ref I) >>= _) _ _ s
    refine wpAny_bind (W.done s _ _ hst fun h' tk hk => ?_)
    rw [List.take_length] at hrs
    exact wpAny_pure (hR h' tk o rs (hk S o (by simpa using hSI) ho) hc hrs fun b o hb hI e => hk b o (by simpa using hI) e)
  | succ j ih =>
    intro i s o rs hj hi hst ho hc hrs h0 hR
    have hlt : i < ns.length := by omega
    refine codeAny_builtin entry_intl ?_
    rw [Around.under_plainId plain_intl _]
    show wpAny _ A.in1 (pyNext (.ref I) >>= _) _ _ s
    refine wpAny_bind (W.item i s _ _ hlt hst fun x h' tk hx hst' hk => ?_)
    obtain ⟨k, t, hki, rfl⟩ := hP i x hx
    have hkn : k ∈ ns := List.mem_of_getElem? hki
    have ho' : h'.get? S = some o := hk S o (by simpa using hSI) ho
    have h0' : h'.get? S0 = some o0 := hk S0 o0 (by simpa using h0I) h0
    have htk : ∀ a, a ∈ ns.take (i + 1) ↔ a ∈ ns.take i ∨ a = k := by intro a; rw [List.take_add_one, hki]; simp
    refine wpAny_bind (wpAny_holding ((intKind PySem.Challenge.rw_bq0028_01.row.prog w).pyHash (k := k) (intKind_is _ _ _ _) ?_))
    refine wpAny_bind (wpAny_holding (wpAny_setFind_of (knd := intKind PySem.Challenge.rw_bq0028_01.row.prog w) (s := ⟨h', s.gens, s.drawn, tk + 1, s.os⟩) (intKind_is _ _ _ _) rfl (c0.setOf h0') fun r hr => ?_))
    by_cases hk2 : k ∈ ss
    · rw [decide_eq_true hk2] at hr
      refine KFB.if_so hr ?_
      refine wpAny_bind (wpAny_holding ?_)
      rw [hash_small (hsm k hkn)]
      refine setAdd_C (s := ⟨h', s.gens, s.drawn, tk + 1, s.os⟩) ho' hc (hsm k hkn) fun h'' o'' b hsb hg hc' => ?_
      have hk'' : ∀ b ob, b ≠ S → h'.get? b = some ob → h''.get? b = some ob := fun b ob hb e => (hsb.2 b hb).trans e
      have h0'' : h''.get? S0 = some o0 := hk'' S0 o0 h0S h0'
      have hmem : ∀ a, a ∈ (if k ∈ rs then rs else ins k rs) ↔ a ∈ ns.take (i + 1) ∧ a ∈ ss := by
        intro a
        rw [htk]
        by_cases hkr : k ∈ rs
        · rw [if_pos hkr, hrs]
          constructor
          · exact fun q => ⟨.inl q.1, q.2⟩
          · rintro ⟨q | rfl, q2⟩
            · exact ⟨q, q2⟩
            · exact (hrs a).mp hkr
        · rw [if_neg hkr, ins_mem, hrs]
          constructor
          · rintro (rfl | q)
            · exact ⟨.inr rfl, hk2⟩
            · exact ⟨.inl q.1, q.2⟩
          · rintro ⟨q | rfl, q2⟩
            · exact .inr ⟨q, q2⟩
            · exact .inl rfl
      generalize (if k ∈ rs then rs else ins k rs) = rs1 at hc' hmem
      obtain ⟨_, hs1, es1, ep1, hd1, he1⟩ := id hc'
      obtain ⟨_, hs0, es0, ep0, hd0, he0⟩ := id c0
      refine wpAny_bind ?_
      unfold Builtin.Frozenset.sizeOf
      refine wpAny_bind (wpAny_setEntries_of (s := ⟨h'', s.gens, s.drawn, tk + 1, s.os⟩) hg hd1 (by rw [he1.size]; exact fit_ok _ hs1) (wpAny_pure ?_))
      refine wpAny_bind (wpAny_bind (wpAny_setEntries_of (s := ⟨h'', s.gens, s.drawn, tk + 1, s.os⟩) h0'' hd0 (by rw [he0.size]; exact fit_ok _ hs0) (wpAny_pure ?_)))
      rw [he1.size, he0.size]
      by_cases hfull : rs1.length ≥ ss.length
      · rw [if_pos hfull]
        refine wpAny_bind (wpAny_rule (wpAny_pure ?_))
        refine hR h'' (tk + 1) o'' rs1 hg hc' ?_ fun b ob hb hI e => hk'' b ob hb (hk b ob (by simpa using hI) e)
        intro a
        constructor
        · exact fun q => ⟨List.mem_of_mem_take ((hmem a).mp q).1, ((hmem a).mp q).2⟩
        · rintro ⟨q1, q2⟩
          by_cases hin : a ∈ rs1
          · exact hin
          · have := nodup_le (l := a :: rs1) (l' := ss) (List.nodup_cons.mpr ⟨hin, (sub_facts hs1).1⟩) fun x hx => by
              rcases List.mem_cons.mp hx with rfl | hx
              · exact q2
              · exact ((hmem x).mp hx).2
            rw [List.length_cons] at this
            omega
      · rw [if_neg hfull]
        refine wpAny_pure ⟨plainId_quiet plain_intl _, ?_⟩
        refine ih (i + 1) ⟨h'', s.gens, s.drawn, tk + 1, s.os⟩ o'' rs1 (by omega) hlt (W.frame _ _ _ hst' fun b hb ob e => hk'' b ob (fun q => hSf (q ▸ hb)) e) hg hc' hmem h0'' fun h3 tk3 o3 rs3 a1 a2 a3 a4 => ?_
        exact hR h3 tk3 o3 rs3 a1 a2 a3 fun b ob hb hI e => a4 b ob hb hI (hk'' b ob hb (hk b ob (by simpa using hI) e))
    · rw [decide_eq_false hk2] at hr
      refine KFB.if_not hr ?_
      refine wpAny_pure ⟨plainId_quiet plain_intl _, ?_⟩
      refine ih (i + 1) ⟨h', s.gens, s.drawn, tk + 1, s.os⟩ o rs (by omega) hlt hst' ho' hc ?_ h0' fun h3 tk3 o3 rs3 a1 a2 a3 a4 => ?_
      · intro a
        rw [htk, hrs]
        constructor
        · exact fun q => ⟨.inl q.1, q.2⟩
        · rintro ⟨q | rfl, q2⟩
          · exact ⟨q, q2⟩
          · exact absurd q2 hk2
      · exact hR h3 tk3 o3 rs3 a1 a2 a3 fun b ob hb hI e => a4 b ob hb hI (hk b ob (by simpa using hI) e)
end
section
variable {w : World} {A : Around} {E : Value → Shared → Prop} {s : Shared} {v d v1 d1 v2 d2 S : Addr} {ks1 ks2 ks ss : List Int} {ep ep1 ep2 : Nat} {o : Obj}
theorem lenOf_dk {Q : Int → Shared → Prop} (hv : KdlKeysView s.heap v d) (hm : s.heap.DictAt (IK w) d (kv ks) ep) (hz : ks.length ≤ 1000) (h : Q ks.length { s with toks := s.toks + 1 + 1 }) :
    wpAny (model PySem.Challenge.rw_bq0028_01.row.prog w) A (Builtin.Dict_items.lenOf (.ref v)) Q E s := by
  obtain ⟨od, es, ho, hcd, hdat, hk, hp, hn⟩ := id hm
  have hsz : es.size = ks.length := by have := hp.length; rw [kv_length] at this; simpa using this
  unfold Builtin.Dict_items.lenOf
  refine wpAny_bind (Calls.call_function_entry (by decide +kernel) (by decide +kernel) entry_len (args_len1 _) ?_)
  unfold Builtin.«len»
  refine wpAny_bind (m := oneArg "len" _) (wpAny_pure ?_)
  refine wpAny_bind (m := callSpecial? (.ref v) (Str.ofString "__len__")) (wpAny_callSpecial?_slot (name := Str.ofString "__len__") hv.typeIs slot_dk_len (wpAny_call_entry slot_dk_len hv.typeIs entry_dk_len ?_ (args_dk_len _)))
  unfold Builtin.«dict_items.__len__»
  refine wpAny_bind ?_
  unfold Builtin.Dict_items.slot0
  refine wpAny_bind (wpAny_pure (wpAny_pure ?_))
  refine wpAny_bind (dk_dictOf hv ?_)
  refine wpAny_bind (wpAny_dictEntries ho hdat ?_)
  show wpAny _ _ (retInt _) _ _ _
  unfold retInt
  rw [hsz]
  refine wpAny_bind (wpAny_mkInt (wpAny_pure ⟨_, rfl, ?_⟩))
  refine wpAny_bind (wpAny_holding (wpAny_pure ?_))
  refine wpAny_bind (wpAny_letGo ?_)
  show wpAny _ _ (if ((ks.length : Nat) : Int) < 0 then _ else _) _ _ _
  rw [if_neg (by omega)]
  show wpAny _ _ (if ((ks.length : Nat) : Int) ≥ 2 ^ 63 then _ else _) _ _ _
  rw [if_neg (by omega)]
  exact wpAny_bind (wpAny_mkInt (wpAny_pure ⟨_, rfl, wpAny_bind (wpAny_pure (wpAny_pure h))⟩))
theorem lenOf_set {Q : Int → Shared → Prop} (ho : s.heap.get? S = some o) (c : CanSet w o ss) (h : Q ss.length { s with toks := s.toks + 1 + 1 }) :
    wpAny (model PySem.Challenge.rw_bq0028_01.row.prog w) A (Builtin.Dict_items.lenOf (.ref S)) Q E s := by
  obtain ⟨hex, hs, es, ep, hd, he⟩ := id c
  have h6 := (sub_facts hs).2.1
  unfold Builtin.Dict_items.lenOf
  refine wpAny_bind (call_len_set ho hex hd (by rw [he.size]; exact fit_ok _ hs) (by rw [he.size]; omega) ?_)
  rw [he.size]
  exact wpAny_bind (wpAny_pure (wpAny_pure h))
/-- what & leaves -/
def AndPost (w : World) (s : Shared) (ks1 ks2 : List Int) (Q : Value → Shared → Prop) : Prop :=
  ∀ (S : Addr) h' tk o rs, s.heap.objs.size ≤ S → h'.get? S = some o → CanSet w o rs → (∀ k, k ∈ rs ↔ k ∈ ks1 ∧ k ∈ ks2) → (∀ b o, s.heap.get? b = some o → h'.get? b = some o) → Q (.ref S) { s with heap := h', toks := tk }
theorem AndPost.swap {Q : Value → Shared → Prop} (h : AndPost w s ks1 ks2 Q) : AndPost w s ks2 ks1 Q :=
  fun S h' tk o rs a b c e f => h S h' tk o rs a b c (fun k => (e k).trans and_comm) f
theorem AndPost.toks {Q : Value → Shared → Prop} {n : Nat} (h : AndPost w s ks1 ks2 Q) : AndPost w { s with toks := n } ks1 ks2 Q :=
  fun S h' tk o rs a b c e f => h S h' tk o rs a b c e f
abbrev ctree (w : World) (A : Around) (R : Result → Shared → Prop) : Fin → Shared → Prop := fun fin s' => match fin with | .done f => R (.ok f) s' | .again c' => c'.quiet = true ∧ codeAny (model PySem.Challenge.rw_bq0028_01.row.prog w) A c' R s'
/-- the tail of & : a new set, and the loop over the second view -/
theorem and_tail {R : Result → Shared → Prop} (hh : A.handled = none) (hv1 : KdlKeysView s.heap v1 d1) (hm1 : s.heap.DictAt (IK w) d1 (kv ks1) ep1) (hv2 : KdlKeysView s.heap v2 d2) (hm2 : s.heap.DictAt (IK w) d2 (kv ks2) ep2) (hs2 : ∀ k ∈ ks2, 0 ≤ k ∧ k < 6)
    (h : AndPost w s ks2 ks1 fun v s' => R (.ok (.ret v)) s') :
    wpAny (model PySem.Challenge.rw_bq0028_01.row.prog w) A.in1 (do
      let result ← newSet (.type "set")
      again (.builtin "dict_items.__and__.loop" ⟨[.ref v1, ← holding [result] (pyIter (.ref v2)), result], []⟩)) (ctree w A R) (fun e s' => R (.error e) s') s := by
  refine wpAny_bind (newSet_C fun oS hfr cS => ?_)
  have k1 : ∀ b ob, s.heap.get? b = some ob → (s.heap.push oS).get? b = some ob := fun b ob e => Heap.get?_push_of_some _ e
  have hv1' : KdlKeysView (s.heap.push oS) v1 d1 := let ⟨a, b, c⟩ := hv1; ⟨a, k1 _ _ b, c⟩
  have hv2' : KdlKeysView (s.heap.push oS) v2 d2 := let ⟨a, b, c⟩ := hv2; ⟨a, k1 _ _ b, c⟩
  have hm1' : (s.heap.push oS).DictAt (IK w) d1 (kv ks1) ep1 := hm1.at' fun o e => k1 _ _ e
  have hm2' : (s.heap.push oS).DictAt (IK w) d2 (kv ks2) ep2 := hm2.at' fun o e => k1 _ _ e
  have l1 : ∀ b ob, s.heap.get? b = some ob → b ≠ s.heap.objs.size := fun b ob e => Nat.ne_of_lt (Heap.lt_size e)
  have l2 : ∀ b ob, s.heap.get? b = some ob → b ≠ (s.heap.push oS).objs.size := fun b ob e => Nat.ne_of_lt (Heap.lt_size (k1 b ob e))
  obtain ⟨_, hov1, _⟩ := id hv1
  obtain ⟨_, _, hod1, _⟩ := id hm1
  obtain ⟨_, _, hod2, _⟩ := id hm2
  have hSS : (s.heap.push oS).get? s.heap.objs.size = some oS := Heap.get?_push_size _ hfr
  refine wpAny_bind (wpAny_holding (kdl_pyIter_keys (s := { s with heap := s.heap.push oS }) hv2' hm2' ?_))
  have W := Walks.dictKeys (prog := PySem.Challenge.rw_bq0028_01.row.prog) (w := w) (knd := IK w) (A := A.in1) hh (s.heap.push oS).objs.size d2 (l2 _ _ hod2) (kv ks2) ep2
  rw [kv_length] at W
  have hSI : s.heap.objs.size ≠ (s.heap.push oS).objs.size := Nat.ne_of_lt (Heap.lt_size hSS)
  have k2 : ∀ (x : Obj) b ob, (s.heap.push oS).get? b = some ob → ((s.heap.push oS).push x).get? b = some ob := fun x b ob e => Heap.get?_push_of_some _ e
  refine wpAny_pure ⟨plainId_quiet plain_andl _, ?_⟩
  refine and_loop W (fun i v hv => kv_get hv) (by
      simp only [List.mem_cons, List.not_mem_nil, or_false, not_or]
      exact ⟨hSI, (l1 _ _ hod2).symm⟩) hSI (l2 _ _ hov1) (l2 _ _ hod1) (l1 _ _ hov1) (l1 _ _ hod1) hs2 ks2.length 0 _ oS [] (Nat.sub_zero _) (Nat.zero_le _)
    ⟨⟨_, Heap.get?_push_size _ rfl, rfl, by rw [kv_length]; rfl⟩, hm2'.push _⟩ (k2 _ _ _ hSS) cS (by simp) (let ⟨a, b, c⟩ := hv1'; ⟨a, k2 _ _ _ b, c⟩) (hm1'.push _) fun h' tk o' rs' a1 a2 a3 a4 => ?_
  exact h _ h' tk o' rs' (Nat.le_refl _) a1 a2 a3 fun b ob e => a4 b ob (l1 b ob e) (l2 b ob e) (k2 _ _ _ (k1 b ob e))
theorem likeView_dk {Q : Bool → Shared → Prop} (hv : KdlKeysView s.heap v d) (h : Q true s) : wpAny (model PySem.Challenge.rw_bq0028_01.row.prog w) A (Builtin.Dict_items.isSetLikeView (.ref v)) Q E s := by
  unfold Builtin.Dict_items.isSetLikeView
  exact oneOf_dk hv.typeIs (by simpa using h)
theorem likeView_set {Q : Bool → Shared → Prop} (hT : s.TypeIs (.ref S) "set") (h : Q false s) : wpAny (model PySem.Challenge.rw_bq0028_01.row.prog w) A (Builtin.Dict_items.isSetLikeView (.ref S)) Q E s := by
  unfold Builtin.Dict_items.isSetLikeView
  exact oneOf_set hT (by simpa using h)
theorem and_views {R : Result → Shared → Prop} (hh : A.handled = none) (hv1 : KdlKeysView s.heap v1 d1) (hm1 : s.heap.DictAt (IK w) d1 (kv ks1) ep1) (hv2 : KdlKeysView s.heap v2 d2) (hm2 : s.heap.DictAt (IK w) d2 (kv ks2) ep2) (hs1 : ∀ k ∈ ks1, 0 ≤ k ∧ k < 6) (hs2 : ∀ k ∈ ks2, 0 ≤ k ∧ k < 6) (hz1 : ks1.length ≤ 1000) (hz2 : ks2.length ≤ 1000)
    (h : AndPost w s ks1 ks2 fun v s' => R (.ok (.ret v)) s') :
    wpAny (model PySem.Challenge.rw_bq0028_01.row.prog w) A.in1 (Builtin.«dict_items.__and__» ⟨[.ref v1, .ref v2], []⟩) (ctree w A R) (fun e s' => R (.error e) s') s := by
  unfold Builtin.«dict_items.__and__»
  refine wpAny_bind (m := Builtin.Dict_items.slot1 "__and__" _) ?_
  unfold Builtin.Dict_items.slot1
  refine wpAny_bind (wpAny_pure ?_)
  refine wpAny_pure ?_
  dsimp only
  refine KFB.if_not rfl ?_
  wp_delta
  refine wpAny_bind (likeView_dk hv1 ?_)
  rw [if_pos rfl]
  dsimp only
  refine wpAny_bind (lenOf_dk hv1 hm1 hz1 ?_)
  refine wpAny_bind (wpAny_typeOf (s := { s with toks := s.toks + 1 + 1 }) hv2.typeIs ?_)
  refine KFB.if_not (by decide) ?_
  refine wpAny_bind (likeView_dk (s := { s with toks := s.toks + 1 + 1 }) hv2 ?_)
  refine KFB.if_so rfl ?_
  refine wpAny_bind (lenOf_dk (s := { s with toks := s.toks + 1 + 1 }) hv2 hm2 hz2 ?_)
  by_cases hl : (ks2.length : Int) > ks1.length
  · rw [if_pos hl]
    refine wpAny_bind (wpAny_rule ?_)
    exact and_tail (s := { s with toks := s.toks + 1 + 1 + 1 + 1 }) hh hv2 hm2 hv1 hm1 hs1 h.toks
  · rw [if_neg hl]
    exact and_tail (s := { s with toks := s.toks + 1 + 1 + 1 + 1 }) hh hv1 hm1 hv2 hm2 hs2 h.swap.toks
end

-- part SetInter
/-! the set's own intersection -/
theorem slot_md_get : Slot "method_descriptor" "__get__" "method_descriptor.__get__" :=
  .of (owner := "method_descriptor") (n := "__get__") (by rw [typeLookup_type, builtinLookup_eq_fast]; kernel_rfl) (by decide +kernel) (by decide +kernel) (by decide +kernel)
    (by first | exact .inl (by decide +kernel) | exact .inr (by decide +kernel)) (by rw [isSubtype_type]; kernel_rfl)
theorem entry_md_get : entryFor table "method_descriptor.__get__" = some Builtin.«method_descriptor.__get__» := entryFor_of_tree (by kernel_rfl)
theorem args_md_get (a b c : Value) : argsOk "method_descriptor.__get__" ⟨[a, b, c], []⟩ := by unfold argsOk; kernel_rfl
theorem md_set : typeLookup (.type "method_descriptor") "__set__" = pure none := by rw [typeLookup_type, builtinLookup_eq_fast]; kernel_rfl
theorem md_del : typeLookup (.type "method_descriptor") "__delete__" = pure none := by rw [typeLookup_type, builtinLookup_eq_fast]; kernel_rfl
theorem set_getattr_none : typeLookup (.type "set") "__getattr__" = pure none := by rw [typeLookup_type, builtinLookup_eq_fast]; kernel_rfl
theorem entry_set_getattribute : entryFor table "set.__getattribute__" = some Builtin.«object.__getattribute__» :=
  entryFor_alias (id' := "object.__getattribute__") (by kernel_rfl) (by decide +kernel) (by decide +kernel) (by kernel_rfl)
theorem owner_inter : (kfb_private% "ownerAndName") "set.intersection" = ("set", "intersection") := by first | decide +kernel | kernel_rfl
theorem sub_set_set : isSubtype (.type "set") (.type "set") = pure true := by rw [isSubtype_type]; kernel_rfl
theorem not_told : Manifest.toldItsClass.contains "set.intersection" = false := by decide +kernel
def interBound (S : Addr) : Obj := { cls := .type "builtin_function_or_method", data := .fields #[.builtin "set.intersection", .ref S] }
section
variable {w : World} {M : Model} {A : Around} {E : Value → Shared → Prop} {s : Shared} {S : Addr} {o : Obj} {ss : List Int}
theorem run_md_get {P : Fin → Shared → Prop} (hT : s.TypeIs (.ref S) "set") (h : P (.done (.ret (.ref s.heap.objs.size))) { s with heap := s.heap.push (interBound S) }) :
    wpAny M A (Builtin.«method_descriptor.__get__» ⟨[.builtin "set.intersection", .ref S, .type "set"], []⟩) P E s := by
  unfold Builtin.«method_descriptor.__get__»
  refine wpAny_bind (wpAny_of_eq (a := (.builtin "set.intersection", some (.ref S), some (.type "set"))) (by first | rfl | kernel_rfl) ?_)
  dsimp only
  refine KFB.if_not not_told ?_
  try refine wpAny_bind (wpAny_pure ?_)
  wp_delta
  refine wpAny_bind ?_
  wp_delta
  refine wpAny_bind ?_
  wp_delta
  refine wpAny_pure ?_
  dsimp only
  rw [show (".".intercalate ("set.intersection".cutAt '.').dropLast) = "set" by first | decide +kernel | kernel_rfl]
  refine wpAny_bind (wpAny_isInstance hT sub_set_set ?_)
  refine KFB.if_not rfl ?_
  refine wpAny_pure ?_
  exact wpAny_bind (wpAny_newObj_type (wpAny_pure h))
theorem attr_inter {prog : Program} {w : World} {R : Result → Shared → Prop} {u : Tok} {es : Array (Int × Value)} {ep : Nat} {t : SetTable} (ho : s.heap.get? S = some o) (hex : o.ExactSet) (hd : o.data = .set es ep t) (h : R (.ok (.ret (.ref s.heap.objs.size))) { s with heap := s.heap.push (interBound S) }) :
    wpAny (model prog w) A.in1 (Builtin.«object.__getattribute__» ⟨[.ref S, .str (Str.ofString "intersection") u], []⟩) (fun fin s' => ∃ v, fin = .done (.ret v) ∧ R (.ok (.ret v)) s') (fun e s' => R (.error e) s') s := by
  obtain ⟨cls, dict, dat, slots⟩ := o
  obtain ⟨h1, h2, h3⟩ := hex
  simp only at h1 h2 h3 hd
  subst h1; subst h2; subst h3; subst hd
  obtain ⟨hp, g, d, tk, os⟩ := s
  have hT : (⟨hp, g, d, tk, os⟩ : Shared).TypeIs (.ref S) "set" := ⟨_, ho, rfl⟩
  have f1 : typeLookup (.type "set") (Str.ofString "intersection") = pure (some (.builtin "set.intersection")) := PySem.F.slot_set_intersection.lookup
  have f2 := PySem.F.type_set_intersection
  have f3 := slot_md_get.lookup
  have f4 := md_set
  have f5 := md_del
  unfold Builtin.«object.__getattribute__»
  repeat (any_goals (first | assumption | wp_step))
  try (refine KFB.if_not (by decide +kernel) ?_)
  repeat (any_goals (first | assumption | wp_step))
  refine codeAny_call_builtin slot_md_get.plain entry_md_get (slot_md_get.check _ _ _ _ _ _ _ _ f2 (args_md_get _ _ _) (run_md_get hT ?_))
  exact wpAny_pure ⟨_, rfl, h⟩
theorem getAttr_inter {es : Array (Int × Value)} {ep : Nat} {t : SetTable} {Q : Value → Shared → Prop} (ho : s.heap.get? S = some o) (hex : o.ExactSet) (hd : o.data = .set es ep t)
    (h : ∀ tk, Q (.ref s.heap.objs.size) { s with heap := s.heap.push (interBound S), toks := tk }) : wpAny (model PySem.Challenge.rw_bq0028_01.row.prog w) A (getAttr (.ref S) (Str.ofString "intersection")) Q E s := by
  have hT : ∀ tk', (⟨s.heap, s.gens, s.drawn, tk', s.os⟩ : Shared).TypeIs (.ref S) "set" := fun _ => ⟨_, ho, hex.1⟩
  have f3 := PySem.F.slot_set_getattribute.lookup
  have f4 := PySem.F.slot_set_getattribute.bind (.ref S)
  have f5 := set_getattr_none
  have hm : ∀ u, Meets (Builtin.«object.__getattribute__» ⟨[.ref S, .str (Str.ofString "intersection") u], []⟩) (fun A R s => s.heap.get? S = some o ∧ R (.ok (.ret (.ref s.heap.objs.size))) { s with heap := s.heap.push (interBound S) }) :=
    fun u => Meets.of_wp fun prog w A R s hs => attr_inter hs.1 hex hd hs.2
  obtain ⟨cls, dict, dat, slots⟩ := o
  obtain ⟨e1, e2, e3⟩ := hex
  simp only at e1 e2 e3 hd
  subst e1; subst e2; subst e3; subst hd
  obtain ⟨hp, g, d, tk, os⟩ := s
  unfold getAttr getAttrBy
  repeat (any_goals (first | assumption | exact hT _ | ((with_reducible show wpAny _ _ (call (Value.builtin "set.__getattribute__") _ _) _ _ _); refine call_meets PySem.F.slot_set_getattribute (hT _) entry_set_getattribute (PySem.F.args_set_getattribute_2 _ _) (hm _) ⟨ho, ?_⟩) | wp_step))
  exact wpAny_pure (h _)
end
theorem type_inter_own : builtinKind "set.intersection" = some .method := by decide +kernel
section
variable {w : World} {A : Around} {E : Value → Shared → Prop} {s : Shared} {S v d v2 d2 : Addr} {o : Obj} {ss ks2 : List Int} {ep : Nat}
theorem frozen_any {Q : Bool → Shared → Prop} (hT : s.TypeIs (.ref v) "dict_keys") (h : Q false s) : wpAny (model PySem.Challenge.rw_bq0028_01.row.prog w) A (Builtin.Frozenset.isAnySet (.ref v)) Q E s := by
  unfold Builtin.Frozenset.isAnySet
  refine wpAny_bind (wpAny_isInstance hT sub_dk_set ?_)
  exact wpAny_isInstance hT sub_dk_frozen h
theorem base_set {Q : Value → Shared → Prop} (hT : s.TypeIs (.ref S) "set") (h : Q (.type "set") s) : wpAny (model PySem.Challenge.rw_bq0028_01.row.prog w) A (Builtin.Frozenset.baseOf S) Q E s := by
  unfold Builtin.Frozenset.baseOf
  refine wpAny_bind (wpAny_isInstance hT sub_set_set ?_)
  exact wpAny_pure h
theorem inter_view {Q : Value → Shared → Prop} (hh : A.handled = none) (ho : s.heap.get? S = some o) (c : CanSet w o ss) (hv : KdlKeysView s.heap v d) (hm : s.heap.DictAt (IK w) d (kv ks2) ep) (hs2 : ∀ k ∈ ks2, 0 ≤ k ∧ k < 6)
    (h : AndPost w s ks2 ss Q) : wpAny (model PySem.Challenge.rw_bq0028_01.row.prog w) A (Builtin.Frozenset.intersection "frozenset.intersection" S (.ref v)) Q E s := by
  have hT : s.TypeIs (.ref S) "set" := ⟨o, ho, c.1.1⟩
  obtain ⟨ov, hov, hcv, _⟩ := id hv
  obtain ⟨_, _, hod, _⟩ := id hm
  have hvS : v ≠ S := by
    rintro rfl
    rw [ho] at hov
    rw [← Option.some.inj hov, c.1.1] at hcv
    exact absurd hcv (by decide)
  unfold Builtin.Frozenset.intersection
  refine KFB.if_not (by simp [hvS]) ?_
  refine wpAny_bind (base_set hT ?_)
  refine wpAny_bind (newSet_C fun oS hfr cS => ?_)
  have k1 : ∀ b ob, s.heap.get? b = some ob → (s.heap.push oS).get? b = some ob := fun b ob e => Heap.get?_push_of_some _ e
  have hv' : KdlKeysView (s.heap.push oS) v d := let ⟨a, b, c⟩ := hv; ⟨a, k1 _ _ b, c⟩
  have hm' : (s.heap.push oS).DictAt (IK w) d (kv ks2) ep := hm.at' fun o e => k1 _ _ e
  have l1 : ∀ b ob, s.heap.get? b = some ob → b ≠ s.heap.objs.size := fun b ob e => Nat.ne_of_lt (Heap.lt_size e)
  have l2 : ∀ b ob, s.heap.get? b = some ob → b ≠ (s.heap.push oS).objs.size := fun b ob e => Nat.ne_of_lt (Heap.lt_size (k1 b ob e))
  have hSS : (s.heap.push oS).get? s.heap.objs.size = some oS := Heap.get?_push_size _ hfr
  have hSI : s.heap.objs.size ≠ (s.heap.push oS).objs.size := Nat.ne_of_lt (Heap.lt_size hSS)
  have k2 : ∀ (x : Obj) b ob, (s.heap.push oS).get? b = some ob → ((s.heap.push oS).push x).get? b = some ob := fun x b ob e => Heap.get?_push_of_some _ e
  refine wpAny_bind ?_
  unfold Builtin.Frozenset.addrOf
  refine wpAny_pure ?_
  refine wpAny_bind (wpAny_holding ?_)
  refine wpAny_bind (frozen_any (s := { s with heap := s.heap.push oS }) hv'.typeIs ?_)
  refine KFB.if_not rfl ?_
  refine wpAny_bind (kdl_pyIter_keys (s := { s with heap := s.heap.push oS }) hv' hm' ?_)
  have W := Walks.dictKeys (prog := PySem.Challenge.rw_bq0028_01.row.prog) (w := w) (knd := IK w) (A := A.in1) hh (s.heap.push oS).objs.size d (l2 _ _ hod) (kv ks2) ep
  rw [kv_length] at W
  refine wpAny_bind (wpAny_runValue ?_)
  refine inter_loop W (fun i v hv => kv_get hv) (by
      simp only [List.mem_cons, List.not_mem_nil, or_false, not_or]
      exact ⟨hSI, (l1 _ _ hod).symm⟩) hSI (l2 _ _ ho) (l1 _ _ ho) hs2 c ks2.length 0 _ oS [] (Nat.sub_zero _) (Nat.zero_le _)
    ⟨⟨_, Heap.get?_push_size _ rfl, rfl, by rw [kv_length]; rfl⟩, hm'.push _⟩ (k2 _ _ _ hSS) cS (by simp) (k2 _ _ _ (k1 _ _ ho)) fun h' tk o' rs' a1 a2 a3 a4 => ?_
  refine wpAny_pure ?_
  exact wpAny_pure (h _ h' tk o' rs' (Nat.le_refl _) a1 a2 a3 fun b ob e => a4 b ob (l1 b ob e) (l2 b ob e) (k2 _ _ _ (k1 b ob e)))
end
theorem sub_set_module : isSubtype (.type "set") (.type "module") = pure false := by rw [isSubtype_type]; kernel_rfl
theorem sub_set_type : isSubtype (.type "set") (.type "type") = pure false := by rw [isSubtype_type]; kernel_rfl
theorem sig_inter : Manifest.signature? "set.intersection" = some ⟨.positional, "set.intersection", "intersection", .self, [⟨"others", .varPos, false⟩]⟩ := by
  rw [signature?_of (id := "set.intersection") (n := ['n', 'o', 'i', 't', 'c', 'e', 's', 'r', 'e', 't', 'n', 'i']) (o := ['t', 'e', 's']) (by kernel_rfl) PySem.F.owner_set]; kernel_rfl
theorem inter_varargs : Manifest.varargsMethods.contains "set.intersection" = false := by decide +kernel
section
variable {w : World} {M : Model} {A : Around} {E : Value → Shared → Prop} {s : Shared} {S v : Addr}
theorem bound_ok {es : Array (Int × Value)} {ep : Nat} {t : SetTable} {o : Obj} {Q : Unit → Shared → Prop} (ho : s.heap.get? S = some o) (hex : o.ExactSet) (hd : o.data = .set es ep t) (h : Q () s) : wpAny M A (checkBoundCall "set.intersection" ⟨[.ref S, .ref v], []⟩) Q E s := by
  obtain ⟨cls, dict, dat, slots⟩ := o
  obtain ⟨e1, e2, e3⟩ := hex
  simp only at e1 e2 e3 hd
  subst e1; subst e2; subst e3; subst hd
  obtain ⟨hp, g, d, tk, os⟩ := s
  have hT : (⟨hp, g, d, tk, os⟩ : Shared).TypeIs (.ref S) "set" := ⟨_, ho, rfl⟩
  have ha : Bind.checkArgs "set.intersection" ⟨.positional, "set.intersection", "intersection", .self, [⟨"others", .varPos, false⟩]⟩ ⟨[.ref S, .ref v], []⟩ = pure () := by
    have := PySem.F.args_set_intersection_2 (.ref S) (.ref v)
    unfold argsOk at this
    rw [sig_inter] at this
    exact this
  unfold checkBoundCall
  rw [sig_inter]
  dsimp only
  rw [type_inter_own]
  dsimp only
  refine KFB.if_not (by decide) ?_
  refine wpAny_bind (wpAny_isInstance hT sub_set_module ?_)
  rw [inter_varargs]
  refine KFB.if_not rfl ?_
  refine wpAny_bind ?_
  unfold isType
  repeat (any_goals (first | assumption | wp_step))
end
theorem plain_inter : plainId "set.intersection" = true := by decide +kernel
section
variable {w : World} {A : Around} {E : Value → Shared → Prop} {s : Shared} {S v d v2 d2 b : Addr} {o : Obj} {ss ks2 : List Int} {ep : Nat}
theorem call_inter {Q : Value → Shared → Prop} (hh : A.handled = none) (hb : s.heap.get? b = some (interBound S)) (ho : s.heap.get? S = some o) (c : CanSet w o ss) (hv : KdlKeysView s.heap v d) (hm : s.heap.DictAt (IK w) d (kv ks2) ep) (hs2 : ∀ k ∈ ks2, 0 ≤ k ∧ k < 6)
    (h : AndPost w s ks2 ss Q) : wpAny (model PySem.Challenge.rw_bq0028_01.row.prog w) A (runValue (.call (.ref b) ⟨[.ref v], []⟩)) Q E s := by
  obtain ⟨hex, hs, es, ep', hd, he⟩ := id c
  refine wpAny_runValue ?_
  refine codeAny_of_tree ?_
  show wpAny _ A.in1 (callAny (.ref b) ⟨[.ref v], []⟩) _ _ s
  simp only [callAny]
  refine wpAny_bind (wpAny_load hb ?_)
  simp only [interBound, show (Value.type "builtin_function_or_method" == Value.type "method" || Value.type "builtin_function_or_method" == Value.type "builtin_function_or_method" || Value.type "builtin_function_or_method" == Value.type "method-wrapper") = true by decide, if_true]
  refine KFB.if_so (by decide) ?_
  refine wpAny_bind (bound_ok ho hex hd ?_)
  refine wpAny_bind (wpAny_pure (wpAny_pure ⟨plainId_quiet plain_inter _, codeAny_builtin entry_set_inter ?_⟩))
  rw [Around.under_plainId plain_inter _]
  unfold Builtin.«frozenset.intersection»
  refine wpAny_bind (m := Builtin.Frozenset.manyOthers "intersection" _) ?_
  unfold Builtin.Frozenset.manyOthers
  refine KFB.if_not rfl ?_
  refine wpAny_bind ?_
  unfold Builtin.Frozenset.addrOf
  refine wpAny_pure (wpAny_pure ?_)
  dsimp only
  refine KFB.if_not rfl ?_
  simp only [List.forIn_cons, List.forIn_nil]
  refine wpAny_bind (wpAny_bind (wpAny_bind (wpAny_holding (wpAny_bind (wpAny_pure (inter_view (A := A.in1) hh ho c hv hm hs2 ?_))))))
  intro S' h' tk o' rs a1 a2 a3 a4 a5
  exact wpAny_pure (wpAny_pure (wpAny_pure (h S' h' tk o' rs a1 a2 a3 a4 a5)))
theorem and_tail_set {R : Result → Shared → Prop} (hh : A.handled = none) (hv : KdlKeysView s.heap v d) (hm : s.heap.DictAt (IK w) d (kv ks2) ep) (ho : s.heap.get? S = some o) (c : CanSet w o ss)
    (h : AndPost w s ss ks2 fun v s' => R (.ok (.ret v)) s') :
    wpAny (model PySem.Challenge.rw_bq0028_01.row.prog w) A.in1 (do
      let result ← newSet (.type "set")
      again (.builtin "dict_items.__and__.loop" ⟨[.ref v, ← holding [result] (pyIter (.ref S)), result], []⟩)) (ctree w A R) (fun e s' => R (.error e) s') s := by
  obtain ⟨hex, hs, es, ep', hd, he⟩ := id c
  obtain ⟨_, hov, _⟩ := id hv
  obtain ⟨_, _, hod, _⟩ := id hm
  refine wpAny_bind (newSet_C fun oS hfr cS => ?_)
  have k1 : ∀ b ob, s.heap.get? b = some ob → (s.heap.push oS).get? b = some ob := fun b ob e => Heap.get?_push_of_some _ e
  have hv' : KdlKeysView (s.heap.push oS) v d := let ⟨a, b, c⟩ := hv; ⟨a, k1 _ _ b, c⟩
  have hm' : (s.heap.push oS).DictAt (IK w) d (kv ks2) ep := hm.at' fun o e => k1 _ _ e
  have l1 : ∀ b ob, s.heap.get? b = some ob → b ≠ s.heap.objs.size := fun b ob e => Nat.ne_of_lt (Heap.lt_size e)
  have l2 : ∀ b ob, s.heap.get? b = some ob → b ≠ (s.heap.push oS).objs.size := fun b ob e => Nat.ne_of_lt (Heap.lt_size (k1 b ob e))
  have hSS : (s.heap.push oS).get? s.heap.objs.size = some oS := Heap.get?_push_size _ hfr
  have hSI : s.heap.objs.size ≠ (s.heap.push oS).objs.size := Nat.ne_of_lt (Heap.lt_size hSS)
  have k2 : ∀ (x : Obj) b ob, (s.heap.push oS).get? b = some ob → ((s.heap.push oS).push x).get? b = some ob := fun x b ob e => Heap.get?_push_of_some _ e
  have W := walks_set (prog := PySem.Challenge.rw_bq0028_01.row.prog) (w := w) (A := A.in1) (ep := ep') hh (s.heap.push oS).objs.size S (l2 _ _ ho) hs hd he
  have hlen : (walkKs w S ep' es).length = ss.length := (walkKs_perm he).length_eq
  rw [← hlen] at W
  refine wpAny_bind (wpAny_holding (pyIter_set (s := { s with heap := s.heap.push oS }) (k1 _ _ ho) hex.1 hs hd he fun oI hfI hit => ?_))
  refine wpAny_pure ⟨plainId_quiet plain_andl _, ?_⟩
  have hst : ∃ slot, SlotOk w ss slot 0 ∧ IsSetIter ((s.heap.push oS).push oI) (s.heap.push oS).objs.size S slot 0 ss.length ep' ∧ ((s.heap.push oS).push oI).get? S = some o := ⟨0, slot_zero, hit, k2 _ _ _ (k1 _ _ ho)⟩
  rw [hlen] at W
  have W2 := W
  rw [← hlen] at W2
  refine and_loop (ns := walkKs w S ep' es) W2 (fun i x hx => let ⟨e, he1, he2⟩ := hx; let ⟨k, t, a, b⟩ := walkKs_get he he1; ⟨k, t, a, he2.trans b⟩) (by
      simp only [List.mem_cons, List.not_mem_nil, or_false, not_or]
      exact ⟨hSI, (l1 _ _ ho).symm⟩) hSI (l2 _ _ hov) (l2 _ _ hod) (l1 _ _ hov) (l1 _ _ hod) (fun k hk => (sub_facts hs).2.2 k ((walkKs_perm he).mem_iff.mp hk)) (walkKs w S ep' es).length 0 _ oS [] (Nat.sub_zero _) (Nat.zero_le _)
    (by rw [hlen]; exact hst) (k2 _ _ _ hSS) cS (by simp) (let ⟨a, b, c⟩ := hv'; ⟨a, k2 _ _ _ b, c⟩) (hm'.push _) fun h' tk o' rs' a1 a2 a3 a4 => ?_
  exact h _ h' tk o' rs' (Nat.le_refl _) a1 a2 (fun k => (a3 k).trans (and_congr_left fun _ => (walkKs_perm he).mem_iff)) fun b ob e => a4 b ob (l1 b ob e) (l2 b ob e) (k2 _ _ _ (k1 b ob e))
/-- set & keys, as the keys' reflected & -/
theorem rand_view {R : Result → Shared → Prop} (hh : A.handled = none) (ho : s.heap.get? S = some o) (c : CanSet w o ss) (hv : KdlKeysView s.heap v d) (hm : s.heap.DictAt (IK w) d (kv ks2) ep) (hs2 : ∀ k ∈ ks2, 0 ≤ k ∧ k < 6) (hz : ks2.length ≤ 1000)
    (h : AndPost w s ss ks2 fun v s' => R (.ok (.ret v)) s') :
    wpAny (model PySem.Challenge.rw_bq0028_01.row.prog w) A.in1 (Builtin.«dict_items.__rand__» ⟨[.ref v, .ref S], []⟩) (ctree w A R) (fun e s' => R (.error e) s') s := by
  have hT : ∀ n, ({ s with toks := n } : Shared).TypeIs (.ref S) "set" := fun _ => ⟨o, ho, c.1.1⟩
  obtain ⟨hex, hs, es, ep', hd, he⟩ := id c
  unfold Builtin.«dict_items.__rand__»
  refine wpAny_bind (m := Builtin.Dict_items.slot1 "__rand__" _) ?_
  unfold Builtin.Dict_items.slot1
  refine wpAny_bind (wpAny_pure ?_)
  refine wpAny_pure ?_
  dsimp only
  refine KFB.if_so rfl ?_
  wp_delta
  refine wpAny_bind (likeView_set (hT s.toks) ?_)
  rw [if_neg Bool.false_ne_true]
  dsimp only
  refine wpAny_bind (lenOf_dk hv hm hz ?_)
  refine wpAny_bind (wpAny_typeOf (s := { s with toks := s.toks + 1 + 1 }) (hT _) ?_)
  refine KFB.if_so (by decide) ?_
  refine wpAny_bind (lenOf_set (s := { s with toks := s.toks + 1 + 1 }) ho c ?_)
  by_cases hl : (ks2.length : Int) ≤ ss.length
  · rw [if_pos hl]
    refine wpAny_bind (wpAny_rule ?_)
    refine wpAny_bind (getAttr_inter (s := { s with toks := s.toks + 1 + 1 + 1 + 1 }) ho hex hd fun tk' => ?_)
    have k1 : ∀ b ob, s.heap.get? b = some ob → (s.heap.push (interBound S)).get? b = some ob := fun b ob e => Heap.get?_push_of_some _ e
    refine wpAny_bind (call_inter (s := ⟨s.heap.push (interBound S), s.gens, s.drawn, tk', s.os⟩) hh (Heap.get?_push_size _ rfl) (k1 _ _ ho) c (let ⟨a, b, c⟩ := hv; ⟨a, k1 _ _ b, c⟩) (hm.push _) hs2 ?_)
    intro S' h' tk o' rs a1 a2 a3 a4 a5
    refine wpAny_pure (h S' h' tk o' rs (Nat.le_of_lt (Nat.lt_of_lt_of_le ?_ a1)) a2 a3 (fun k => (a4 k).trans and_comm) fun b ob e => a5 b ob (k1 b ob e))
    show s.heap.objs.size < (s.heap.push (interBound S)).objs.size
    rw [Heap.size_push]; exact Nat.lt_succ_self _
  · rw [if_neg hl]
    refine wpAny_bind (likeView_set (hT _) ?_)
    refine KFB.if_not rfl ?_
    exact and_tail_set (s := { s with toks := s.toks + 1 + 1 + 1 + 1 }) hh hv hm ho c h.toks
end

-- part InterRules
/-! &= in the ledger's form -/
def viewObj (d : Addr) : Obj := { cls := .type "dict_keys", data := .fields #[.ref d] }
theorem sub_dk_setT : isSubtype (.type "dict_keys") (.type "set") = pure false := sub_dk_set
theorem fills_iand_set : fillsInplaceSlot (.type "set") "and" (Operator.BitAnd == .Add) = pure true := by
  unfold fillsInplaceSlot
  show (typeLookup (.type "set") (dunderI "and") >>= fun fi => pure (fi.isSome && !isSeqSlot fi)) = pure true
  rw [PySem.F.slot_set_iand.lookup]; rfl
section
variable {M : Model} {A : Around} {E : Value → Shared → Prop} {s : Shared}
theorem binaryOp1_decl {a b : Value} {T U nm idl idr : String} {Q : Option Value → Shared → Prop} (hTU : T ≠ U) (ha : s.TypeIs a T) (hb : s.TypeIs b U)
    (hfT : fillsNumberSlot (.type T) nm = pure true) (hfU : fillsNumberSlot (.type U) nm = pure true) (hsub : isSubtype (.type U) (.type T) = pure false)
    (hl : Slot T (dunder nm) idl) (hr : Slot U (dunderR nm) idr)
    (hc : wpAny M A (call (.builtin idl) [a, b]) (fun v s₁ => v = .notImplemented ∧ s₁.TypeIs b U ∧ wpAny M A (call (.builtin idr) [b, a]) (fun v' s₂ => v' ≠ .notImplemented ∧ Q (some v') s₂) E s₁) E s) : wpAny M A (binaryOp1 nm a b) Q E s := by
  simp only [binaryOp1]
  refine wpAny_bind (wpAny_typeOf ha (wpAny_bind (wpAny_typeOf hb (wpAny_bind (wpAny_of_eq hfT ?_)))))
  have hne : (Value.type T == Value.type U) = false := by simpa using hTU
  simp only [hne, Bool.false_eq_true, if_false]
  refine wpAny_bind (wpAny_of_eq hfU ?_)
  simp only [Bool.and_self, if_true]
  refine wpAny_bind (wpAny_of_eq hsub ?_)
  have hpy : numberSlotInPython (.type T) nm = pure false := rfl
  simp only [Bool.false_eq_true, if_false, pure_bind, Bool.not_false, Bool.and_self, if_true, hpy]
  simp only [tryMethod]
  refine wpAny_bind (wpAny_bind (wpAny_callSpecial?_slot ha hl (wpAny_mono hc (fun v s₁ h₁ => ?_) fun _ _ x => x)))
  obtain ⟨rfl, ht, hq⟩ := h₁
  refine wpAny_pure (wpAny_bind (wpAny_bind (wpAny_callSpecial?_slot ht hr (wpAny_mono hq (fun v' s₂ h₂ => ?_) fun _ _ x => x))))
  cases v' <;> first | exact absurd rfl h₂.1 | exact wpAny_pure (wpAny_bind (wpAny_rule (wpAny_pure h₂.2)))
end
section
variable {w : World} {A : Around} {E : Value → Shared → Prop} {s : Shared} {h₀ : Heap} {L v1 v2 d1 d2 S0 : Addr} {m : Str → Option Value} {news : List (Addr × Obj)} {o1 o2 oS0 : Obj} {ks1 ks2 ss : List Int} {Q : Value → Shared → Prop}
def AndK (w : World) (h₀ : Heap) (L : Addr) (m : Str → Option Value) (news : List (Addr × Obj)) (s : Shared) (ks1 ks2 : List Int) (Q : Value → Shared → Prop) : Prop :=
  ∀ (S : Addr) h' tk oS rs, Fr h₀ L h' m → News h₀ L h' ((S, oS) :: news) → (∀ p ∈ news, p.1 < S) → CanSet w oS rs → (∀ k, k ∈ rs ↔ k ∈ ks1 ∧ k ∈ ks2) → Q (.ref S) { s with heap := h', toks := tk }
theorem AndK.post (F : Fr h₀ L s.heap m) (N : News h₀ L s.heap news) (h : AndK w h₀ L m news s ks1 ks2 Q) : AndPost w s ks1 ks2 Q := by
  intro S h' tk o rs a1 a2 a3 a4 a5
  obtain ⟨oL, _, _, hL, _⟩ := F.ns
  refine h S h' tk o rs (F.keeps a5) ?_ (fun p hp => Nat.lt_of_lt_of_le (Heap.lt_size (N p hp).1) a1) a3 a4
  intro p hp
  rcases List.mem_cons.mp hp with rfl | hp
  · refine ⟨a2, Nat.ne_of_gt (Nat.lt_of_lt_of_le (Heap.lt_size hL) a1), ?_⟩
    cases hq : h₀.get? S with
    | none => rfl
    | some o' => exact absurd (Nat.lt_of_lt_of_le (Heap.lt_size (F.keep _ _ hq)) a1) (Nat.lt_irrefl _)
  · exact ⟨a5 _ _ (N p hp).1, (N p hp).2⟩
theorem view_at (N : News h₀ L s.heap news) (mv : (v1, viewObj d1) ∈ news) : KdlKeysView s.heap v1 d1 := ⟨_, (N _ mv).1, rfl, rfl⟩
theorem iand_keys (hh : A.handled = none) (F : Fr h₀ L s.heap m) (N : News h₀ L s.heap news) (mv1 : (v1, viewObj d1) ∈ news) (mv2 : (v2, viewObj d2) ∈ news) (md1 : (d1, o1) ∈ news) (md2 : (d2, o2) ∈ news) (ho1 : o1.IsDictOf (IK w) (kv ks1)) (ho2 : o2.IsDictOf (IK w) (kv ks2))
    (hs1 : ∀ k ∈ ks1, 0 ≤ k ∧ k < 6) (hs2 : ∀ k ∈ ks2, 0 ≤ k ∧ k < 6) (hz1 : ks1.length ≤ 1000) (hz2 : ks2.length ≤ 1000) (h : AndK w h₀ L m news s ks1 ks2 Q) :
    wpAny (model PySem.Challenge.rw_bq0028_01.row.prog w) A (inplaceOp .BitAnd (.ref v1) (.ref v2)) Q E s := by
  obtain ⟨ep1, a1⟩ := KdkAt.of ho1
  obtain ⟨ep2, a2⟩ := KdkAt.of ho2
  refine wpAny_inplaceOp_same (view_at N mv1).typeIs (view_at N mv2).typeIs iand_dk fills_dk_and slot_dk_and ?_
  refine wpAny_call (codeAny_call_builtin slot_dk_and.plain entry_dk_and (slot_dk_and.check _ _ _ _ _ _ _ _ (view_at N mv1).typeIs (args_dk_and _ _) ?_))
  refine and_views (R := wants (fun v s' => v ≠ .notImplemented ∧ Q v s') E) hh (view_at N mv1) (a1.dictAt (N _ md1).1) (view_at N mv2) (a2.dictAt (N _ md2).1) hs1 hs2 hz1 hz2 ?_
  intro S h' tk o rs b1 b2 b3 b4 b5
  exact ⟨by simp, h.post F N S h' tk o rs b1 b2 b3 b4 b5⟩
theorem iand_set (hh : A.handled = none) (F : Fr h₀ L s.heap m) (N : News h₀ L s.heap news) (mS : (S0, oS0) ∈ news) (c : CanSet w oS0 ss) (mv2 : (v2, viewObj d2) ∈ news) (md2 : (d2, o2) ∈ news) (ho2 : o2.IsDictOf (IK w) (kv ks2))
    (hs2 : ∀ k ∈ ks2, 0 ≤ k ∧ k < 6) (hz2 : ks2.length ≤ 1000) (h : AndK w h₀ L m news s ss ks2 Q) :
    wpAny (model PySem.Challenge.rw_bq0028_01.row.prog w) A (inplaceOp .BitAnd (.ref S0) (.ref v2)) Q E s := by
  obtain ⟨ep2, a2⟩ := KdkAt.of ho2
  have hT : s.TypeIs (.ref S0) "set" := ⟨_, (N _ mS).1, c.1.1⟩
  have hT2 := (view_at N mv2).typeIs
  unfold inplaceOp
  refine wpAny_holding ?_
  refine wpAny_bind (wpAny_typeOf hT (wpAny_bind (wpAny_of_eq fills_iand_set ?_)))
  refine KFB.if_so rfl ?_
  refine wpAny_bind (wpAny_tryMethod_declines hT PySem.F.slot_set_iand ?_)
  refine wpAny_call (codeAny_call_builtin PySem.F.slot_set_iand.plain PySem.F.entry_set_iand (PySem.F.slot_set_iand.check _ _ _ _ _ _ _ _ hT (PySem.F.args_set_iand_2 _ _) ?_))
  unfold Builtin.«set.__iand__»
  refine wpAny_bind (m := Builtin.Frozenset.slot1 "__iand__" _) ?_
  unfold Builtin.Frozenset.slot1
  refine wpAny_bind (wpAny_pure (wpAny_pure ?_))
  dsimp only
  refine wpAny_bind (frozen_any hT2 ?_)
  refine KFB.if_so rfl ?_
  refine wpAny_bind (wpAny_rule (wpAny_pure ?_))
  refine ⟨rfl, ?_⟩
  refine wpAny_bind (binaryOp1_decl (by decide) hT hT2 PySem.F.fills_set_and fills_dk_and sub_dk_set PySem.F.slot_set_and slot_dk_rand ?_)
  refine wpAny_call (codeAny_call_builtin PySem.F.slot_set_and.plain entry_set_and (PySem.F.slot_set_and.check _ _ _ _ _ _ _ _ hT (PySem.F.args_set_and_2 _ _) ?_))
  unfold Builtin.«frozenset.__and__»
  refine wpAny_bind (m := Builtin.Frozenset.slot1 "__and__" _) ?_
  unfold Builtin.Frozenset.slot1
  refine wpAny_bind (wpAny_pure (wpAny_pure ?_))
  dsimp only
  simp only [Bool.false_eq_true, if_false]
  refine wpAny_bind (wpAny_bind (m := Builtin.Frozenset.isAnySet (.ref S0)) ?_)
  unfold Builtin.Frozenset.isAnySet
  refine wpAny_bind (wpAny_isInstance hT sub_set_set ?_)
  refine wpAny_pure ?_
  refine frozen_any hT2 ?_
  refine KFB.if_so rfl ?_
  refine wpAny_bind (wpAny_rule (wpAny_pure ⟨rfl, hT2, ?_⟩))
  refine wpAny_call (codeAny_call_builtin slot_dk_rand.plain entry_dk_rand (slot_dk_rand.check _ _ _ _ _ _ _ _ hT2 (args_dk_rand _ _) ?_))
  refine rand_view (R := wants (fun v s' => v ≠ .notImplemented ∧ wpAny (model PySem.Challenge.rw_bq0028_01.row.prog w) A (pure v) Q E s') E) hh (N _ mS).1 c (view_at N mv2) (a2.dictAt (N _ md2).1) hs2 hz2 ?_
  intro S h' tk o rs b1 b2 b3 b4 b5
  exact ⟨by simp, wpAny_pure (h.post F N S h' tk o rs b1 b2 b3 b4 b5)⟩
end

-- part SetMake
/-! an ordered set made of a set -/
theorem put1_nodup : ∀ (ms ks : List Int), (ks ++ ms).Nodup → ms.foldl put1 ks = ks ++ ms
  | [], ks, _ => by simp
  | m :: ms, ks, h => by
    have hm : m ∉ ks := fun hk => by
      have := (List.nodup_append.mp h).2.2 m hk m (.head _)
      exact this rfl
    rw [List.foldl_cons, put1, if_neg hm, put1_nodup ms (ks ++ [m]) (by rw [List.append_assoc]; exact h), List.append_assoc]; rfl
section
variable {w : World} {A : Around} {E : Value → Shared → Prop} {s : Shared} {r : Addr} {oS : Obj} {ss : List Int} {R : Result → Shared → Prop}
theorem tree_fromkeys_set (ho : s.heap.get? r = some oS) (c : CanSet w oS ss)
    (hR : ∀ h' tk ms, ms.Perm ss → h'.DictOf (IK w) s.heap.objs.size (kv ms) → (∀ b o, s.heap.get? b = some o → h'.get? b = some o) → R (.ok (.ret (.ref s.heap.objs.size))) { s with heap := h', toks := tk }) :
    wpAny (model PySem.Challenge.rw_bq0028_01.row.prog w) A.in1 (Builtin.«dict.fromkeys» ⟨[.type "dict", .ref r], []⟩) (ctree w A R) (fun e s' => R (.error e) s') s := by
  obtain ⟨hex, hs, es, ep, hd, he⟩ := id c
  have hf : (tab (ledOf w) ss).fits es.size = true := by rw [he.size]; exact fit_ok _ hs
  unfold Builtin.«dict.fromkeys»
  refine wpAny_bind (wpAny_of_eq type_dict ?_)
  refine KFB.if_not rfl ?_
  refine wpAny_bind (wpAny_of_eq sub_dict_dict ?_)
  refine KFB.if_not rfl ?_
  refine KFB.if_not rfl ?_
  refine wpAny_bind (wpAny_rule (wpAny_bind (wpAny_pure ?_)))
  show wpAny _ _ (call (.type "dict") >>= _) _ _ _
  refine wpAny_bind (call_dict0 ?_)
  refine wpAny_holding ?_
  have k1 : ∀ b ob, s.heap.get? b = some ob → (s.heap.push { cls := .type "dict", data := .dict #[] }).get? b = some ob := fun b ob e => Heap.get?_push_of_some _ e
  have hT : (⟨s.heap.push { cls := .type "dict", data := .dict #[] }, s.gens, s.drawn, s.toks, s.os⟩ : Shared).TypeIs (.ref s.heap.objs.size) "dict" := ⟨_, Heap.get?_push_size _ rfl, rfl⟩
  have hTS : (⟨s.heap.push { cls := .type "dict", data := .dict #[] }, s.gens, s.drawn, s.toks, s.os⟩ : Shared).TypeIs (.ref r) "set" := ⟨_, k1 _ _ ho, hex.1⟩
  refine wpAny_bind (wpAny_typeOf hTS ?_)
  refine wpAny_bind (wpAny_typeOf hT ?_)
  refine KFB.if_not (by decide) ?_
  refine wpAny_bind (wpAny_typeOf hT ?_)
  refine KFB.if_so (by decide) ?_
  refine wpAny_bind (wpAny_rule ?_)
  refine wpAny_bind ?_
  unfold Builtin.Dict.addrOf
  refine wpAny_pure ?_
  refine wpAny_bind (wpAny_setEpoch_of (s := ⟨s.heap.push { cls := .type "dict", data := .dict #[] }, s.gens, s.drawn, s.toks, s.os⟩) (k1 _ _ ho) hd hf ?_)
  refine wpAny_bind (setWalk_C (s := ⟨s.heap.push { cls := .type "dict", data := .dict #[] }, s.gens, s.drawn, s.toks, s.os⟩) (k1 _ _ ho) hs hd he ?_)
  have hsm : ∀ e ∈ es.toList, 0 ≤ e.1 ∧ e.1 < 6 := fun e hm => (sub_facts hs).2.2 _ (by rw [← he.1]; exact List.mem_map.mpr ⟨e, hm, rfl⟩)
  have hnd : (walkKs w r ep es).Nodup := (walkKs_perm he).nodup_iff.mpr (sub_facts hs).1
  have hlen : (walkKs w r ep es).length ≤ 6 := by rw [(walkKs_perm he).length_eq]; exact (sub_facts hs).2.1
  have l1 : ∀ b ob, s.heap.get? b = some ob → b ≠ s.heap.objs.size := fun b ob e => Nat.ne_of_lt (Heap.lt_size e)
  refine wpAny_bind (wpAny_forIn_array' _ (fun rest _ s' => ∃ done h', walkKs w r ep es = done ++ rest.map (·.1) ∧ (∀ e ∈ rest, e ∈ es.toList) ∧ s' = ⟨h', s.gens, s.drawn, s.toks, s.os⟩ ∧ h'.DictOf (IK w) s.heap.objs.size (kv done) ∧ (∀ b o, s.heap.get? b = some o → h'.get? b = some o)) _ ?turn ?fin _ _ ?start)
  case start =>
    exact ⟨[], _, rfl, fun e hm => (walk_perm w r ep es).mem_iff.mp hm, rfl, Heap.DictOf.new s.heap, k1⟩
  case fin =>
    rintro _ s' ⟨done, h', e1, _, rfl, hD, hk⟩
    rw [List.map_nil, List.append_nil] at e1
    rw [← e1] at hD
    exact wpAny_pure (hR h' s.toks _ (walkKs_perm he) hD hk)
  case turn =>
    rintro ⟨h, k⟩ rest _ s' ⟨done, h', e1, e2, rfl, hD, hk⟩
    obtain ⟨t, ht⟩ := he.2 _ (e2 _ (.head _))
    have h6 := hsm _ (e2 _ (.head _))
    simp only at ht h6
    subst ht
    refine wpAny_bind (wpAny_pure ?_)
    refine wpAny_bind (wpAny_holding ?_)
    have hset := fun (Q : Unit → Shared → Prop) (hQ) => wpAny_dictSetHashed_pairs (knd := IK w) (A := A.in1) (E := fun e s' => R (.error e) s') (k := h) (key := .int h t) (v := .none) (s := ⟨h', s.gens, s.drawn, s.toks, s.os⟩) (Q := Q) (intKind_is _ _ _ _) hD hQ (by
      rw [kv_length, sizeLine_eq]
      have : done.length ≤ 6 := by have := congrArg List.length e1; rw [List.length_append] at this; omega
      omega)
    rw [hash_small h6] at hset
    refine hset _ fun h'' hD'' hsb => ?_
    have hk'' : ∀ b ob, s.heap.get? b = some ob → h''.get? b = some ob := fun b ob e => (hsb.2 b (l1 b ob e)).trans (hk b ob e)
    refine wpAny_bind (wpAny_setEpoch_of (s := ⟨h'', s.gens, s.drawn, s.toks, s.os⟩) (hk'' _ _ ho) hd hf ?_)
    rw [if_neg (by simp)]
    refine wpAny_pure ⟨done ++ [h], h'', ?_, fun e hm => e2 e (.tail _ hm), rfl, ?_, hk''⟩
    · rw [e1, List.map_cons, List.append_assoc]; rfl
    · have hnm : h ∉ done := by
        rw [e1, List.map_cons] at hnd
        exact fun hm => (List.nodup_append.mp hnd).2.2 h hm h (.head _) rfl
      rw [stored_kv, put1, if_neg hnm] at hD''
      exact hD''
theorem call_fkSet {u : Addr} {E Q : Value → Shared → Prop} (hu : s.heap.get? u = some fkBound) (ho : s.heap.get? r = some oS) (c : CanSet w oS ss)
    (hR : ∀ h' tk ms, ms.Perm ss → h'.DictOf (IK w) s.heap.objs.size (kv ms) → (∀ b o, s.heap.get? b = some o → h'.get? b = some o) → Q (.ref s.heap.objs.size) { s with heap := h', toks := tk }) :
    wpAny (model PySem.Challenge.rw_bq0028_01.row.prog w) A (call (.ref u) [.ref r]) Q E s := by
  refine wpAny_call (codeAny_of_tree ?_)
  show wpAny _ A.in1 (callAny (.ref u) ⟨[.ref r], []⟩) _ _ s
  simp only [callAny]
  refine wpAny_bind (wpAny_load hu ?_)
  simp only [fkBound, show (Value.type "builtin_function_or_method" == Value.type "method" || Value.type "builtin_function_or_method" == Value.type "builtin_function_or_method" || Value.type "builtin_function_or_method" == Value.type "method-wrapper") = true by decide, if_true]
  refine KFB.if_so (by decide) ?_
  refine wpAny_bind (wpAny_of_eq (a := ()) (check_fk _) ?_)
  refine wpAny_bind (wpAny_pure (wpAny_pure ?_))
  refine ⟨quiet_fk, codeAny_builtin entry_fk ?_⟩
  rw [Around.under_plainId plain_fk _]
  exact tree_fromkeys_set (R := wants Q E) ho c hR
theorem fkset_call {h₀ : Heap} {L u : Addr} {m : Str → Option Value} {news : List (Addr × Obj)} {E Q : Value → Shared → Prop} (F : Fr h₀ L s.heap m) (N : News h₀ L s.heap news) (hu : (u, fkBound) ∈ news) (mS : (r, oS) ∈ news) (c : CanSet w oS ss)
    (h : ∀ (D : Addr) h' tk o' ms, ms.Perm ss → Fr h₀ L h' m → News h₀ L h' ((D, o') :: news) → (∀ p ∈ news, p.1 < D) → o'.IsDictOf (IK w) (kv ms) → Q (.ref D) { s with heap := h', toks := tk }) :
    wpAny (model PySem.Challenge.rw_bq0028_01.row.prog w) A (call (.ref u) [.ref r]) Q E s := by
  refine call_fkSet (N _ hu).1 (N _ mS).1 c fun h' tk ms hp hD hk => ?_
  obtain ⟨o', ho', hd'⟩ := Heap.dictOf_iff.mp hD
  exact h _ h' tk o' ms hp (F.keeps hk) (news_pushed F N hk ho' rfl) (fun p hp => Heap.lt_size (N p hp).1) hd'
end
section
variable {w : World} {dp un : Nat} {gd : Option (List Code)} {cn : Str} {cs : Scope} {a : Addr} {ccd : Value} {cl : List (Str × Addr)} {outer : List Env} {A₀ : Around} {base h₀ : Heap} {L : Addr} {m : Str → Option Value} {s : Shared}
    {mean : ExcName → Option Value} {mg mb : Str → Option Value} {x dx r : Addr} {ss : List Int} {oS : Obj} {news : List (Addr × Obj)} {R : Result → Shared → Prop}
variable (B : Below A₀ base outer h₀) (F : Fr h₀ L s.heap m) (X : (hd.heap_39 w.params).In h₀) (T : Top hd.view_39 (looseW hd.view_39 [Str.ofString "OrderedSet"]) mean mg mb h₀) (hk : cs.kind = .function)
  (hdp : dp + 2 < recursionLimit) (hun : un + 20 < cLine) (N : News h₀ L s.heap ((x, instObj 203 dx) :: (dx, dictOf [] 0) :: news)) (hlt : ∀ p ∈ news, p.1 < dx) (hxd : @LT.lt Nat _ dx x)
include B F X T hk hdp hun N hlt hxd
theorem init_KS (mS : (r, oS) ∈ news) (c : CanSet w oS ss)
    (h : ∀ h' tk d o ta ms, ms.Perm ss → Fr h₀ L h' m → News h₀ L h' (can w x dx d ta 1 o news) → @LT.lt Nat _ x d → (d == sysModules) = false → o.IsDictOf (IK w) (kv ms) → R (.ok (.ret .none)) { s with heap := h', toks := tk }) :
    codeAny (model PySem.Challenge.rw_bq0028_01.row.prog w) (ktrTop dp un gd cn cs L a ccd cl outer) (.call (.ref 29) ⟨[.ref x, .ref r], []⟩) R s := by
  have hlt := allLt_of hlt
  revert X; k_fill; intro X
  k_dflt (walk_at "mine enter")
  k_steps
  refine' fkset_call ?F ?N ?hu (.tail _ (.tail _ (.tail _ mS))) c ?_
  case F => k_asm
  case N => k_asm
  case hu => k_mem
  intro D' h' tk' o' ms' hp' F' N' l1 hd'
  k_lt l1
  k_steps
  rename _ ∧ x < _ ∧ _ => q1
  refine' h _ _ _ _ _ _ hp' ?f (cb_drop ?n ?s) ?b ?l ?e
  case f => k_asm
  case n => k_asm
  case s => exact perm_init2
  case b => exact ltN (by omega)
  case l => exact not_modules (ltN (by omega))
  case e => k_asm
end

-- part Inter
/-! the meeting of sets -/
theorem w203 (D : Addr) : (Code.builtin "type.__call__" ⟨[.ref 203, .ref D], []⟩).weight ≤ 1 := Nat.le_of_ble_eq_true rfl
theorem u203 (D : Addr) : (Code.builtin "type.__call__" ⟨[.ref 203, .ref D], []⟩).cUnits ≤ 20 := Nat.le_of_ble_eq_true rfl
theorem room203 {a D : Addr} {d k : Nat} (h : d + 1 + k < recursionLimit) : d + (Code.builtin "type.__call__" ⟨[.ref 203, .ref D], []⟩).weight + k < recursionLimit := by have := w203 D; omega
theorem units203 {a D : Addr} {d k : Nat} (h : d + 20 + k < cLine) : d + (Code.builtin "type.__call__" ⟨[.ref 203, .ref D], []⟩).cUnits + k < cLine := by have := u203 D; omega
theorem keys_I {w : World} {A : Around} {E : Value → Shared → Prop} {s : Shared} {h₀ : Heap} {L d : Addr} {m : Str → Option Value} {news : List (Addr × Obj)} {o : Obj} {ks : List Int} {Q : Value → Shared → Prop} (F : Fr h₀ L s.heap m) (N : News h₀ L s.heap news) (hm : (d, o) ∈ news) (ho : o.IsDictOf (IK w) (kv ks)) (lo : (d == sysModules) = false)
    (h : ∀ (v : Addr) h', Fr h₀ L h' m → News h₀ L h' ((v, viewObj d) :: news) → (∀ p ∈ news, p.1 < v) → Q (.ref v) { s with heap := h' }) : wpAny (model PySem.Challenge.rw_bq0028_01.row.prog w) A (call (.builtin "dict.keys") [.ref d]) Q E s :=
  have hD := kda_dict N hm ho
  call_meetsIn PySem.F.slot_dict_keys hD.typeIs PySem.F.entry_dict_keys (PySem.F.args_dict_keys_1 _) (kdl_meets_keys (IK w) d lo) ⟨⟨_, hD⟩, h _ _ (F.push _) (News.push F N _ rfl) fun p hp => Heap.lt_size (N p hp).1⟩
theorem slice1_I {w : World} {A : Around} {E : Value → Shared → Prop} {s : Shared} {h₀ : Heap} {L t : Addr} {m : Str → Option Value} {news : List (Addr × Obj)} {value slice : PySem.Expr} {v : Value} {vs : List Value} {u : Tok} {Q : Value → Shared → Prop} (F : Fr h₀ L s.heap m) (N : News h₀ L s.heap news)
    (mt : (t, { cls := .type "tuple", data := .seq (List.toArray (v :: vs)) }) ∈ news) (hz : (v :: vs).length ≤ 100)
    (h : ∀ (D : Addr) h', Fr h₀ L h' m → News h₀ L h' ((D, { cls := .type "tuple", data := .seq vs.toArray }) :: news) → (∀ p ∈ news, p.1 < D) → Q (.ref D) { s with heap := h' })
    (hs : subscripted slice false (.ref t) (.ref s.heap.objs.size) = operate [.ref s.heap.objs.size, .ref t] (getItem (.ref t) (.ref s.heap.objs.size))) (hg : ∀ r, letTemporaryGo value (.ref t) r = pure ()) :
    wpAny (model PySem.Challenge.rw_bq0028_01.row.prog w) A (subscriptTail value slice (.ref t) (.ref s.heap.objs.size)) Q E { s with heap := s.heap.push { cls := .type "slice", data := .fields #[.int 1 u, .none, .none] } } :=
  slice_tuple_from (a := 1) (u := u) F N (News.isTup N mt) (Nat.le_refl _) (by simp) (fun h' F' N' => h _ h' F' (by simpa using N') fun p hp => Nat.lt_succ_of_lt (Heap.lt_size (N p hp).1)) hs hg (by
    rw [sizeLine_eq]
    simp only [List.size_toArray]
    omega)
local macro_rules | `(tactic| walk_at "subscriptTail Name Slice ref ref") => `(tactic| (k_here; (with_reducible show wpAny _ _ (subscriptTail _ (PySem.Expr.Slice _ _ none _) (Value.ref _) (Value.ref _)) _ _ _); k_dflt (refine' slice1_I ?F ?N ?m ?z ?_ ?s ?t; (case F => k_asm); (case N => k_asm); (case m => k_mem); (case z => exact Nat.le_of_ble_eq_true rfl); (case s => with_unfolding_all rfl); (case t => kmk_pure)); intro D' h' F' N' l1; (try k_lt l1); (try k_sweep); walk_say "SLICE1"))
local macro_rules | `(tactic| walk_at "exec For Name Subscript cons nil") => `(tactic| (k_here; (rename Fr _ _ _ _ => lF'); (with_unfolding_all refine' For_turns lF' ?_; k_whole)))
local macro_rules | `(tactic| walk_at "call builtin:dict.keys") => `(tactic| (k_here; k_dflt (refine keys_I (by k_asm) (by k_asm) (by k_mem) (by k_asm) (by k_asm) ?_); intro D' h' F' N' l1; (try k_lt l1); walk_say "KEYS"))
local macro_rules | `(tactic| walk_at "inplaceOp BitAnd ref") => `(tactic| (k_here; k_dflt (first
  | (refine' iand_keys (by rfl) ?F ?N ?a ?b ?c ?d ?e ?f ?g ?i ?j ?k ?_; (case F => k_asm); (case N => k_asm); (case a => k_mem); (case b => k_mem); (case c => k_mem); (case d => k_mem); (case e => k_asm); (case f => k_asm); (case g => k_asm); (case i => k_asm); (case j => omega); (case k => omega))
  | (refine' iand_set (by rfl) ?F ?N ?a ?b ?c ?d ?e ?f ?g ?_; (case F => k_asm); (case N => k_asm); (case a => k_mem); (case b => k_asm); (case c => k_mem); (case d => k_mem); (case e => k_asm); (case f => k_asm); (case g => omega))); intro D' h' tk' o' rs' F' N' l1 c' e'; (try k_lt l1); walk_say "IAND"))
local macro_rules | `(tactic| k_enter) => `(tactic| (k_dflt (show codeAny _ _ (Code.call (Value.ref 29) ⟨[Value.ref _, Value.ref _], []⟩) _ _); k_dflt (refine' init_KS ?B ?F ?X ?T ?k ?hd ?hu ?N ?lt ?xd ?mS ?c ?_; (case B => k_asm); (case F => k_asm); (case X => k_asm); (case T => k_asm); (case k => first | exact rfl | assumption); (case N => k_asm); (case mS => k_mem); (case c => k_asm); (case lt => first | exact kst_ltOf (by k_asm) | (refine kst_ltOf ?_; simp only [AllLt, and_true]; k_asm)); (case xd => exact ltN (by omega)); (case hd => first | ktr_room | exact Nat.le_of_ble_eq_true rfl | (refine room203 (a := 0) ?_; ktr_room) | omega); (case hu => first | ktr_units | exact Nat.le_of_ble_eq_true rfl | (refine units203 (a := 0) ?_; ktr_units) | omega)); intro h' tk' d' o' ta' ms' hp' F' N' l1 lo' ho'; (try dsimp only [PySem.W.InitBack, PySem.W.CmpBack, PySem.W.LenBack, PySem.W.StrBack, PySem.W.BoolBack]); (try refine ⟨rfl, ?_⟩); (try dsimp only [PySem.W.InitBack]); walk_say "INITS"))
def ledger4 (w : World) (x1 dx1 d1 x2 dx2 d2 x3 dx3 d3 x4 dx4 d4 : Addr) (ta1 ta2 ta3 ta4 : Tok) (na1 na2 na3 na4 : Nat) (o1 o2 o3 o4 : Obj) (more : List (Addr × Obj)) : List (Addr × Obj) :=
  (x1, instObj 203 dx1) :: (dx1, dictOf (attrs w ta1 d1) na1) :: (d1, o1) :: (x2, instObj 203 dx2) :: (dx2, dictOf (attrs w ta2 d2) na2) :: (d2, o2) :: (x3, instObj 203 dx3) :: (dx3, dictOf (attrs w ta3 d3) na3) :: (d3, o3) :: (x4, instObj 203 dx4) :: (dx4, dictOf (attrs w ta4 d4) na4) :: (d4, o4) :: more
section
variable {w : World} {dp un : Nat} {gd : Option (List Code)} {cn : Str} {cs : Scope} {a : Addr} {ccd : Value} {cl : List (Str × Addr)} {outer : List Env} {A₀ : Around} {base h₀ : Heap} {L : Addr} {m : Str → Option Value} {s : Shared}
    {mean : ExcName → Option Value} {mg mb : Str → Option Value} {x1 dx1 d1 x2 dx2 d2 x3 dx3 d3 x4 dx4 d4 : Addr} {ta1 ta2 ta3 ta4 : Tok} {na1 na2 na3 na4 : Nat} {o1 o2 o3 o4 : Obj} {ks1 ks2 ks3 ks4 : List Int} {q1 q2 q3 q4 q5 q6 q7 q8 : Addr} {e1 e2 e3 e4 e5 e6 e7 e8 : Obj} {E Q : Value → Shared → Prop}
variable (B : Below A₀ base outer h₀) (F : Fr h₀ L s.heap m) (X : (hd.heap_39 w.params).In h₀) (T : Top hd.view_39 (looseW hd.view_39 [Str.ofString "OrderedSet"]) mean mg mb h₀) (hk : cs.kind = .function)
  (hdp : dp + 6 < recursionLimit) (hun : un + 100 < cLine) (N : News h₀ L s.heap (ledger4 w x1 dx1 d1 x2 dx2 d2 x3 dx3 d3 x4 dx4 d4 ta1 ta2 ta3 ta4 na1 na2 na3 na4 o1 o2 o3 o4 [(q1, e1), (q2, e2), (q3, e3), (q4, e4), (q5, e5), (q6, e6), (q7, e7), (q8, e8)]))
  (ho1 : o1.IsDictOf (IK w) (kv ks1)) (ho2 : o2.IsDictOf (IK w) (kv ks2)) (ho3 : o3.IsDictOf (IK w) (kv ks3)) (ho4 : o4.IsDictOf (IK w) (kv ks4))
  (lo1 : (d1 == sysModules) = false) (lo2 : (d2 == sysModules) = false) (lo3 : (d3 == sysModules) = false) (lo4 : (d4 == sysModules) = false)
  (hs1 : ∀ k ∈ ks1, 0 ≤ k ∧ k < 6) (hs2 : ∀ k ∈ ks2, 0 ≤ k ∧ k < 6) (hs3 : ∀ k ∈ ks3, 0 ≤ k ∧ k < 6) (hs4 : ∀ k ∈ ks4, 0 ≤ k ∧ k < 6) (hz1 : ks1.length ≤ 6) (hz2 : ks2.length ≤ 6) (hz3 : ks3.length ≤ 6) (hz4 : ks4.length ≤ 6)
include B F X T hk hdp hun N ho1 ho2 ho3 ho4 lo1 lo2 lo3 lo4 hs1 hs2 hs3 hs4 hz1 hz2 hz3 hz4
theorem inter4_K {R : Result → Shared → Prop}
    (h : ∀ h' tk x dx d o ta na ms, Fr h₀ L h' m → News h₀ L h' (can w x dx d ta na o (ledger4 w x1 dx1 d1 x2 dx2 d2 x3 dx3 d3 x4 dx4 d4 ta1 ta2 ta3 ta4 na1 na2 na3 na4 o1 o2 o3 o4 [(q1, e1), (q2, e2), (q3, e3), (q4, e4), (q5, e5), (q6, e6), (q7, e7), (q8, e8)])) →
      (∀ p ∈ ledger4 w x1 dx1 d1 x2 dx2 d2 x3 dx3 d3 x4 dx4 d4 ta1 ta2 ta3 ta4 na1 na2 na3 na4 o1 o2 o3 o4 [(q1, e1), (q2, e2), (q3, e3), (q4, e4), (q5, e5), (q6, e6), (q7, e7), (q8, e8)], p.1 < dx) → @LT.lt Nat _ dx x → @LT.lt Nat _ x d → (d == sysModules) = false → o.IsDictOf (IK w) (kv ms) →
      (∀ k, k ∈ ms ↔ ((k ∈ ks1 ∧ k ∈ ks2) ∧ k ∈ ks3) ∧ k ∈ ks4) → ms.length ≤ 6 → R (.ok (.ret (.ref x))) { s with heap := h', toks := tk }) :
    codeAny (model PySem.Challenge.rw_bq0028_01.row.prog w) (ktrTop dp un gd cn cs L a ccd cl outer) (.call (.ref 197) ⟨[.ref 203, .ref x1, .ref x2, .ref x3, .ref x4], []⟩) R s := by
  unfold ledger4 at N
  revert X; k_fill; intro X
  k_dflt (refine' kp_rest ?k1 ?k2 ?k3 ?k4 ?k5 ?kA ?kF ?kK ?k6 ?k7 ?k8 ?kV ?kP ?kG ?kB ?_ ?c2 ?c3 ?c4 ?c5; (case kA => exact rfl); (case kF => exact rfl); (case kK => assumption); (case k1 => k_asm); (case k2 => k_asm); (case k3 => k_asm); (case k4 => k_asm); (case k5 => k_asm); (case k6 => k_is); (case k7 => k_is); (case k8 => ktr_room); (case kV => kl_lit); (case kP => exact rfl); (case kG => exact fun _ => rfl); (case kB => exact fun _ => locs rfl); (case c5 => decide); (case c2 => exact rfl); (case c3 => exact rfl); (case c4 => exact rfl); k_whole; intro D' g' L' h' l1 FG' F' N' B' X' T'; (try k_lt l1); (try dsimp only); (try k_lift B'); (try k_fold))
  k_steps
  rename (∀ k, k ∈ _ ↔ k ∈ _ ∧ k ∈ ks4) => f4
  rename (∀ k, k ∈ _ ↔ k ∈ _ ∧ k ∈ ks3) => f3
  rename (∀ k, k ∈ _ ↔ k ∈ _ ∧ k ∈ ks2) => f2
  rename List.Perm _ _ => hp
  rename CanSet w _ _ => cS
  have hms := fun k => hp.mem_iff.trans ((f4 k).trans (and_congr_left fun _ => (f3 k).trans (and_congr_left fun _ => f2 k)))
  have hlen := Nat.le_trans (Nat.le_of_eq hp.length_eq) (sub_facts cS.2.1).2.1
  refine' h _ _ _ _ _ _ _ _ _ ?f (cb_drop ?n ?sb) (kst_ltOf ?lt) (ltN (by omega)) (ltN (by omega)) ?lo ?ho hms hlen
  case f => k_asm
  case n => k_asm
  case sb =>
    unfold ledger4 can
    (repeat (refine List.forall_mem_cons.mpr ⟨by k_mem, ?_⟩)); exact List.forall_mem_nil _
  case lt =>
    unfold ledger4
    simp only [AllLt, and_true]
    (repeat (refine And.intro (ltN (by omega)) ?_)); exact ltN (by omega)
  case lo => k_asm
  case ho => k_asm
end

-- part Inter1
/-! the meeting of one set -/
theorem view_in {h₀ h : Heap} {L v d : Addr} {news : List (Addr × Obj)} (N : News h₀ L h news) (mv : (v, viewObj d) ∈ news) : KdlKeysView h v d := ⟨_, (N _ mv).1, rfl, rfl⟩
section
variable {w : World} {dp un : Nat} {gd : Option (List Code)} {cn : Str} {cs : Scope} {a : Addr} {ccd : Value} {cl : List (Str × Addr)} {outer : List Env} {A₀ : Around} {base h₀ : Heap} {L : Addr} {m : Str → Option Value} {s : Shared}
    {mean : ExcName → Option Value} {mg mb : Str → Option Value} {x dx v dv : Addr} {ks : List Int} {ov : Obj} {ep : Nat} {news : List (Addr × Obj)} {R : Result → Shared → Prop}
theorem init_KV (B : Below A₀ base outer h₀) (F : Fr h₀ L s.heap m) (X : (hd.heap_39 w.params).In h₀) (T : Top hd.view_39 (looseW hd.view_39 [Str.ofString "OrderedSet"]) mean mg mb h₀) (hk : cs.kind = .function)
    (hdp : dp + 2 < recursionLimit) (hun : un + 20 < cLine) (N : News h₀ L s.heap ((x, instObj 203 dx) :: (dx, dictOf [] 0) :: news)) (hlt : ∀ p ∈ news, p.1 < dx) (hxd : @LT.lt Nat _ dx x)
    (mv : (v, viewObj dv) ∈ news) (md : (dv, ov) ∈ news) (ha : KdkAt (IK w) ov (kv ks) ep) (hz : ks.length ≤ 1000)
    (h : ∀ h' tk d o ta, Fr h₀ L h' m → News h₀ L h' (can w x dx d ta 1 o news) → @LT.lt Nat _ x d → (d == sysModules) = false → o.IsDictOf (IK w) (kv (ks.foldl put1 [])) → R (.ok (.ret .none)) { s with heap := h', toks := tk }) :
    codeAny (model PySem.Challenge.rw_bq0028_01.row.prog w) (ktrTop dp un gd cn cs L a ccd cl outer) (.call (.ref 29) ⟨[.ref x, .ref v], []⟩) R s :=
  init_K B F X T hk hdp hun N hlt hxd (fk_keys (ep := ep)) (fun g L h N => ⟨view_in N mv, ha.dictAt (N _ md).1⟩) hz h
end
local macro_rules | `(tactic| k_enter) => `(tactic| (k_dflt (show codeAny _ _ (Code.call (Value.ref 29) ⟨[Value.ref _, Value.ref _], []⟩) _ _); k_dflt (refine' init_KV ?B ?F ?X ?T ?k ?hd ?hu ?N ?lt ?xd ?mv ?md ?ha ?z ?_; (case B => k_asm); (case F => k_asm); (case X => k_asm); (case T => k_asm); (case k => first | exact rfl | assumption); (case N => k_asm); (case mv => k_mem); (case md => k_mem); (case ha => k_asm); (case lt => first | exact kst_ltOf (by k_asm) | (refine kst_ltOf ?_; simp only [AllLt, and_true]; k_asm)); (case xd => exact ltN (by omega)); (case z => omega); (case hd => first | ktr_room | exact Nat.le_of_ble_eq_true rfl | (refine room203 (a := 0) ?_; ktr_room) | omega); (case hu => first | ktr_units | exact Nat.le_of_ble_eq_true rfl | (refine units203 (a := 0) ?_; ktr_units) | omega)); intro h' tk' d' o' ta' F' N' l1 lo' ho'; (try dsimp only [PySem.W.InitBack, PySem.W.CmpBack, PySem.W.LenBack, PySem.W.StrBack, PySem.W.BoolBack]); (try refine ⟨rfl, ?_⟩); (try dsimp only [PySem.W.InitBack]); walk_say "INITV"))
section
variable {w : World} {dp un : Nat} {gd : Option (List Code)} {cn : Str} {cs : Scope} {a : Addr} {ccd : Value} {cl : List (Str × Addr)} {outer : List Env} {A₀ : Around} {base h₀ : Heap} {L : Addr} {m : Str → Option Value} {s : Shared}
    {mean : ExcName → Option Value} {mg mb : Str → Option Value} {x1 dx1 d1 : Addr} {ta1 : Tok} {na1 : Nat} {o1 : Obj} {ks1 : List Int} {q1 q2 q3 q4 q5 q6 q7 q8 q9 q10 q11 : Addr} {e1 e2 e3 e4 e5 e6 e7 e8 e9 e10 e11 : Obj} {E Q : Value → Shared → Prop}
variable (B : Below A₀ base outer h₀) (F : Fr h₀ L s.heap m) (X : (hd.heap_39 w.params).In h₀) (T : Top hd.view_39 (looseW hd.view_39 [Str.ofString "OrderedSet"]) mean mg mb h₀) (hk : cs.kind = .function)
  (hdp : dp + 6 < recursionLimit) (hun : un + 100 < cLine) (N : News h₀ L s.heap [(x1, instObj 203 dx1), (dx1, dictOf (attrs w ta1 d1) na1), (d1, o1), (q1, e1), (q2, e2), (q3, e3), (q4, e4), (q5, e5), (q6, e6), (q7, e7), (q8, e8), (q9, e9), (q10, e10), (q11, e11)])
  (ho1 : o1.IsDictOf (IK w) (kv ks1)) (lo1 : (d1 == sysModules) = false) (hz1 : ks1.length ≤ 6)
include B F X T hk hdp hun N ho1 lo1 hz1
theorem inter1_K {R : Result → Shared → Prop}
    (h : ∀ h' tk x dx d o ta na, Fr h₀ L h' m → News h₀ L h' (can w x dx d ta na o [(x1, instObj 203 dx1), (dx1, dictOf (attrs w ta1 d1) na1), (d1, o1), (q1, e1), (q2, e2), (q3, e3), (q4, e4), (q5, e5), (q6, e6), (q7, e7), (q8, e8), (q9, e9), (q10, e10), (q11, e11)]) →
      (∀ p ∈ [(x1, instObj 203 dx1), (dx1, dictOf (attrs w ta1 d1) na1), (d1, o1), (q1, e1), (q2, e2), (q3, e3), (q4, e4), (q5, e5), (q6, e6), (q7, e7), (q8, e8), (q9, e9), (q10, e10), (q11, e11)], p.1 < dx) → @LT.lt Nat _ dx x → @LT.lt Nat _ x d → (d == sysModules) = false → o.IsDictOf (IK w) (kv ks1) → R (.ok (.ret (.ref x))) { s with heap := h', toks := tk }) :
    codeAny (model PySem.Challenge.rw_bq0028_01.row.prog w) (ktrTop dp un gd cn cs L a ccd cl outer) (.call (.ref 197) ⟨[.ref 203, .ref x1], []⟩) R s := by
  obtain ⟨ep1, at1⟩ := KdkAt.of ho1
  have hnd := put1_nodup ks1 [] (by simpa using dict_nodup ho1)
  rw [List.nil_append] at hnd
  revert X; k_fill; intro X
  k_dflt (refine' kp_rest ?k1 ?k2 ?k3 ?k4 ?k5 ?kA ?kF ?kK ?k6 ?k7 ?k8 ?kV ?kP ?kG ?kB ?_ ?c2 ?c3 ?c4 ?c5; (case kA => exact rfl); (case kF => exact rfl); (case kK => assumption); (case k1 => k_asm); (case k2 => k_asm); (case k3 => k_asm); (case k4 => k_asm); (case k5 => k_asm); (case k6 => k_is); (case k7 => k_is); (case k8 => ktr_room); (case kV => kl_lit); (case kP => exact rfl); (case kG => exact fun _ => rfl); (case kB => exact fun _ => locs rfl); (case c5 => decide); (case c2 => exact rfl); (case c3 => exact rfl); (case c4 => exact rfl); k_whole; intro D' g' L' h' l1 FG' F' N' B' X' T'; (try k_lt l1); (try dsimp only); (try k_lift B'); (try k_fold))
  k_steps
  rename Obj.IsDictOf _ _ (kv (List.foldl put1 _ _)) => hoF
  rw [hnd] at hoF
  refine' h _ _ _ _ _ _ _ _ ?f (cb_drop ?n ?sb) (kst_ltOf ?lt) (ltN (by omega)) (ltN (by omega)) ?lo hoF
  case f => k_asm
  case n => k_asm
  case sb =>
    unfold can
    (repeat (refine List.forall_mem_cons.mpr ⟨by k_mem, ?_⟩)); exact List.forall_mem_nil _
  case lt =>
    simp only [AllLt, and_true]
    (repeat (refine And.intro (ltN (by omega)) ?_)); exact ltN (by omega)
  case lo => k_asm
end

-- part After
section
/-! after the loop -/
def lawAfter : List Stmt := match lawStmts with
  | _ :: _ :: _ :: _ :: _ :: r => r
  | _ => []
def KeepX (_ : List (Addr × Obj)) : Prop := True
theorem alone_eq {ks m n : List Int} (hs : Small ks) (p : m.Perm (put1 ks 9)) (o : m.Pairwise (· ≤ ·)) (p2 : n.Perm ks) (o2 : n.Pairwise (· ≤ ·)) : m = n ++ [9] := by
  have h9 : (9 : Int) ∉ ks := fun h => by have := (hs 9 h).2; omega
  rw [put1, if_neg h9] at p
  refine sorted_same o (List.pairwise_append.mpr ⟨o2, List.pairwise_singleton _ _, fun a ha c hc => ?_⟩) (p.trans (p2.symm.append_right _))
  rw [List.mem_singleton.mp hc]
  have := (hs a (p2.mem_iff.mp ha)).2
  omega
theorem meet_eq {ks ks2 ms m n : List Int} (hn : ks.Nodup) (hm : ms.Nodup) (hms : ∀ k, k ∈ ms ↔ ((k ∈ ks ∧ k ∈ ks2) ∧ k ∈ List.foldl put1 [] [0, 1, 2, 3]) ∧ k ∈ List.foldl put1 [] [1, 2, 3, 4]) (p : m.Perm ms) (o : m.Pairwise (· ≤ ·))
    (p2 : n.Perm (List.map (fun a => a) (List.filter (fun a => if (ks2.any fun x => x == a) = true then if 0 < a then if a < 4 then true else false else false else false) ks))) (o2 : n.Pairwise (· ≤ ·)) : m = n := by
  have e : List.foldl put1 [] [0, 1, 2, 3] = ([0, 1, 2, 3] : List Int) := by decide
  have e' : List.foldl put1 [] [1, 2, 3, 4] = ([1, 2, 3, 4] : List Int) := by decide
  rw [e, e'] at hms
  rw [List.map_id'] at p2
  refine sorted_same o o2 (p.trans (((List.perm_ext_iff_of_nodup hm (hn.filter _)).mpr fun a => ?_).trans p2.symm))
  rw [hms, List.mem_filter]
  have ea : (ks2.any fun x => x == a) = decide (a ∈ ks2) := any_mem ks2 a
  rw [ea]
  simp only [List.mem_cons, List.not_mem_nil, or_false, decide_eq_true_eq]
  constructor
  · rintro ⟨⟨⟨h1, h2⟩, h3⟩, h4⟩
    refine ⟨h1, ?_⟩
    rw [if_pos h2, if_pos (by omega), if_pos (by omega)]
  · rintro ⟨h1, h2⟩
    by_cases c1 : a ∈ ks2
    · by_cases c2 : 0 < a
      · by_cases c3 : a < 4
        · exact ⟨⟨⟨h1, c1⟩, by omega⟩, by omega⟩
        · rw [if_pos c1, if_pos c2, if_neg c3] at h2; cases h2
      · rw [if_pos c1, if_neg c2] at h2; cases h2
    · rw [if_neg c1] at h2; cases h2
theorem put3 : put1 [] 3 = [3] := by decide
section
variable {w : World} {dp un : Nat} {gd : Option (List Code)} {cn : Str} {cs : Scope} {a : Addr} {ccd : Value} {cl : List (Str × Addr)} {outer : List Env} {A₀ : Around} {base h₀ : Heap} {L : Addr} {m : Str → Option Value} {s : Shared}
    {mean : ExcName → Option Value} {mg mb : Str → Option Value} {x1 dx1 d1 x2 dx2 d2 x3 dx3 d3 x4 dx4 d4 y dy dd : Addr} {ta1 ta2 ta3 ta4 ty : Tok} {na1 na2 na3 na4 ny : Nat} {o1 o2 o3 o4 oy : Obj} {ks1 ks2 ks3 ks4 : List Int} {q1 q2 q3 q4 q5 q6 q7 q8 : Addr} {e1 e2 e3 e4 e5 e6 e7 e8 : Obj} {news : List (Addr × Obj)} {R : Result → Shared → Prop}
theorem inter4_X (hK : KeepX [(q1, e1), (q2, e2), (q3, e3), (q4, e4), (q5, e5), (q6, e6), (q7, e7), (q8, e8)]) (B : Below A₀ base outer h₀) (F : Fr h₀ L s.heap m) (X : (hd.heap_39 w.params).In h₀) (T : Top hd.view_39 (looseW hd.view_39 [Str.ofString "OrderedSet"]) mean mg mb h₀) (hk : cs.kind = .function)
    (hdp : dp + 6 < recursionLimit) (hun : un + 100 < cLine) (N : News h₀ L s.heap news) (hsub : ∀ p ∈ ledger4 w x1 dx1 d1 x2 dx2 d2 x3 dx3 d3 x4 dx4 d4 ta1 ta2 ta3 ta4 na1 na2 na3 na4 o1 o2 o3 o4 [(q1, e1), (q2, e2), (q3, e3), (q4, e4), (q5, e5), (q6, e6), (q7, e7), (q8, e8)], p ∈ news)
    (ho1 : o1.IsDictOf (IK w) (kv ks1)) (ho2 : o2.IsDictOf (IK w) (kv ks2)) (ho3 : o3.IsDictOf (IK w) (kv ks3)) (ho4 : o4.IsDictOf (IK w) (kv ks4))
    (lo1 : (d1 == sysModules) = false) (lo2 : (d2 == sysModules) = false) (lo3 : (d3 == sysModules) = false) (lo4 : (d4 == sysModules) = false)
    (hs1 : ∀ k ∈ ks1, 0 ≤ k ∧ k < 6) (hs2 : ∀ k ∈ ks2, 0 ≤ k ∧ k < 6) (hs3 : ∀ k ∈ ks3, 0 ≤ k ∧ k < 6) (hs4 : ∀ k ∈ ks4, 0 ≤ k ∧ k < 6) (hz1 : ks1.length ≤ 6) (hz2 : ks2.length ≤ 6) (hz3 : ks3.length ≤ 6) (hz4 : ks4.length ≤ 6)
    (h : ∀ h' tk x dx d o ta na ms, Fr h₀ L h' m → News h₀ L h' (can w x dx d ta na o (ledger4 w x1 dx1 d1 x2 dx2 d2 x3 dx3 d3 x4 dx4 d4 ta1 ta2 ta3 ta4 na1 na2 na3 na4 o1 o2 o3 o4 [(q1, e1), (q2, e2), (q3, e3), (q4, e4), (q5, e5), (q6, e6), (q7, e7), (q8, e8)])) →
      (∀ p ∈ ledger4 w x1 dx1 d1 x2 dx2 d2 x3 dx3 d3 x4 dx4 d4 ta1 ta2 ta3 ta4 na1 na2 na3 na4 o1 o2 o3 o4 [(q1, e1), (q2, e2), (q3, e3), (q4, e4), (q5, e5), (q6, e6), (q7, e7), (q8, e8)], p.1 < dx) → @LT.lt Nat _ dx x → @LT.lt Nat _ x d → (d == sysModules) = false → o.IsDictOf (IK w) (kv ms) →
      (∀ k, k ∈ ms ↔ ((k ∈ ks1 ∧ k ∈ ks2) ∧ k ∈ ks3) ∧ k ∈ ks4) → ms.length ≤ 6 → R (.ok (.ret (.ref x))) { s with heap := h', toks := tk }) :
    codeAny (model PySem.Challenge.rw_bq0028_01.row.prog w) (ktrTop dp un gd cn cs L a ccd cl outer) (.call (.ref 197) ⟨[.ref 203, .ref x1, .ref x2, .ref x3, .ref x4], []⟩) R s :=
  inter4_K B F X T hk hdp hun (cb_drop N hsub) ho1 ho2 ho3 ho4 lo1 lo2 lo3 lo4 hs1 hs2 hs3 hs4 hz1 hz2 hz3 hz4 h
theorem inter1_X (hK : KeepX [(q1, e1), (q2, e2), (q3, e3), (q4, e4), (q5, e5), (q6, e6), (q7, e7), (q8, e8)]) (B : Below A₀ base outer h₀) (F : Fr h₀ L s.heap m) (X : (hd.heap_39 w.params).In h₀) (T : Top hd.view_39 (looseW hd.view_39 [Str.ofString "OrderedSet"]) mean mg mb h₀) (hk : cs.kind = .function)
    (hdp : dp + 6 < recursionLimit) (hun : un + 100 < cLine) (N : News h₀ L s.heap news)
    (hsub : ∀ p ∈ [(x1, instObj 203 dx1), (dx1, dictOf (attrs w ta1 d1) na1), (d1, o1), (y, instObj 203 dy), (dy, dictOf (attrs w ty dd) ny), (dd, oy), (q1, e1), (q2, e2), (q3, e3), (q4, e4), (q5, e5), (q6, e6), (q7, e7), (q8, e8)], p ∈ news)
    (ho1 : o1.IsDictOf (IK w) (kv ks1)) (lo1 : (d1 == sysModules) = false) (hz1 : ks1.length ≤ 6)
    (h : ∀ h' tk x dx d o ta na, Fr h₀ L h' m → News h₀ L h' (can w x dx d ta na o [(x1, instObj 203 dx1), (dx1, dictOf (attrs w ta1 d1) na1), (d1, o1), (y, instObj 203 dy), (dy, dictOf (attrs w ty dd) ny), (dd, oy), (q1, e1), (q2, e2), (q3, e3), (q4, e4), (q5, e5), (q6, e6), (q7, e7), (q8, e8)]) →
      (∀ p ∈ [(x1, instObj 203 dx1), (dx1, dictOf (attrs w ta1 d1) na1), (d1, o1), (y, instObj 203 dy), (dy, dictOf (attrs w ty dd) ny), (dd, oy), (q1, e1), (q2, e2), (q3, e3), (q4, e4), (q5, e5), (q6, e6), (q7, e7), (q8, e8)], p.1 < dx) → @LT.lt Nat _ dx x → @LT.lt Nat _ x d → (d == sysModules) = false → o.IsDictOf (IK w) (kv ks1) → R (.ok (.ret (.ref x))) { s with heap := h', toks := tk }) :
    codeAny (model PySem.Challenge.rw_bq0028_01.row.prog w) (ktrTop dp un gd cn cs L a ccd cl outer) (.call (.ref 197) ⟨[.ref 203, .ref x1], []⟩) R s :=
  inter1_K B F X T hk hdp hun (cb_drop N hsub) ho1 lo1 hz1 h
end
local macro_rules | `(tactic| k_enter) => `(tactic| (k_dflt (show codeAny _ _ (Code.call (Value.ref 197) ⟨[Value.ref 203, Value.ref _, Value.ref _, Value.ref _, Value.ref _], []⟩) _ _); k_dflt (refine' inter4_X ?K ?B ?F ?X ?T ?k ?hd ?hu ?N ?sub ?a1 ?a2 ?a3 ?a4 ?b1 ?b2 ?b3 ?b4 ?c1 ?c2 ?c3 ?c4 ?d1 ?d2 ?d3 ?d4 ?_; (case K => assumption); (case B => k_asm); (case F => k_asm); (case X => k_asm); (case T => k_asm); (case k => first | exact rfl | assumption); (case N => k_asm); (case sub => (unfold ledger4; (repeat (refine List.forall_mem_cons.mpr ⟨by k_mem, ?_⟩)); exact List.forall_mem_nil _)); (case a1 => k_asm); (case a2 => k_asm); (case a3 => k_asm); (case a4 => k_asm); (case b1 => k_asm); (case b2 => k_asm); (case b3 => k_asm); (case b4 => k_asm); (case c1 => first | k_asm | decide); (case c2 => first | k_asm | decide); (case c3 => first | k_asm | decide); (case c4 => first | k_asm | decide); (case d1 => first | k_asm | decide); (case d2 => first | k_asm | decide); (case d3 => first | k_asm | decide); (case d4 => first | k_asm | decide); (case hd => first | ktr_room | exact Nat.le_of_ble_eq_true rfl | omega); (case hu => first | ktr_units | exact Nat.le_of_ble_eq_true rfl | omega)); intro h' tk' x' dx' d' o' ta' na' ms' F' N' l1 l2 l3 lo' ho' hms' hzm'; (try unfold ledger4 at N' l1); (try unfold can at N'); (try k_lt l1); (try dsimp only); walk_say "C197a"))
local macro_rules | `(tactic| k_enter) => `(tactic| (k_dflt (show codeAny _ _ (Code.call (Value.ref 197) ⟨[Value.ref 203, Value.ref _], []⟩) _ _); k_dflt (refine' inter1_X ?K ?B ?F ?X ?T ?k ?hd ?hu ?N ?sub ?a1 ?b1 ?d1 ?_; (case K => assumption); (case B => k_asm); (case F => k_asm); (case X => k_asm); (case T => k_asm); (case k => first | exact rfl | assumption); (case N => k_asm); (case sub => ((repeat (refine List.forall_mem_cons.mpr ⟨by k_mem, ?_⟩)); exact List.forall_mem_nil _)); (case a1 => k_asm); (case b1 => k_asm); (case d1 => first | k_asm | decide); (case hd => first | ktr_room | exact Nat.le_of_ble_eq_true rfl | omega); (case hu => first | ktr_units | exact Nat.le_of_ble_eq_true rfl | omega)); intro h' tk' x' dx' d' o' ta' na' F' N' l1 l2 l3 lo' ho'; (try unfold can at N'); (try k_lt l1); (try dsimp only); walk_say "C197b"))
local macro_rules | `(tactic| walk_at "call ref") => `(tactic| (k_here; (with_reducible show wpAny _ _ (call (Value.ref 231) _) _ _ _); k_dflt (show wpAny _ _ (call (Value.ref 231) [Value.ref _, Value.ref _]) _ _ _); refine wpAny_call ?_; k_dflt (refine' same_K ?B ?F ?X ?T ?k ?hd ?hu ?N ?mx ?mdx ?md ?ho ?lo ?mr ?i ?z ?_; (case B => k_asm); (case F => k_asm); (case X => k_asm); (case T => k_asm); (case k => first | exact rfl | assumption); (case N => k_asm); (case mx => k_mem); (case mdx => k_mem); (case md => k_mem); (case ho => k_asm); (case lo => k_asm); (case mr => k_mem); (case i => first | l_ints | (rw [put3]; l_ints)); (case hd => first | ktr_room | exact Nat.le_of_ble_eq_true rfl | omega); (case hu => first | ktr_units | exact Nat.le_of_ble_eq_true rfl | omega); (case z => first | decide | omega)); intro h' tk' F' N'; (try dsimp only); walk_say "C231a"))
local macro_rules | `(tactic| walk_at "call builtin:sorted") => `(tactic| (k_here; k_dflt (refine' sorted_own ?B ?F ?X ?T ?k ?hd ?hu ?N ?mx ?mdx ?md ?ho ?lo ?z ?_; (case B => k_asm); (case F => k_asm); (case X => k_asm); (case T => k_asm); (case k => first | exact rfl | assumption); (case N => k_asm); (case mx => k_mem); (case mdx => k_mem); (case md => k_mem); (case ho => k_asm); (case lo => k_asm); (case hd => ktr_room); (case hu => ktr_units); (case z => first | omega | (refine Nat.lt_of_le_of_lt (put1_length _ _) ?_; omega))); intro D' c' h' tk' vs' ms' F' N' l1 hI' hP' hS'; (try k_lt l1)))
local macro_rules | `(tactic| k_enter) => `(tactic| (k_dflt (show codeAny _ _ (Code.call (Value.ref 29) ⟨[Value.ref _], []⟩) _ _); k_dflt (refine' init0_K ?B ?F ?X ?T ?k ?hd ?hu ?N ?lt ?xd ?_; (case B => k_asm); (case F => k_asm); (case X => k_asm); (case T => k_asm); (case k => first | exact rfl | assumption); (case N => k_asm); (case lt => first | exact kst_ltOf (by k_asm) | (refine kst_ltOf ?_; simp only [AllLt, and_true]; k_asm)); (case xd => exact ltN (by omega)); (case hd => first | ktr_room | exact Nat.le_of_ble_eq_true rfl | omega); (case hu => first | ktr_units | exact Nat.le_of_ble_eq_true rfl | omega)); intro h' tk' d' o' ta' F' N' l1 lo' ho'; (try dsimp only [PySem.W.InitBack, PySem.W.CmpBack, PySem.W.LenBack, PySem.W.StrBack, PySem.W.BoolBack]); (try refine ⟨rfl, ?_⟩); (try dsimp only [PySem.W.InitBack]); walk_say "INIT0"))
local macro_rules | `(tactic| walk_at "call ref") => `(tactic| (k_here; (with_reducible show wpAny _ _ (call (Value.ref 92) _) _ _ _); k_dflt (show wpAny _ _ (call (Value.ref 92) [Value.ref _, Value.int _ _]) _ _ _); refine wpAny_call ?_; k_dflt (refine' add_K ?B ?F ?X ?T ?k ?hd ?hu ?N ?mx ?mdx ?U ?ho ?lo ?z ?_; (case B => k_asm); (case F => k_asm); (case X => k_asm); (case T => k_asm); (case k => first | exact rfl | assumption); (case N => k_asm); (case mx => k_mem); (case mdx => k_mem); (case U => k_updF); (case ho => k_asm); (case lo => k_asm); (case z => first | omega | decide); (case hd => first | ktr_room | exact Nat.le_of_ble_eq_true rfl | omega); (case hu => first | ktr_units | exact Nat.le_of_ble_eq_true rfl | omega); ); intro h' tk' o' F' N' ho'; (try dsimp only at N'); (try dsimp only); walk_say "C92a"))
local macro_rules | `(tactic| walk_at "CompPack") => `(tactic| ((refine CompPack.intro ?_); (rename News _ _ _ _ => N9'); (try unfold can at N9'); k_dflt (refine ⟨_, _, _, _, rfl, News.isList (by k_asm) (by k_mem), IntsAre.areOf (by k_asm), (by simp only [sizeLine_eq]; omega), (by k_asm), (by k_asm), ?_, ?_, ?_⟩) <;> (first
  | (intros; (rename Heap.Ns _ _ _ => hn'); (rename (∀ b o, Heap.get? _ b = some o → Heap.get? _ b = some o) => hk''); (rename (Array.size _ ≤ _) => hC'); (have Fc' := frInComp hn' hk'' hC'); (rename ItemKind.is _ _ _ => i'); (obtain ⟨_, e'⟩ := ItemKind.int_is i'); subst e'; (try (((with_reducible refine wpAny_leafK ?_); (try (first | ((with_reducible refine markB ?_); intro _) | ((with_reducible refine markD ?_); intro _)))))))
  | (intros; (rename CarriedAll _ _ => Y'))
  | skip)))
local macro_rules | `(tactic| walk_at "SeqLeaf") => `(tactic| ((with_reducible show SeqLeaf ((_ = ite _ _ _) ∧ _)); (refine SeqLeaf.intro ⟨?_, ?_⟩); (first | exact Eq.trans (Eq.trans rfl (if_pos (by assumption)).symm) (if_pos (by assumption)).symm | exact Eq.trans (Eq.trans rfl (if_neg (by assumption)).symm) (if_pos (by assumption)).symm | exact Eq.trans rfl (if_neg (by assumption)).symm); (with_unfolding_all first | exact ⟨_, _, rfl, fun _ _ e => e⟩ | exact ⟨_, _, rfl, Fr.keep (by assumption)⟩)))
local macro_rules | `(tactic| walk_at "call builtin:sorted") => `(tactic| (k_here; (with_reducible show wpAny _ _ (call (Value.builtin _) [Value.ref _]) _ _ _); (with_unfolding_all refine' kso_sorted ?k1 ?k2 ?k3 ?k4 ?k5 ?_; (case k1 => k_asm); (case k2 => k_asm); (case k3 => kso_list); (case k4 => l_ints); (case k5 => (rw [List.length_map]; exact Nat.lt_of_le_of_lt (List.length_filter_le _ _) (by omega))); k_whole); intro D' v' n' c' h' F' N' l1 i' e' p' o' b'; (try k_lt l1)))
local macro_rules | `(tactic| walk_at "call builtin:sorted") => `(tactic| (k_here; gn_on))
section
variable {w : World} {L fa sl : Addr} {cdv : Value} {base : Heap} {s : Shared} {mean : ExcName → Option Value} {mg mb : Str → Option Value} {E : Value → Shared → Prop}
  {r b x dx d x2 dx2 d2 : Addr} {ta ta2 : Tok} {na na2 c c2 : Nat} {o o2 om ot ob : Obj} {us bs : List Value} {ks ks2 : List Int} {vt vm : Option Value} {u : Str → Option Value} {Q : Flow → Shared → Prop}
theorem law_after (B : Below callerA base [] base) (X : (hd.heap_39 w.params).In base) (T : Top hd.view_39 (looseW hd.view_39 [Str.ofString "OrderedSet"]) mean mg mb base)
    (cm : om.data = .cell vm) (ct : ot.data = .cell vt) (cb : ob.data = .cell (some (.ref b))) (ho : o.IsDictOf (IK w) (kv ks)) (ho2 : o2.IsDictOf (IK w) (kv ks2)) (lo : (d == sysModules) = false) (lo2 : (d2 == sysModules) = false) (hdd : d ≠ d2)
    (hi : IntsAre us ks) (hi2 : IntsAre bs ks2) (hs : Small ks) (hs2 : Small ks2)
    (F : Fr base L s.heap (fun z => if z = Str.ofString "script" then some (.ref sl) else if z = Str.ofString "one" then some (.ref x) else if z = Str.ofString "other" then some (.ref x2) else if z = Str.ofString "row" then some (.ref r) else u z)) (N : News base L s.heap (all11 w L r b x dx d x2 dx2 d2 ta ta2 na na2 c c2 o o2 om ot ob us bs))
    (hQ : ∀ h' tk m', Fr base L h' m' → Q (.ret (.bool true)) { s with heap := h', toks := tk }) :
    wpAny (model PySem.Challenge.rw_bq0028_01.row.prog w) (callerA.deeper (envOfC (Str.ofString "law") lawScope L fa cdv)) (execs lawAfter (envOfC (Str.ofString "law") lawScope L fa cdv)) Q E s := by
  have hz := small_nodup hs (dict_nodup ho)
  have hz2 := small_nodup hs2 (dict_nodup ho2)
  have hs' : ∀ k ∈ ks, 0 ≤ k ∧ k < 6 := hs
  have hs2' : ∀ k ∈ ks2, 0 ≤ k ∧ k < 6 := hs2
  have hK4 : KeepX [(r, listOf us.toArray c), (b, listOf bs.toArray c2), (x2, instObj 203 dx2), (dx2, dictOf (attrs w ta2 d2) na2), (d2, o2), (L + 1 + 1 + 1, om), (L + 1 + 1, ot), (L + 1, ob)] := trivial
  unfold all11 at N
  revert X; k_fill; intro X
  dsimp only [lawAfter, lawStmts, lawScope, lastOf, PySem.Challenge.pw_bq0028_01]
  k_steps
  all_goals (first | exact default | skip)
  · exact hQ _ _ _ (by k_asm)
  · rename ¬ _ = _ => q
    rename ∀ k, k ∈ _ ↔ _ => hmm
    refine absurd (meet_eq (dict_nodup ho) ?zza hmm ?zzb ?zzc ?zzd ?zze) q
    case zza => exact dict_nodup (w := w) (by assumption)
    all_goals assumption
  · rename ¬ _ = _ => q
    exact absurd (alone_eq hs (by assumption) (by assumption) (by assumption) (by assumption)) q
end

end
-- part Law
/-! the law -/
section
variable {w : World} {L fa sl : Addr} {cdv : Value} {base : Heap} {s : Shared} {mean : ExcName → Option Value} {mg mb : Str → Option Value} {E : Value → Shared → Prop}
  {svs : List Value} {sns : List Int} {news : List (Addr × Obj)} {m₁ : Str → Option Value} {r b x dx d x2 dx2 d2 : Addr} {ta ta2 : Tok} {na na2 c c2 : Nat} {o o2 om ot ob : Obj} {us bs : List Value} {ks ks2 : List Int} {vt vm : Option Value} {Q : Flow → Shared → Prop}
theorem law_rest {scope : Scope} {body after : List Stmt} (hsc : scope = lawScope) (hbo : body = loopBody) (haf : after = lawAfter) (B : Below callerA base [] base) (X : (hd.heap_39 w.params).In base) (T : Top hd.view_39 (looseW hd.view_39 [Str.ofString "OrderedSet"]) mean mg mb base)
    (hl : base.IsList sl svs.toArray) (hsi : IntsAre svs sns) (hlen : sns.length < 2 ^ 62) {rg : Addr} {b₀ : Int} {t₀ u₀ v₀ : Tok}
    (hr : IsRange s.heap rg 0 b₀ 1 t₀ u₀ v₀) (hb0 : 0 ≤ b₀) (hb : b₀ < 13) (F : Fr base L s.heap m₁) (N : News base L s.heap news)
    (h1 : m₁ (Str.ofString "script") = some (.ref sl)) (h2 : m₁ (Str.ofString "one") = some (.ref x)) (h3 : m₁ (Str.ofString "other") = some (.ref x2)) (h4 : m₁ (Str.ofString "row") = some (.ref r))
    (e4 : (x, instObj 203 dx) ∈ news) (e5 : (dx, dictOf (attrs w ta d) na) ∈ news) (e6 : (d, o) ∈ news) (e7 : (x2, instObj 203 dx2) ∈ news) (e8 : (dx2, dictOf (attrs w ta2 d2) na2) ∈ news) (e9 : (d2, o2) ∈ news)
    (e10 : (L + 1 + 1 + 1, om) ∈ news) (e11 : (L + 1 + 1, ot) ∈ news) (e12 : (L + 1, ob) ∈ news)
    (cm : om.data = .cell vm) (ct : ot.data = .cell vt) (cb : ob.data = .cell (some (.ref b))) (e2 : (r, listOf us.toArray c) ∈ news) (e3 : (b, listOf bs.toArray c2) ∈ news) (ho : o.IsDictOf (IK w) (kv ks)) (ho2 : o2.IsDictOf (IK w) (kv ks2)) (lo : (d == sysModules) = false) (lo2 : (d2 == sysModules) = false) (hdd : d ≠ d2)
    (hi : IntsAre us ks) (hi2 : IntsAre bs ks2) (hs : Small ks) (hs2 : Small ks2)
    (hQ : ∀ h' tk m', Fr base L h' m' → Q (.ret (.bool true)) { s with heap := h', toks := tk }) :
    wpAny (model PySem.Challenge.rw_bq0028_01.row.prog w) (callerA.deeper (envOfC (Str.ofString "law") scope L fa cdv)) (pyIter (.ref rg)) (fun it s₂ => LoopAtV PySem.Challenge.rw_bq0028_01.row.prog w (callerA.deeper (envOfC (Str.ofString "law") scope L fa cdv)) base (envOfC (Str.ofString "law") scope L fa cdv) (Str.ofString "k") body
      (fun f s' => match f with
        | .next => wpAny (model PySem.Challenge.rw_bq0028_01.row.prog w) (callerA.deeper (envOfC (Str.ofString "law") scope L fa cdv)) (execs after (envOfC (Str.ofString "law") scope L fa cdv)) Q E s'
        | f => Q f s') E it s₂) E s := by
  subst hsc; subst hbo; subst haf
  have hJ : Inv w L (.ref sl) m₁ (all11 w L r b x dx d x2 dx2 d2 ta ta2 na na2 c c2 o o2 om ot ob us bs) := ⟨r, b, x, dx, d, x2, dx2, d2, ta, ta2, na, na2, c, c2, o, o2, om, ot, ob, us, bs, ks, ks2, vt, vm, rfl, h1, h2, h3, h4, cm, ct, cb, ho, ho2, lo, lo2, hdd, hi, hi2, hs, hs2⟩
  have N1 : News base L s.heap (all11 w L r b x dx d x2 dx2 d2 ta ta2 na na2 c c2 o o2 om ot ob us bs) := fun p hp => by
    simp only [all11, List.mem_cons, List.not_mem_nil, or_false] at hp
    rcases hp with rfl | rfl | rfl | rfl | rfl | rfl | rfl | rfl | rfl | rfl | rfl
    · exact N _ e2
    · exact N _ e3
    · exact N _ e4
    · exact N _ e5
    · exact N _ e6
    · exact N _ e7
    · exact N _ e8
    · exact N _ e9
    · exact N _ e10
    · exact N _ e11
    · exact N _ e12
  refine law_loop (by rfl) B X T hl hsi hlen hr hb0 hb F N1 hJ ?_
  intro h' tk m' news' F' N' hJ'
  obtain ⟨r, b, x, dx, d, x2, dx2, d2, ta, ta2, na, na2, c, c2, o, o2, om, ot, ob, us, bs, ks, ks2, vt, vm, rfl, g1, g2, g3, g4, cm, ct, cb, ho, ho2, lo, lo2, hdd, hi, hi2, hs, hs2⟩ := hJ'
  have F3 := fr_eq F' (kmap_eq g1 g2 g3 g4)
  exact law_after B X T cm ct cb ho ho2 lo lo2 hdd hi hi2 hs hs2 F3 N' fun h'' tk' m'' F'' => hQ h'' tk' m'' F''
end
theorem law_top : PySem.Challenge.rw_bq0028_01.Holds := by
  refine hd ?_
  k_go0
  (all_goals try k_fold)
  k_steps
  rename IsRange _ _ _ _ _ _ _ _ => hR
  k_dflt (refine' law_rest (by rfl) (by rfl) (by rfl) ?zB ?zX ?zT ?zl ?zi ?zn hR ?z0 ?z13 ?zF ?zN ?z1 ?z2 ?z3 ?z4 ?zm1 ?zm2 ?zm3 ?zm4 ?zm5 ?zm6 ?zm7 ?zm8 ?zm9 ?zcm ?zct ?zcb ?zm10 ?zm11 ?zho ?zho2 ?zlo ?zlo2 ?zd ?zr ?zb ?zs ?zs2 ?zQ)
  case zB => k_asm
  case zX => k_asm
  case zT => k_asm
  case zl => k_asm
  case zi => k_asm
  case zn => omega
  case z0 => exact Int.fmod_nonneg_of_pos _ (by decide)
  case z13 => exact Int.fmod_lt_of_pos _ (by decide)
  case zF => k_asm
  case zN => k_asm
  case z1 => rfl
  case z2 => rfl
  case z3 => rfl
  case z4 => rfl
  case zm1 => k_mem
  case zm2 => k_mem
  case zm3 => k_mem
  case zm4 => k_mem
  case zm5 => k_mem
  case zm6 => k_mem
  case zm7 => k_mem
  case zm8 => k_mem
  case zm9 => k_mem
  case zcm => assumption
  case zct => assumption
  case zcb => assumption
  case zm10 => k_mem
  case zm11 => k_mem
  case zho => k_asm
  case zho2 => k_asm
  case zlo => k_asm
  case zlo2 => k_asm
  case zd => exact neN (by omega)
  case zr => k_asm
  case zb => k_asm
  case zs => exact small_putl small_nil (by assumption)
  case zs2 => exact small_putl small_nil (by assumption)
  case zQ =>
    intro h' tk' m' F'
    dsimp only
    k_steps

end Mine
theorem PySem.Challenge.cw_bq0028_01_holds : PySem.Challenge.rw_bq0028_01.Holds := by
  exact Mine.law_top
