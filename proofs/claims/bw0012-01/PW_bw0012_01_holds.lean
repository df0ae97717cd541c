import PyProof.Rows.All
import Wide.All
import OpenK.AllK
import Wide.FinOn
import PySem.Challenge.RW_bw0012_01
set_option Elab.async false
set_option rowWalk.seconds 0

section
open PySem PySem.W PyProof.Rows
set_option Elab.async false
set_option maxRecDepth 100000
set_option maxHeartbeats 8000000
namespace Mine
open_top hd for PySem.Challenge.rw_bw0012_01

end Mine

end

section
open PySem PySem.W PyProof.Rows PySem.Spec PyProof.V
set_option Elab.async false
set_option maxRecDepth 100000
set_option maxHeartbeats 8000000
namespace Mine
abbrev fieldsOf (w : World) (mp q lk : Nat) (cap : Int) (t0 t1 t2 t3 t4 : Tok) : Obj :=
  dictOf [⟨PyData.keyHash w.params "capacity", .str "capacity" t1, .int cap t0⟩, ⟨PyData.keyHash w.params "_mapping", .str "_mapping" t2, .ref mp⟩, ⟨PyData.keyHash w.params "_queue", .str "_queue" t3, .ref q⟩, ⟨PyData.keyHash w.params "_wlock", .str "_wlock" t4, .ref lk⟩] 4

/-- what the mapping holds -/
def MapIs (val : Int → Int) (D : List (PyData × PyData)) (qs : List Int) : Prop :=
  ∃ ks : List Int, D = ks.map (fun k => (PyData.int k, PyData.int (val k))) ∧ ks.Perm qs

theorem MapIs.nil {val : Int → Int} : MapIs val [] [] := ⟨[], rfl, .refl _⟩
theorem lookup_ks {val : Int → Int} {k : Int} : ∀ {ks : List Int}, Spec.lookup (.int k) (ks.map fun k => (PyData.int k, PyData.int (val k))) = if k ∈ ks then some (.int (val k)) else none
  | [] => by simp [Spec.lookup]
  | a :: r => by
    rw [List.map_cons, Spec.lookup, lookup_ks (ks := r), PyProof.V.same_int]
    by_cases e : a = k
    · subst e; simp
    · have e' : ¬ k = a := fun q => e q.symm
      simp [e, e']
theorem MapIs.length {val : Int → Int} {D : List (PyData × PyData)} {qs : List Int} (h : MapIs val D qs) : D.length = qs.length := by
  obtain ⟨ks, rfl, p⟩ := h
  rw [List.length_map, p.length_eq]
theorem MapIs.look {val : Int → Int} {D : List (PyData × PyData)} {qs : List Int} (h : MapIs val D qs) {k : Int} (hk : k ∈ qs) : Spec.lookup (.int k) D = some (.int (val k)) := by
  obtain ⟨ks, rfl, p⟩ := h
  rw [lookup_ks, if_pos (p.mem_iff.mpr hk)]
theorem MapIs.lookN {val : Int → Int} {D : List (PyData × PyData)} {qs : List Int} (h : MapIs val D qs) {k : Int} (hk : k ∉ qs) : Spec.lookup (.int k) D = none := by
  obtain ⟨ks, rfl, p⟩ := h
  rw [lookup_ks, if_neg (fun q => hk (p.mem_iff.mp q))]
theorem MapIs.isSome {val : Int → Int} {D : List (PyData × PyData)} {qs : List Int} (h : MapIs val D qs) (k : Int) : (Spec.lookup (.int k) D).isSome = decide (k ∈ qs) := by
  by_cases hk : k ∈ qs
  · rw [h.look hk]; simp [hk]
  · rw [h.lookN hk]; simp [hk]
theorem putD_in {val : Int → Int} {k : Int} {ks : List Int} (hk : k ∈ ks) : putD (.int k) (.int (val k)) (ks.map fun k => (PyData.int k, PyData.int (val k))) = ks.map fun k => (PyData.int k, PyData.int (val k)) := by
  unfold putD
  rw [if_pos]
  · rw [List.map_map]
    refine List.map_congr_left fun a _ => ?_
    show (if Spec.same (.int a) (.int k) = true then (PyData.int a, PyData.int (val k)) else (PyData.int a, PyData.int (val a))) = _
    rw [PyProof.V.same_int]
    by_cases e : a = k
    · subst e; simp
    · simp [e]
  · rw [List.any_eq_true]
    exact ⟨_, List.mem_map.mpr ⟨k, hk, rfl⟩, by show Spec.same (.int k) (.int k) = true; rw [PyProof.V.same_int]; simp⟩
theorem putD_out {val : Int → Int} {k : Int} {ks : List Int} (hk : k ∉ ks) : putD (.int k) (.int (val k)) (ks.map fun k => (PyData.int k, PyData.int (val k))) = (ks ++ [k]).map fun k => (PyData.int k, PyData.int (val k)) := by
  unfold putD
  rw [if_neg]
  · simp
  · rw [List.any_eq_true]
    rintro ⟨p, hp, he⟩
    obtain ⟨a, ha, rfl⟩ := List.mem_map.mp hp
    have he : Spec.same (.int a) (.int k) = true := he
    rw [PyProof.V.same_int] at he
    exact hk ((of_decide_eq_true he) ▸ ha)
theorem MapIs.put_in {val : Int → Int} {D : List (PyData × PyData)} {qs : List Int} (h : MapIs val D qs) {k : Int} (hk : k ∈ qs) : MapIs val (putD (.int k) (.int (val k)) D) (qs.erase k ++ [k]) := by
  obtain ⟨ks, rfl, p⟩ := h
  refine ⟨ks, putD_in (p.mem_iff.mpr hk), p.trans ?_⟩
  exact (List.perm_cons_erase hk).trans (List.perm_append_comm (l₁ := [k]) (l₂ := qs.erase k))
theorem MapIs.put_out {val : Int → Int} {D : List (PyData × PyData)} {qs : List Int} (h : MapIs val D qs) {k : Int} (hk : k ∉ qs) : MapIs val (putD (.int k) (.int (val k)) D) (qs ++ [k]) := by
  obtain ⟨ks, rfl, p⟩ := h
  exact ⟨ks ++ [k], putD_out (fun q => hk (p.mem_iff.mp q)), p.append_right _⟩
theorem delD_ks {val : Int → Int} {k : Int} : ∀ {ks : List Int}, delD (.int k) (ks.map fun k => (PyData.int k, PyData.int (val k))) = (ks.filter (fun a => a != k)).map fun k => (PyData.int k, PyData.int (val k))
  | [] => rfl
  | a :: r => by
    have ih := delD_ks (val := val) (k := k) (ks := r)
    unfold delD at ih ⊢
    rw [List.map_cons, List.filter_cons, List.filter_cons, ih]
    show (if (!Spec.same (.int a) (.int k)) = true then _ else _) = _
    rw [PyProof.V.same_int]
    by_cases e : a = k
    · subst e; simp
    · simp [e]
theorem MapIs.del {val : Int → Int} {D : List (PyData × PyData)} {qs : List Int} (h : MapIs val D qs) (hn : qs.Nodup) (k : Int) : MapIs val (delD (.int k) D) (qs.erase k) := by
  obtain ⟨ks, rfl, p⟩ := h
  refine ⟨ks.filter (fun a => a != k), delD_ks, ?_⟩
  rw [hn.erase_eq_filter]
  exact p.filter _

/-! int lists of the ledger -/
theorem kf_ints_of : ∀ {vs : List Value} {qs : List Int}, IntsAre vs qs → kf_ints vs = true
  | [], _, _ => rfl
  | _ :: _, _, .cons (vs := vs) (ns := ns) a t h => by
    show kf_ints vs = true
    exact kf_ints_of h
theorem kf_at_of {k : Int} : ∀ {vs : List Value} {qs : List Int}, IntsAre vs qs → k ∈ qs → kf_at k vs = some (qs.idxOf k)
  | _, _, .nil, hk => nomatch hk
  | _, _, .cons (vs := vs) (ns := ns) a t h, hk => by
    unfold kf_at
    by_cases e : a = k
    · subst e; simp [isInt]
    · have hk' : k ∈ ns := by
        rcases List.mem_cons.mp hk with h | h
        · exact absurd h.symm e
        · exact h
      have e2 : isInt k (.int a t) = false := by simp [isInt, e]
      have e' : (a == k) = false := by simp [e]
      rw [e2, kf_at_of h hk']
      simp [List.idxOf_cons, e']
theorem ki_delL_of : ∀ {vs : List Value} {j : Nat}, j < vs.length → ki_delL vs j = some (vs.eraseIdx j)
  | [], _, h => absurd h (Nat.not_lt_zero _)
  | _ :: _, 0, _ => rfl
  | _ :: r, j + 1, h => by
    unfold ki_delL
    rw [ki_delL_of (vs := r) (j := j) (Nat.lt_of_succ_lt_succ h)]
    rfl
theorem ints_erase {k : Int} : ∀ {vs : List Value} {qs : List Int}, IntsAre vs qs → k ∈ qs → IntsAre (vs.eraseIdx (qs.idxOf k)) (qs.erase k)
  | _, _, .nil, hk => nomatch hk
  | _, _, .cons (vs := vs) (ns := ns) a t h, hk => by
    by_cases e : a = k
    · subst e; simpa using h
    · have hk' : k ∈ ns := by
        rcases List.mem_cons.mp hk with h | h
        · exact absurd h.symm e
        · exact h
      have := ints_erase h hk'
      rw [List.idxOf_cons, List.erase_cons]
      have e' : (a == k) = false := by simp [e]
      simp only [e', Bool.cond_false, List.eraseIdx_cons_succ, Bool.false_eq_true, if_false]
      exact .cons a t this
theorem ints_eraseIdx : ∀ {vs : List Value} {qs : List Int} (j : Nat), IntsAre vs qs → IntsAre (vs.eraseIdx j) (qs.eraseIdx j)
  | _, _, _, .nil => .nil
  | _, _, 0, .cons _ _ h => h
  | _, _, j + 1, .cons a t h => .cons a t (ints_eraseIdx j h)
theorem isInt_eq {k a : Int} {t : Tok} : isInt k (.int a t) = decide (a = k) := by
  simp only [isInt]
  by_cases e : a = k <;> simp [e]
theorem any_isInt {k : Int} : ∀ {vs : List Value} {qs : List Int}, IntsAre vs qs → vs.any (isInt k) = decide (k ∈ qs)
  | _, _, .nil => by simp
  | _, _, .cons a t h => by
    rw [List.any_cons, any_isInt h, isInt_eq]
    by_cases e : a = k
    · subst e; simp
    · have e' : ¬ k = a := fun q => e q.symm
      simp [e, e']

section
variable {prog : Program} {w : World} {A : Around} {E : Value → Shared → Prop} {s : Shared} {h₀ : Heap} {L D : Addr} {m : Str → Option Value} {news : List (Addr × Obj)} {g : Obj → List (Addr × Obj)} {vs : List Value} {qs : List Int} {n : Nat} {k : Int} {t : Tok}

theorem rem_S {Q : Value → Shared → Prop} (F : Fr h₀ L s.heap m) (N : News h₀ L s.heap news) (U : UpdF D (listOf vs.toArray n) news g) (hi : IntsAre vs qs) (hk : k ∈ qs) (hz : qs.length ≤ 1000)
    (h : ∀ h' vs' n', IntsAre vs' (qs.erase k) → (qs.erase k).length + 1 = qs.length → Fr h₀ L h' m → News h₀ L h' (g (listOf vs'.toArray n')) → Q .none { s with heap := h' }) :
    wpAny (model prog w) A (call (.builtin "list.remove") [.ref D, .int k t]) Q E s := by
  obtain ⟨pre, post, rfl, hg, a, b⟩ := U.split
  have hl := hi.length
  have hj : qs.idxOf k < vs.length := by rw [hl]; exact List.idxOf_lt_length_of_mem hk
  have hz' : vs.length ≤ sizeLine := by rw [sizeLine_eq]; omega
  have U' : Upd D (listOf vs.toArray n) (listOf (vs.eraseIdx (qs.idxOf k)).toArray (n + 1)) (pre ++ (D, listOf vs.toArray n) :: post) (pre ++ (D, listOf (vs.eraseIdx (qs.idxOf k)).toArray (n + 1)) :: post) := by
    clear U hg F N h
    induction pre with
    | nil => exact .head b
    | cons p r ih => exact .tail (a p (.head _)) (ih fun q hq => a q (.tail _ hq))
  refine kf_remove F N (by simpa using kf_ints_of hi) (by simpa using kf_at_of hi hk) (by simpa using ki_delL_of hj) U' (by simpa using hz') fun h' F' N' => ?_
  refine h h' _ _ (ints_erase hi hk) ?_ F' (by rw [hg]; exact N')
  have := List.length_erase_of_mem hk
  have : 0 < qs.length := List.length_pos_of_mem hk
  omega

theorem pop0_S {Q : Value → Shared → Prop} {a : Int} {r : List Int} (F : Fr h₀ L s.heap m) (N : News h₀ L s.heap news) (U : UpdF D (listOf vs.toArray n) news g) (hi : IntsAre vs qs) (hq : qs = a :: r) (hz : qs.length ≤ 1000)
    (h : ∀ h' vs' n' ta, IntsAre vs' r → Fr h₀ L h' m → News h₀ L h' (g (listOf vs'.toArray n')) → Q (.int a ta) { s with heap := h' }) :
    wpAny (model prog w) A (call (.builtin "list.pop") [.ref D, .int 0 t]) Q E s := by
  obtain ⟨pre, post, rfl, hg, pa, pb⟩ := U.split
  subst hq
  obtain ⟨ta, vs', rfl, hi'⟩ := hi.cons_inv
  have hl := hi.length
  have z := N (D, listOf (Value.int a ta :: vs').toArray n) (List.mem_append.mpr (.inr (.head _)))
  have hz' : (Value.int a ta :: vs').toArray.size ≤ sizeLine := by rw [sizeLine_eq, List.size_toArray]; omega
  refine call_meets PySem.F.slot_list_pop ⟨_, z.1, rfl⟩ PySem.F.entry_list_pop (PySem.F.args_list_pop_2 _ _)
    (MeetsSeq.list_pop_at D _ n 0 t 0 (.int a ta) (by decide) (by simp [seqIndex?]) (by simp) hz')
    ⟨z.1, h _ vs' (n + 1) ta hi' (F.change (Heap.SameBut.update ..) z.2.1 z.2.2) (by rw [hg]; exact ki_turn (its' := vs'.toArray) _ N pa pb (by apply Array.toList_inj.mp; simp) (by rw [if_neg]; simp))⟩

theorem app_S {Q : Value → Shared → Prop} (F : Fr h₀ L s.heap m) (N : News h₀ L s.heap news) (U : UpdF D (listOf vs.toArray n) news g) (hi : IntsAre vs qs) (hz : qs.length ≤ 1000)
    (h : ∀ h' vs' n', IntsAre vs' (qs ++ [k]) → Fr h₀ L h' m → News h₀ L h' (g (listOf vs'.toArray n')) → Q .none { s with heap := h' }) :
    wpAny (model prog w) A (call (.builtin "list.append") [.ref D, .int k t]) Q E s := by
  obtain ⟨pre, post, rfl, hg, pa, pb⟩ := U.split
  have hl := hi.length
  have U' : Upd D (listOf vs.toArray n) (listOf (vs.toArray.push (.int k t)) (n + 1)) (pre ++ (D, listOf vs.toArray n) :: post) (pre ++ (D, listOf (vs.toArray.push (.int k t)) (n + 1)) :: post) := by
    clear U hg F N h
    induction pre with
    | nil => exact .head pb
    | cons p r ih => exact .tail (pa p (.head _)) (ih fun q hq => pa q (.tail _ hq))
  refine append_K F N U' (fun h' F' N' => h h' (vs ++ [.int k t]) (n + 1) (hi.append (.cons k t .nil)) F' ?_) (by rw [sizeLine_eq, List.size_toArray]; omega)
  rw [hg]
  have e : (vs ++ [Value.int k t]).toArray = vs.toArray.push (.int k t) := by simp
  rw [e]; exact N'
theorem del_S {Q : Unit → Shared → Prop} {o : Obj} {kvs : List (Int × Value)} {Dm : List (PyData × PyData)} (F : Fr h₀ L s.heap m) (N : News h₀ L s.heap news) (U : UpdF D o news g) (hd : o.IsDictOf (intKind prog w) kvs) (hf : FlatPairs PyData.int kvs Dm)
    (hl : (Spec.lookup (.int k) Dm).isSome = true) (hz : Dm.length ≤ 1000)
    (h : ∀ h' o', Fr h₀ L h' m → News h₀ L h' (g o') → o'.IsDictOf (intKind prog w) (without kvs k) → FlatPairs PyData.int (without kvs k) (delD (.int k) Dm) → Q () { s with heap := h', toks := s.toks + 1 }) :
    wpAny (model prog w) A (delItem (.ref D) (.int k t)) Q E s := by
  obtain ⟨pre, post, rfl, hg, pa, pb⟩ := U.split
  exact delItem_madeIn PyProof.V.same_int (intKind_is _ _ _ _) F N pa pb hd hf hl (fun h' o' F' N' hd' hf' => h h' o' F' (hg o' ▸ N') hd' hf') (by rw [sizeLine_eq]; omega)
end
end Mine

end

section
open PySem PySem.W PyProof.Rows PySem.Spec PyProof.V
set_option Elab.async false
set_option maxRecDepth 100000
set_option maxHeartbeats 8000000
namespace Mine
def Stay (p : Prop) : Prop := p
theorem stay {p : Prop} (h : Stay p) : p := h
theorem unstay {p : Prop} (h : p) : Stay p := h
/-- what one turn of a comprehension leaves behind -/
def TurnEnd (h₀ : Heap) (L : Addr) (m : Str → Option Value) (s₁ : Shared) (I : Addr) (oI : Obj) (C : Addr) (oC : Obj) (D : Addr) (oD : Obj) (news : List (Addr × Obj)) (Inv : Value → List (Addr × Obj) → Prop) (y : Value) (s₂ : Shared) : Prop :=
  ∃ h' tk tl, s₂ = { s₁ with heap := h', toks := tk } ∧ Fr h₀ L h' m ∧ News h₀ L h' ((I, oI) :: (C, oC) :: (D, oD) :: (news ++ tl)) ∧ LCg.Off3 I C D tl ∧ Inv y tl
theorem off3_append {I C D : Addr} : ∀ {a b : List (Addr × Obj)}, LCg.Off3 I C D a → LCg.Off3 I C D b → LCg.Off3 I C D (a ++ b)
  | [], _, _, h => h
  | _ :: _, _, x, h => ⟨x.1, off3_append x.2 h⟩
theorem off3_left {I C D : Addr} : ∀ {a b : List (Addr × Obj)}, LCg.Off3 I C D (a ++ b) → LCg.Off3 I C D a
  | [], _, _ => trivial
  | _ :: _, _, x => ⟨x.1, off3_left x.2⟩
theorem allLt_mem {d : Addr} : ∀ {l : List (Addr × Obj)}, AllLt d l → ∀ p ∈ l, @LT.lt Nat _ p.1 d
  | [], _, _, h => nomatch h
  | _ :: _, x, p, h => by
    rcases List.mem_cons.mp h with rfl | h
    · exact x.1
    · exact allLt_mem x.2 p h
theorem allLt_ne {d : Addr} {l : List (Addr × Obj)} (h : AllLt d l) : ∀ p ∈ l, p.1 ≠ d := fun p hp => Nat.ne_of_lt (allLt_mem h p hp)
theorem off1_mem {D : Addr} : ∀ {l : List (Addr × Obj)}, LCg.Off1 D l → ∀ p ∈ l, p.1 ≠ D
  | [], _, _, h => nomatch h
  | _ :: _, x, p, h => by
    rcases List.mem_cons.mp h with rfl | h
    · exact x.1
    · exact off1_mem x.2 p h
theorem off3_of {I C D : Addr} : ∀ {l : List (Addr × Obj)}, (∀ p ∈ l, p.1 ≠ I ∧ p.1 ≠ C ∧ p.1 ≠ D) → LCg.Off3 I C D l := LCg.Off3.of
theorem datAll_reverse {news : List (Addr × Obj)} : ∀ {vs : List Value} {ds : List Dat}, DatAll news vs ds → DatAll news vs.reverse ds.reverse
  | [], _, h => by cases h; exact .nil
  | v :: vs, _, h => by
    cases h with
    | cons h r =>
      rw [List.reverse_cons, List.reverse_cons]
      exact (datAll_reverse r).append (DatAll.one h)
section
variable {prog : Program} {w : World} {A : Around} {E : Value → Shared → Prop} {s : Shared} {h₀ : Heap} {L : Addr} {m : Str → Option Value} {env : Env}
theorem compRest_ind {elt : Expr} {x : Str} {scope : Scope} {cl : List (Str × Addr)} {S : List (Addr × Obj) → Prop} {P : Nat → Value → Prop} {Fin : List Value → List (Addr × Obj) → Prop} {n : Nat} {news : List (Addr × Obj)}
    (Inv : Nat → List Value → List (Addr × Obj) → Prop) (h0 : Inv 0 [] [])
    (hS : ∀ tl, S (news ++ tl))
    (step : ∀ i ys tl v I oI C oC D m₂ h tk (E' : Value → Shared → Prop), i < n → Inv i ys tl → P i v → LCg.NsObj oC m₂ → m₂ x = some v → Fr h₀ L h m → News h₀ L h ((I, oI) :: (C, oC) :: (D, LCg.lst ys) :: (news ++ tl)) → LCg.Off3 I C D tl → ((@Ne Nat I C) ∧ (@Ne Nat I D) ∧ (@Ne Nat C D)) →
      wpAny (model prog w) A (eval elt (compEnvC scope cl C env)) (TurnEnd h₀ L m { s with heap := h, toks := tk } I oI C oC D (LCg.lst ys) news (fun y tl' => Inv (i + 1) (ys ++ [y]) tl')) E' { s with heap := h, toks := tk })
    (fin : ∀ ys tl, Inv n ys tl → Fin ys (news ++ tl)) : LCg.CompRest prog w A h₀ L m env elt x scope cl s S P Fin n 0 [] news := by
  have all : ∀ k i ys tl, i + k = n → Inv i ys tl → LCg.CompRest prog w A h₀ L m env elt x scope cl s S P Fin k i ys (news ++ tl) := by
    intro k
    induction k with
    | zero => intro i ys tl hi hI; have : i = n := by omega
              subst this; exact LCg.CompRest.zero (fin ys tl hI)
    | succ k ih =>
      intro i ys tl hi hI
      refine LCg.CompRest.succ fun v I oI C oC D m₂ h tk E' hP hC hx F N off ne => ?_
      have offn := off3_left off
      have offt : LCg.Off3 I C D tl := by
        have : ∀ a : List (Addr × Obj), LCg.Off3 I C D (a ++ tl) → LCg.Off3 I C D tl := by
          intro a; induction a with
          | nil => exact id
          | cons p r ih => exact fun z => ih z.2
        exact this _ off
      refine wpAny_mono (step i ys tl v I oI C oC D m₂ h tk E' (by omega) hI hP hC hx F N offt ne) (fun y s₂ h₂ => ?_) fun _ _ e => e
      obtain ⟨h', tk', tl', rfl, F', N', off', hI'⟩ := h₂
      exact ⟨h', tk', news ++ tl', rfl, F', N', off3_append offn off', hS _, ih (i + 1) _ tl' (by omega) hI'⟩
  have := all n 0 [] [] (by omega) h0
  rwa [List.append_nil] at this
theorem compRest_ind2 {elt : Expr} {x : Str} {scope : Scope} {cl : List (Str × Addr)} {S : List (Addr × Obj) → Prop} {P : Nat → Value → Prop} {Fin : List Value → List (Addr × Obj) → Prop} {n : Nat} {news : List (Addr × Obj)}
    (Inv : Nat → List Value → List (Addr × Obj) → Prop) (h0 : Inv 0 [] [])
    (hS : ∀ tl, S (news ++ tl))
    (step : ∀ i ys tl v I oI C oC D m₂ h tk (E' : Value → Shared → Prop), i < n → Inv i ys tl → P i v → LCg.NsObj oC m₂ → m₂ x = some v → Fr h₀ L h m → News h₀ L h ((I, oI) :: (C, oC) :: (D, LCg.lst ys) :: (news ++ tl)) → LCg.Off3 I C D news → LCg.Off3 I C D tl → ((@Ne Nat I C) ∧ (@Ne Nat I D) ∧ (@Ne Nat C D)) →
      wpAny (model prog w) A (eval elt (compEnvC scope cl C env)) (TurnEnd h₀ L m { s with heap := h, toks := tk } I oI C oC D (LCg.lst ys) news (fun y tl' => Inv (i + 1) (ys ++ [y]) tl')) E' { s with heap := h, toks := tk })
    (fin : ∀ ys tl, Inv n ys tl → Fin ys (news ++ tl)) : LCg.CompRest prog w A h₀ L m env elt x scope cl s S P Fin n 0 [] news := by
  have all : ∀ k i ys tl, i + k = n → Inv i ys tl → LCg.CompRest prog w A h₀ L m env elt x scope cl s S P Fin k i ys (news ++ tl) := by
    intro k
    induction k with
    | zero => intro i ys tl hi hI; have : i = n := by omega
              subst this; exact LCg.CompRest.zero (fin ys tl hI)
    | succ k ih =>
      intro i ys tl hi hI
      refine LCg.CompRest.succ fun v I oI C oC D m₂ h tk E' hP hC hx F N off ne => ?_
      have offn := off3_left off
      have offt : LCg.Off3 I C D tl := by
        have : ∀ a : List (Addr × Obj), LCg.Off3 I C D (a ++ tl) → LCg.Off3 I C D tl := by
          intro a; induction a with
          | nil => exact id
          | cons p r ih => exact fun z => ih z.2
        exact this _ off
      refine wpAny_mono (step i ys tl v I oI C oC D m₂ h tk E' (by omega) hI hP hC hx F N offn offt ne) (fun y s₂ h₂ => ?_) fun _ _ e => e
      obtain ⟨h', tk', tl', rfl, F', N', off', hI'⟩ := h₂
      exact ⟨h', tk', news ++ tl', rfl, F', N', off3_append offn off', hS _, ih (i + 1) _ tl' (by omega) hI'⟩
  have := all n 0 [] [] (by omega) h0
  rwa [List.append_nil] at this
theorem off3_mem {I C D : Addr} : ∀ {l : List (Addr × Obj)}, LCg.Off3 I C D l → ∀ p ∈ l, p.1 ≠ I ∧ p.1 ≠ C ∧ p.1 ≠ D
  | [], _, _, h => nomatch h
  | _ :: _, x, p, h => by
    rcases List.mem_cons.mp h with rfl | h
    · exact x.1
    · exact off3_mem x.2 p h
theorem src_append {ax : Addr} {its : Array Value} {news tl : List (Addr × Obj)} (h : LCg.SrcAt h₀ ax its news) : LCg.SrcAt h₀ ax its (news ++ tl) := by
  rcases h with h | ⟨o, hm, r⟩
  · exact .inl h
  · exact .inr ⟨o, List.mem_append_left _ hm, r⟩
theorem news_mid {h : Heap} {a i c d : Addr × Obj} {news tl : List (Addr × Obj)} (N : News h₀ L h (a :: i :: c :: d :: (news ++ tl))) : News h₀ L h (i :: c :: d :: (news ++ a :: tl)) := fun p hp => by
  apply N
  simp only [List.mem_cons, List.mem_append] at hp ⊢
  rcases hp with h | h | h | h | h | h <;> simp [h]
theorem news_perm6 {h : Heap} {a b c d e f : Addr × Obj} {rest : List (Addr × Obj)} (N : News h₀ L h (a :: b :: c :: d :: e :: f :: rest)) : News h₀ L h (e :: f :: d :: c :: a :: b :: rest) := fun p hp => by
  apply N
  simp only [List.mem_cons] at hp ⊢
  rcases hp with h | h | h | h | h | h | h <;> simp [h]
theorem news_sub {h : Heap} {l l' : List (Addr × Obj)} (N : News h₀ L h l) (hs : ∀ p ∈ l', p ∈ l) : News h₀ L h l' := fun p hp => N p (hs p hp)
theorem rev_S {ys : List Value} {n : Nat} {D : Addr} {news : List (Addr × Obj)} {g : Obj → List (Addr × Obj)} {Q : Value → Shared → Prop} (F : Fr h₀ L s.heap m) (N : News h₀ L s.heap news) (U : UpdF D (listOf ys.toArray n) news g) (hz : ys.length ≤ 900)
    (h : ∀ h', Fr h₀ L h' m → News h₀ L h' (g (listOf ys.reverse.toArray n)) → Q .none { s with heap := h' }) :
    wpAny (model prog w) A (call (.builtin "list.reverse") [.ref D]) Q E s := by
  obtain ⟨pre, post, rfl, hg, pa, pb⟩ := U.split
  have U' : Upd D (listOf ys.toArray n) (listOf ys.reverse.toArray n) (pre ++ (D, listOf ys.toArray n) :: post) (pre ++ (D, listOf ys.reverse.toArray n) :: post) := by
    clear U hg F N h
    induction pre with
    | nil => exact .head pb
    | cons p r ih => exact .tail (pa p (.head _)) (ih fun q hq => pa q (.tail _ hq))
  exact kl_reverse F N (by simp) U' (by rw [sizeLine_eq]; simp; omega) fun h' F' N' => h h' F' (by rw [hg]; exact N')
theorem item_S {value slice : Expr} {l : Addr} {vs : List Value} {qs : List Int} {n : Nat} {i : Int} {a : Int} {u : Tok} {news : List (Addr × Obj)} {Q : Value → Shared → Prop} (N : News h₀ L s.heap news) (hm : (l, listOf vs.toArray n) ∈ news) (hi : IntsAre vs qs)
    (h0 : 0 ≤ i) (hx : qs[i.toNat]? = some a) (hz : qs.length ≤ 900) (h : ∀ t, Q (.int a t) s)
    (hs : subscripted slice false (.ref l) (.int i u) = operate [.ref l, .int i u] (getItem (.ref l) (.int i u)) := by with_unfolding_all rfl) :
    wpAny (model prog w) A (subscriptTail value slice (.ref l) (.int i u)) Q E s := by
  obtain ⟨t, ht⟩ := hi.get _ _ hx
  have hl : s.heap.IsList l vs.toArray := PySem.IsL.isList (n := n) (N _ hm).1
  have hb : i.toNat < qs.length := (List.getElem?_eq_some_iff.mp hx).1
  exact tail_any hl.typeIs slot_list_getitem.lookup (wpAny_getItem_list hl h0 (by omega) (by simpa using ht) (h t)) hs
theorem last_S {value slice : Expr} {l : Addr} {vs : List Value} {qs : List Int} {n : Nat} {a : Int} {u : Tok} {news : List (Addr × Obj)} {Q : Value → Shared → Prop} (N : News h₀ L s.heap news) (hm : (l, listOf vs.toArray n) ∈ news) (hi : IntsAre vs qs)
    (hx : qs.getLast? = some a) (h : ∀ t, Q (.int a t) s)
    (hs : subscripted slice false (.ref l) (.int (-1) u) = operate [.ref l, .int (-1) u] (getItem (.ref l) (.int (-1) u)) := by with_unfolding_all rfl) :
    wpAny (model prog w) A (subscriptTail value slice (.ref l) (.int (-1) u)) Q E s := by
  have hlen := hi.length
  have hp : 0 < qs.length := by cases qs with
    | nil => simp at hx
    | cons => simp
  rw [List.getLast?_eq_getElem?] at hx
  obtain ⟨t, ht⟩ := hi.get _ _ hx
  have hl : s.heap.IsList l vs.toArray := PySem.IsL.isList (n := n) (N _ hm).1
  have e : ((-1 : Int) + (vs.toArray.size : Int)).toNat = qs.length - 1 := by rw [List.size_toArray, hlen]; omega
  exact tail_any hl.typeIs slot_list_getitem.lookup (wpAny_getItem_list_neg hl (by decide) (by rw [List.size_toArray]; omega) (by decide) (by rw [e]; simpa using ht) (h t)) hs
theorem fr_cong {h₀ h : Heap} {L : Addr} {m m' : Str → Option Value} (F : Fr h₀ L h m) (e : ∀ y, m y = m' y) : Fr h₀ L h m' := by
  rw [show m' = m from funext fun y => (e y).symm]; exact F
end
end Mine

end

section
open PySem PySem.W PyProof.Rows PySem.Spec PyProof.V PySem.Calls
set_option Elab.async false
set_option maxRecDepth 100000
set_option maxHeartbeats 8000000
namespace Mine
theorem exit_keeps {w : World} {A : Around} {s : Shared} {a b c d : Value} {R : Result → Shared → Prop} (X : (hd.heap_39 w.params).In s.heap) (hroom : A.depth < recursionLimit) (hlim : s.heap.NoLimit)
    (h : ∀ h' tk', (∀ b o, s.heap.get? b = some o → h'.get? b = some o) → R (.ok (.ret (.bool false))) { s with heap := h', toks := tk' }) :
    codeAny (model PySem.Challenge.rw_bw0012_01.row.prog w) A (.call (.ref 42) ⟨[a, b, c, d], []⟩) R s := by
  revert X
  k_fill
  intro X
  k_dflt (refine' codeAny_call_def (fd := fnOf _ _ _ _ _ _ _ _ _ _ _ _) ?h1 ?h2 ?h3 ?h4 ?h5 ?h6 ?h7 ?h8 ?h9 ?h10 ?h11 ?h12 ?h13; (case h1 => exact hroom); (case h2 => exact X _ _ (by k_is)); (case h3 => exact rfl); (case h4 => exact hlim); (case h5 => exact codeRec_of X (by k_is)); (case h6 => exact rfl); (case h7 => exact BindsTo.of_eq rfl); (case h8 => decide); (case h9 => exact locs rfl); (case h11 => exact rfl); (case h12 => exact rfl); (case h13 => exact rfl))
  intro h₁ hns hk
  k_steps
  exact h _ _ hk

/-- what a with does with a raise out of its block, by an exit that hands back False -/
def ErrTail (prog : Program) (w : World) (A : Around) (Q : Flow → Shared → Prop) (E : Value → Shared → Prop) (env : Env) (x fx : Addr) (e : Value) (s : Shared) : Prop :=
  wpAny (model prog w) A (noteFrame e env) (fun _ s₄ => wpAny (model prog w) A (setFlight e none) (fun _ s₅ => wpAny (model prog w) A (typeOf e) (fun ty s₆ => wpAny (model prog w) A (tracebackOf e) (fun tb s₇ =>
    codeAny (model prog w) (A.mark (some e)) (.call (.ref fx) ⟨[.ref x, ty, e, tb], []⟩) (fun r s₈ => r = .ok (.ret (.bool false)) ∧ wpAny (model prog w) A (passOn "with" e env : Sem Flow) Q E s₈) s₇) E s₆) E s₅) E s₄) E s

theorem with_raises {prog : Program} {w : World} {A : Around} {E : Value → Shared → Prop} {s : Shared} {env : Env} {K : Frag} {x C fe fx : Addr} {ox : Obj} {od : Option Obj} {pos : Pos} {bdy : Sem Flow} {Q : Flow → Shared → Prop}
    (X : K.In s.heap) (I : W.InstAt s.heap x ox C od) (he : findIn K (.ref C) "__enter__" = some (some (.ref fe))) (hfe : isFn K (.ref fe) = true) (hx : findIn K (.ref C) "__exit__" = some (some (.ref fx))) (hfx : isFn K (.ref fx) = true)
    (h : wpAny (model prog w) A (call (.ref fe) [.ref x]) (fun _ s₂ => wpAny (model prog w) A bdy (fun _ _ => False) (fun e s₃ => ∃ ea, e = .ref ea ∧ ErrTail prog w A Q E env x fx (.ref ea) s₃) s₂) E s) :
    wpAny (model prog w) A (withItem false pos env (pure (.ref x)) none bdy) Q E s := by
  obtain ⟨cd, hcd, ae⟩ := kw_along he
  obtain ⟨cd', hcd', ax⟩ := kw_along hx
  cases hcd.symm.trans hcd'
  obtain ⟨hh, g, d, tt, os⟩ := s
  have L1 : Looks (model prog w) hh (specialOnItsLine (.ref x) "__enter__") (some (.ref fe), cd.mro) := kw_special X I hcd ae
  have L2 : Looks (model prog w) hh (specialOnItsLine (.ref x) "__exit__") (some (.ref fx), cd.mro) := kw_special X I hcd ax
  have L3 : Looks (model prog w) hh (bindSpecial (.ref fe) (.ref x)) (.ref fe, [.ref x]) := bind_fn X _ (beq_iff_eq.mp hfe)
  have L4 : Looks (model prog w) hh (bindSpecial (.ref fx) (.ref x)) (.ref fx, [.ref x]) := bind_fn X _ (beq_iff_eq.mp hfx)
  have L5 : Looks (model prog w) hh (aMethodOfAnotherBuiltinTypeStops (.ref fe) cd.mro) () := Looks.of_pure rfl
  have L6 : Looks (model prog w) hh (aMethodOfAnotherBuiltinTypeStops (.ref fx) cd.mro) () := Looks.of_pure rfl
  unfold withItem
  refine wpAny_bind (wpAny_pure ?_)
  refine wpAny_bind (wpAny_standAt ?_)
  simp only [Bool.false_eq_true, if_false]
  kw_lk
  refine wpAny_mono h (fun v s₂ h₂ => ?_) fun _ _ z => z
  kw_lk
  refine wpAny_attempt (kw_held ?_)
  show wpAny _ _ bdy _ _ _
  refine wpAny_mono h₂ (fun f s₄ h₄ => h₄.elim) fun e s₃ h₃ => ?_
  obtain ⟨ea, rfl, h₃⟩ := h₃
  dsimp only
  refine wpAny_bind (wpAny_mono h₃ (fun _ s₄ h₄ => ?_) fun _ _ z => z)
  refine wpAny_bind (wpAny_mono h₄ (fun _ s₅ h₅ => ?_) fun _ _ z => z)
  refine wpAny_bind (wpAny_standAt (wpAny_holding ?_))
  refine wpAny_bind (wpAny_mono h₅ (fun ty s₆ h₆ => ?_) fun _ _ z => z)
  refine wpAny_bind (wpAny_mono h₆ (fun tb s₇ h₇ => ?_) fun _ _ z => z)
  refine wpAny_bind ?_
  unfold withItem.marked
  refine wpAny_bind (wpAny_run (codeAny_mono h₇ fun r s₈ h₈ => ?_) (by intro q; cases q))
  · obtain ⟨rfl, h₈⟩ := h₈
    dsimp only
    refine wpAny_pure (wpAny_bind (wpAny_pure ?_))
    dsimp only
    refine wpAny_bind (wpAny_pure ?_)
    rw [if_neg (by decide)]
    exact h₈

section
variable {M : Model} {A : Around} {E : Value → Shared → Prop} {s : Shared}
theorem note_firstW {base : Heap} {env : Env} {outer : List Env} {L e : Addr} {oe : Obj} {vs : Array Value} {a0 : Value} {Q : Unit → Shared → Prop}
    (hfr : A.frames = some (env :: outer)) (hl : s.heap.FunFrames base (env :: outer)) (hf : env.frame = some L)
    (he : s.heap.get? e = some oe) (hkb : base.StaysIn s.heap) (hen : base.get? e = none) (hd : oe.data = .fields vs) (h1 : vs[1]? = some .none) (h0 : vs[0]? = some a0)
    (h : ∀ h', Heap.HeldW base (env :: outer) e oe.cls a0 L h' → s.heap.UpToSlots h' → Q () { s with heap := h' }) : wpAny M A (noteFrame (.ref e) env) Q E s := by
  unfold noteFrame
  simp only [hf]
  refine wpAny_bind (wpAny_field he hd h1 ?_)
  rw [if_neg (by decide)]
  exact wpAny_entryW hfr hl hf he hkb hen hd (Array.getElem?_eq_some_iff.mp h1).1 h0 fun h' ⟨k1, k2, k3, k4⟩ => h h' ⟨k1, hen, k2, k3⟩ k4
end

section
variable {w : World} {A₀ : Around} {E : Value → Shared → Prop} {s' : Shared} {base g h : Heap} {outer : List Env} {L a e : Addr} {m : Str → Option Value} {name : Str} {scope : Scope} {cd : Value} {news : List (Addr × Obj)} {cls : String} {x : Addr} {Q : Flow → Shared → Prop}
theorem errTail_new (K : Below A₀ base outer g) (hx : Heap.NewExc h s'.heap e cls) (F : Fr g L h m) (N : News g L h news) (X : (hd.heap_39 w.params).In base) (hlim : base.NoLimit) (hroom : (A₀.deeper (envOf name scope L a cd)).depth < recursionLimit)
    (k : ∀ h' tk', RaisedHN base (hideAll h (news.map (·.1))) (envOf name scope L a cd :: outer) L e (.type cls) news h' → Fr g L (hideAll h (news.map (·.1))) m → (hideAll h (news.map (·.1))).UpToSlots h' → E (.ref e) { s' with heap := h', toks := tk' })
    (hk : scope.kind = .function := by rfl) :
    ErrTail PySem.Challenge.rw_bw0012_01.row.prog w (A₀.deeper (envOf name scope L a cd)) Q E (envOf name scope L a cd) x 42 (.ref e) s' := by
  have K' := K.push (name := name) (a := a) (cd := cd) F hk
  have hin : ∀ env ∈ (envOf name scope L a cd :: outer), ∀ b, env.frame = some b → b ∈ (envOf name scope L a cd :: outer).filterMap (·.frame) := fun env he b hb => List.mem_filterMap.mpr ⟨env, he, hb⟩
  have st : base.StaysIn (hideAll h ((envOf name scope L a cd :: outer).filterMap (·.frame))) := fun b o q => hideAll_get _ (K'.stays b o q) fun hm => by
    rw [(K'.frames.mem hm).1] at q; cases q
  have hoff : ∀ q ∈ news, q.1 ∉ (envOf name scope L a cd :: outer).filterMap (·.frame) := fun q hq hm => by
    obtain ⟨env, he, hf⟩ := List.mem_filterMap.mp hm
    rcases List.mem_cons.mp he with rfl | he
    · exact (N q hq).2.1 (Option.some.inj hf).symm
    · obtain ⟨o, ho, _⟩ := (K.frames.mem (List.mem_filterMap.mpr ⟨env, he, hf⟩)).2
      rw [(N q hq).2.2] at ho; cases ho
  have hl : ∀ q ∈ news, (hideAll h ((envOf name scope L a cd :: outer).filterMap (·.frame))).get? q.1 = some q.2 ∧ (hideAll h (news.map (·.1))).get? q.1 = none ∧ base.get? q.1 = none := fun q hq =>
    ⟨hideAll_get _ (N q hq).1 (hoff q hq), hideAll_none _ (List.mem_map_of_mem hq), fresh_of_stays K.stays (N q hq).2.2⟩
  have sg : ∀ b o, (hideAll h (news.map (·.1))).get? b = some o → b ∉ (envOf name scope L a cd :: outer).filterMap (·.frame) → (hideAll h ((envOf name scope L a cd :: outer).filterMap (·.frame))).get? b = some o := fun b o q nm => hideAll_get _ (of_hideAll _ q) nm
  have FG : Fr g L (hideAll h (news.map (·.1))) m := by
    obtain ⟨oL, es, ep, hL, r⟩ := F.ns
    refine ⟨⟨oL, es, ep, hideAll_get _ hL fun q => ?_, r⟩, fun b o q => hideAll_get _ (F.keep b o q) fun hm => ?_, F.above⟩
    · obtain ⟨p, hp, e⟩ := List.mem_map.mp q
      exact (N p hp).2.1 e
    · obtain ⟨p, hp, rfl⟩ := List.mem_map.mp hm
      rw [(N p hp).2.2] at q; cases q
  obtain ⟨ob, tp, heo, hcls, hd⟩ := hx.there
  have hen : (hideAll h ((envOf name scope L a cd :: outer).filterMap (·.frame))).get? e = none := by
    cases q : (hideAll h ((envOf name scope L a cd :: outer).filterMap (·.frame))).get? e with
    | none => rfl
    | some o => have := of_hideAll _ q; rw [hx.new] at this; cases this
  have up0 : (hideAll h (news.map (·.1))).UpToSlots s'.heap := Heap.UpToSlots.of_keeps fun b o q => hx.keeps b o (of_hideAll _ q)
  unfold ErrTail
  refine note_firstW (a0 := tp) K'.stack ((funFrames_hide K'.frames hin).of_keeps fun b o hb _ => ⟨o, hx.keeps b o hb, rfl⟩) rfl heo (fun b o hb => hx.keeps b o (of_hideAll _ hb)) hen hd rfl rfl fun h4 hheld hsm4 => ?_
  rw [hcls] at hheld
  refine wpAny_landsW hheld fun h5 hfl hsm5 => ?_
  obtain ⟨f1, f2, f3, oe, ws, T, oT, ts, he, hc, hd', h1, hnT, hTe, hT, hdT, h3⟩ := id hfl
  refine wpAny_typeOf ⟨oe, he, hc.1⟩ ?_
  have h1T : ∃ y, ts[1]? = some y := by
    have : 3 < ts.size := (Array.getElem?_eq_some_iff.mp h3).1
    exact ⟨ts[1], by simp⟩
  obtain ⟨y, hy⟩ := h1T
  have tail : ∀ tb, codeAny (model PySem.Challenge.rw_bw0012_01.row.prog w) ((A₀.deeper (envOf name scope L a cd)).mark (some (.ref e))) (.call (.ref 42) ⟨[.ref x, .type cls, .ref e, tb], []⟩) (fun r s₈ => r = .ok (.ret (.bool false)) ∧ wpAny (model PySem.Challenge.rw_bw0012_01.row.prog w) (A₀.deeper (envOf name scope L a cd)) (PySem.passOn "with" (.ref e) (envOf name scope L a cd) : Sem Flow) Q E s₈) { s' with heap := h5 } := by
    intro tb
    have kb : ∀ b o, base.get? b = some o → h5.get? b = some o := fun b o q => f1 b o (st b o q)
    refine exit_keeps (X.keeps kb) hroom (hlim.keeps kb) fun h6 tk6 hk6 => ⟨rfl, ?_⟩
    have hfl6 := flying_keeps hfl hk6
    obtain ⟨_, _, _, oe, ws, T, oT, ts, he, hc, hd', h1, _⟩ := id hfl6
    unfold PySem.passOn
    refine wpAny_bind (wpAny_field he hd' h1 ?_)
    rw [if_neg (show ¬ ((Value.ref T == Value.none) = true) from by simp)]
    first
      | exact wpAny_bind (wpAny_pure (wpAny_bind (setFlight_onW hfl6 fun h' hh hs => wpAny_throw (k h' tk6 ⟨_, tp, st, sg, hl, hh⟩ FG (up0.trans (hsm4.trans (hsm5.trans ((Heap.UpToSlots.of_keeps hk6).trans hs))))))))
      | exact wpAny_bind (setFlight_onW hfl6 fun h' hh hs => wpAny_throw (k h' tk6 ⟨_, tp, st, sg, hl, hh⟩ FG (up0.trans (hsm4.trans (hsm5.trans ((Heap.UpToSlots.of_keeps hk6).trans hs))))))
  unfold PySem.tracebackOf
  refine wpAny_bind (wpAny_field he hd' h1 ?_)
  dsimp only
  refine wpAny_bind (wpAny_field hT hdT hy ?_)
  split
  · exact wpAny_pure (tail _)
  · first | exact wpAny_pure (tail _) | exact wpAny_bind (wpAny_pure (wpAny_pure (tail _)))
end
theorem kw_inE {prog : Program} {w : World} {A : Around} {E : Value → Shared → Prop} {s : Shared} {env : Env} {K : Frag} {x C fe fx L : Addr} {h₀ : Heap} {m : Str → Option Value} {ox : Obj} {od : Option Obj} {pos py : Pos} {body : List Stmt} {Q : Flow → Shared → Prop}
    (F : Fr h₀ L s.heap m) (X₀ : K.In h₀) (I : W.InstAt s.heap x ox C od) (he : findIn K (.ref C) "__enter__" = some (some (.ref fe))) (hfe : isFn K (.ref fe) = true) (hx : findIn K (.ref C) "__exit__" = some (some (.ref fx))) (hfx : isFn K (.ref fx) = true)
    (h : wpAny (model prog w) A (call (.ref fe) [.ref x]) (fun _ s₂ => wpAny (model prog w) A (execs body env) (fun _ _ => False) (fun e s₃ => ∃ ea, e = .ref ea ∧ ErrTail prog w A Q E env x fx (.ref ea) s₃) s₂) E s) :
    KwIn prog w A E env pos none py body Q (.ref x) s := with_raises (X₀.keeps F.keep) I he hfe hx hfx h
end Mine

end

section
open PySem PySem.W PyProof.Rows PySem.Spec PyProof.V PySem.Calls
set_option Elab.async false
set_option maxRecDepth 100000
set_option maxHeartbeats 8000000
namespace Mine
/-- the way back out of a def in which an exception was caught: the caller's own ground turned -/
def LeaveU (fs : List Addr) (A₀ : Around) (base : Heap) (outer : List Env) (K : Frag) (p : Program) (loose : List Str) (mean : ExcName → Option Value) (mg mb : Str → Option Value) (h₀ : Heap) (L : Addr) (m : Str → Option Value) (g : Heap) (R : Result → Shared → Prop) (v : Value) (s' : Shared) : Prop :=
  ∃ g' L' m' news', KtsTurn fs g g' ∧ Fr g' L' s'.heap m' ∧ News g' L' s'.heap news' ∧ ∀ h₀', KtsTurn (outer.filterMap (·.frame)) h₀ h₀' → Fr h₀' L s'.heap m → News h₀' L s'.heap news' → Below A₀ base outer h₀' → K.In h₀' → Top p loose mean mg mb h₀' →
    KtsDicts (outer.filterMap (·.frame)) h₀' → R (.ok (.ret v)) s'

section
variable {prog : Program} {w : World} {A₀ A : Around} {s : Shared} {base h₀ g g' h h' : Heap} {outer : List Env} {L L' : Addr} {m m' : Str → Option Value} {env : Env} {news news' : List (Addr × Obj)} {K : Frag} {p : Program} {loose : List Str} {mean : ExcName → Option Value} {mg mb : Str → Option Value}
theorem frames_mem {b : Addr} (hf : env.frame = some L) (hm : b ∈ (env :: outer).filterMap (·.frame)) : b = L ∨ b ∈ outer.filterMap (·.frame) := by
  rw [List.filterMap_cons, hf] at hm
  rcases List.mem_cons.mp hm with e | e
  · exact .inl e
  · exact .inr e
theorem turn_back (B : Below A₀ base outer h₀) (F : Fr h₀ L h m) (XB : K.In base) (TB : Top p loose mean mg mb base) (D : KtsDicts (outer.filterMap (·.frame)) h₀) (hf : env.frame = some L)
    (FG : Fr h₀ L g m) (st : h₀.StaysIn g) (T' : KtsTurn ((env :: outer).filterMap (·.frame)) g g') (F' : Fr g' L' h' m') (N' : News g' L' h' news') :
    ∃ h₀', KtsTurn (outer.filterMap (·.frame)) h₀ h₀' ∧ Fr h₀' L h' m ∧ News h₀' L h' news' ∧ Below A₀ base outer h₀' ∧ K.In h₀' ∧ Top p loose mean mg mb h₀' ∧ KtsDicts (outer.filterMap (·.frame)) h₀' := by
  have nL₀ : h₀.get? L = none := kts_self F
  obtain ⟨oL, es, ep, hLg, hLd, hLr⟩ := FG.ns
  obtain ⟨sl, hs⟩ := T'.up hLg
  obtain ⟨T₁, S₁⟩ := kts_turn_at (h := h') (fs := outer.filterMap (·.frame)) (g := h₀)
    (fun b hb => let ⟨_, o, ho', _⟩ := B.frames.mem hb; ⟨o, ho'⟩)
    (fun b o e nm => F'.keep b o (T'.other b o (st b o e) (fun q => by
      rcases frames_mem hf q with z | z
      · rw [z, nL₀] at e; cases e
      · exact nm z)))
    (fun b o e _ => let ⟨sl', hs'⟩ := T'.up (st b o e); ⟨sl', F'.keep _ _ hs'⟩)
  have B₃ : Below A₀ base outer (ktsHeap h' (outer.filterMap (·.frame)) h₀) :=
    ⟨B.stack, fun b o e => T₁.other b o (B.stays b o e) (fun hm => by rw [(B.frames.mem hm).1] at e; cases e),
      B.frames.of_keeps fun b o e _ => let ⟨_, hs'⟩ := T₁.up e; ⟨_, hs', rfl⟩⟩
  refine ⟨_, T₁, ⟨⟨_, es, ep, F'.keep _ _ hs, hLd, hLr⟩, S₁, by rw [T₁.size]; exact F.above⟩, fun p hp => ⟨(N' p hp).1, fun q => ?_, ?_⟩, B₃, XB.keeps B₃.stays, TB.keeps B₃.stays, D.turn T₁⟩
  · have := (N' p hp).2.2
    rw [q, hs] at this; cases this
  · refine T₁.none_ _ ?_
    cases q : h₀.get? p.1 with
    | none => rfl
    | some o =>
      obtain ⟨sl', hs'⟩ := T'.up (st _ _ q)
      have := (N' p hp).2.2
      rw [hs'] at this; cases this
end

section
variable {prog : Program} {w : World} {A₀ A : Around} {s : Shared} {base h₀ : Heap} {outer : List Env} {L : Addr} {m : Str → Option Value} {env : Env} {news : List (Addr × Obj)} {K : Frag} {p : Program} {loose : List Str} {mean : ExcName → Option Value} {mg mb : Str → Option Value}
  {R : Result → Shared → Prop} {name qual : Str} {params : Arguments} {body : List Stmt} {scope : Scope} {dV kV doc pm cdv ct oc : Value} {an od : Option Addr} {osl : Array (Option Value)} {f : Addr} {args : Args} {binds : List (Str × Value)}
theorem dicts_push (D : KtsDicts (outer.filterMap (·.frame)) h₀) (hf : env.frame = some L) {g : Heap} (FG : Fr h₀ L g m) (st : h₀.StaysIn g) : KtsDicts ((env :: outer).filterMap (·.frame)) g := fun b hb => by
  rcases frames_mem hf hb with rfl | hb
  · obtain ⟨oL, es, ep, hLg, hLd, _⟩ := FG.ns
    exact ⟨oL, es, ep, hLg, hLd⟩
  · obtain ⟨o, es, n, ho, hd⟩ := D b hb
    exact ⟨o, es, n, st _ _ ho, hd⟩
theorem callU (B : Below A₀ base outer h₀) (F : Fr h₀ L s.heap m) (X₀ : K.In h₀) (N : News h₀ L s.heap news) (T : Top p loose mean mg mb h₀) (XB : K.In base) (TB : Top p loose mean mg mb base) (D : KtsDicts (outer.filterMap (·.frame)) h₀)
    (hA : A.frames = some (env :: outer)) (hf : env.frame = some L) (hke : env.scope.kind = .function)
    (ho : K.lookup f = some ⟨oc, od, .func (fnOf name qual params body scope dV kV doc pm an cdv ct), osl⟩) (hcd : codeIn K cdv qual = true) (hroom : A.depth < recursionLimit)
    (hbind : BindsTo s (fnOf name qual params body scope dV kV doc pm an cdv ct) args binds) (hloc : ∀ y ∈ binds, scope.names.lookup y.1 = some .local)
    (h : ∀ g L' h₁, Fr h₀ L g m → Fr g L' h₁ (fun y => binds.reverse.lookup y) → News g L' h₁ news → Below A base (env :: outer) g → K.In g → Top p loose mean mg mb g → KtsDicts ((env :: outer).filterMap (·.frame)) g →
      wpAny (model prog w) (A.deeper (envOf qual scope L' f cdv)) (execs body (envOf qual scope L' f cdv))
        (fun fl s' => LeaveU ((env :: outer).filterMap (·.frame)) A₀ base outer K p loose mean mg mb h₀ L m g R (match fl with | .ret v => v | _ => .none) s')
        (fun e s' => wpAny (model prog w) (A.deeper (envOf qual scope L' f cdv)) (leaving (envOf qual scope L' f cdv) e) (fun _ s'' => R (.error e) s'') (fun e' s'' => R (.error e') s'') s')
        { s with heap := h₁, toks := s.toks + binds.length })
    (hco : scope.isCoroutine = false) (hgen : scope.isGenerator = false) (hk : scope.kind = .function)
    (hcell : ∀ x ∈ scope.names, x.2 ≠ .cell) : codeAny (model prog w) A (.call (.ref f) args) R s := by
  obtain ⟨FG, BG, st, _⟩ := groundX (R := R) B F N hA hf hke
  have X := X₀.keeps F.keep
  refine codeAny_call_def (fd := fnOf name qual params body scope dV kV doc pm an cdv ct) (body := body) (binds := binds) hroom (X _ _ ho) rfl (T.nolimit.keeps F.keep) (codeRec_of X hcd) rfl hbind hcell hloc (fun h₁ hns hk₁ => ?_) hco hgen hk
  refine wpAny_mono (h _ s.heap.objs.size h₁ FG ⟨hns, fun b o e => hk₁ b o (of_hideAll _ e), Nat.le_of_eq (hideAll_size _ _)⟩
    (fun p hp => ⟨hk₁ _ _ (N p hp).1, Nat.ne_of_lt (Heap.lt_size (N p hp).1), hideAll_none _ (List.mem_map_of_mem hp)⟩) BG (X₀.keeps st) (T.keeps st) (dicts_push D hf FG st)) (fun fl s' hl => ?_) fun _ _ y => y
  obtain ⟨g', L', m', news', T', F', N', k⟩ := hl
  obtain ⟨h₀', T₁, F₁, N₁, B₁, X₁, P₁, D₁⟩ := turn_back B F XB TB D hf FG st T' F' N'
  exact k h₀' T₁ F₁ N₁ B₁ X₁ P₁ D₁
theorem callUC (B : Below A₀ base outer h₀) (F : Fr h₀ L s.heap m) (X₀ : K.In h₀) (N : News h₀ L s.heap news) (T : Top p loose mean mg mb h₀) (XB : K.In base) (TB : Top p loose mean mg mb base) (D : KtsDicts (outer.filterMap (·.frame)) h₀)
    (hA : A.frames = some (env :: outer)) (hf : env.frame = some L) (hke : env.scope.kind = .function)
    (ho : K.lookup f = some ⟨oc, od, .func (fnOf name qual params body scope dV kV doc pm an cdv ct), osl⟩) (hcd : codeIn K cdv qual = true) (hroom : A.depth < recursionLimit)
    (hbind : BindsTo s (fnOf name qual params body scope dV kV doc pm an cdv ct) args binds) (hkind : (binds.all fun y => scope.names.lookup y.1 == some .local || scope.names.lookup y.1 == some .cell) = true)
    (hnd : ((cellsFrom 0 scope.names []).map (·.1)).Nodup)
    (h : ∀ g L' h₁ tk cells, Fr h₀ L g m → Fr g L' h₁ (bindL (envOfC qual scope L' f cdv).kindOf binds fun _ => none) → News g L' h₁ (cells ++ news) →
      CellsAre (bindC (envOfC qual scope L' f cdv).kindOf binds fun _ => none) (cellsFrom (L' + 1) scope.names []) cells → Below A base (env :: outer) g → K.In g → Top p loose mean mg mb g → KtsDicts ((env :: outer).filterMap (·.frame)) g → (∀ p ∈ news, p.1 < L') →
      wpAny (model prog w) (A.deeper (envOfC qual scope L' f cdv)) (execs body (envOfC qual scope L' f cdv))
        (fun fl s' => LeaveU ((env :: outer).filterMap (·.frame)) A₀ base outer K p loose mean mg mb h₀ L m g R (match fl with | .ret v => v | _ => .none) s')
        (fun e s' => wpAny (model prog w) (A.deeper (envOfC qual scope L' f cdv)) (leaving (envOfC qual scope L' f cdv) e) (fun _ s'' => R (.error e) s'') (fun e' s'' => R (.error e') s'') s')
        { s with heap := h₁, toks := tk })
    (hco : scope.isCoroutine = false) (hgen : scope.isGenerator = false) (hk : scope.kind = .function) : codeAny (model prog w) A (.call (.ref f) args) R s := by
  obtain ⟨FG, BG, st, _⟩ := groundX (R := R) B F N hA hf hke
  have X := X₀.keeps F.keep
  refine codeAny_call_function hroom (X _ _ ho) rfl hco hgen rfl (codeRec_of X hcd) (hbind _ _ _ _ ?_)
  refine wpAny_newFunctionEnv_cells hk (kindsX hkind _) fun env' he s' x => ?_
  subst he
  refine ⟨(T.nolimit.keeps F.keep).keeps x.toInCall.keep, codeAny_func ?_⟩
  obtain ⟨h₁, tk, rfl, _⟩ := x.done
  have hk₁ := x.toInCall.keep
  obtain ⟨cells, NC, Y⟩ := Cl.news (h₀ := s.heap) (Nat.le_refl _) fun n c hm => ⟨x.cell n c (lookup_of_mem_nodup (cellsFrom_names scope.names 0 (s.heap.objs.size + 1) [] [] rfl ▸ hnd) hm), x.above n c hm⟩
  refine wpAny_mono (h _ s.heap.objs.size h₁ tk cells FG ⟨x.toInCall.ns, fun b o e => hk₁ b o (of_hideAll _ e), Nat.le_of_eq (hideAll_size _ _)⟩ (fun p hp => ?_) Y BG (X₀.keeps st) (T.keeps st) (dicts_push D hf FG st) (fun p hp => Heap.lt_size (N p hp).1)) (fun fl s' hl => ?_) fun _ _ y => y
  · rcases List.mem_append.mp hp with hp | hp
    · refine ⟨(NC p hp).1, (NC p hp).2.1, ?_⟩
      cases q : (hideAll s.heap (news.map (·.1))).get? p.1 with
      | none => rfl
      | some o => have := of_hideAll _ q; rw [(NC p hp).2.2] at this; cases this
    · exact ⟨hk₁ _ _ (N p hp).1, Nat.ne_of_lt (Heap.lt_size (N p hp).1), hideAll_none _ (List.mem_map_of_mem hp)⟩
  · obtain ⟨g', L', m', news', T', F', N', k⟩ := hl
    obtain ⟨h₀', T₁, F₁, N₁, B₁, X₁, P₁, D₁⟩ := turn_back B F XB TB D hf FG st T' F' N'
    exact k h₀' T₁ F₁ N₁ B₁ X₁ P₁ D₁
end
end Mine

end

section
open PySem PySem.W PyProof.Rows PySem.Spec PyProof.V PySem.Calls
set_option Elab.async false
set_option maxRecDepth 100000
set_option maxHeartbeats 8000000
namespace Mine
/-- a ground that may have turned since g₀ -/
structure Grd (K : Frag) (p : Program) (loose : List Str) (mean : ExcName → Option Value) (mg mb : Str → Option Value) (A₀ : Around) (base : Heap) (outer : List Env) (g₀ g : Heap) : Prop where
  B : Below A₀ base outer g
  X : K.In g
  T : Top p loose mean mg mb g
  D : KtsDicts (outer.filterMap (·.frame)) g
  Tn : KtsTurn (outer.filterMap (·.frame)) g₀ g
def TurnT (K : Frag) (p : Program) (loose : List Str) (mean : ExcName → Option Value) (mg mb : Str → Option Value) (A₀ : Around) (base : Heap) (outer : List Env) (g₀ : Heap) (L : Addr) (s : Shared) (I : Addr) (oI : Obj) (J : (Str → Option Value) → List (Addr × Obj) → Prop) (s₂ : Shared) : Prop :=
  ∃ g' m' news' h' tk', s₂ = { s with heap := h', toks := tk' } ∧ Grd K p loose mean mg mb A₀ base outer g₀ g' ∧ Fr g' L h' m' ∧ News g' L h' ((I, oI) :: news') ∧ (∀ p ∈ news', p.1 ≠ I) ∧ J m' news'
theorem turn_none {fs : List Addr} {g₀ g : Heap} (T : KtsTurn fs g₀ g) {b : Addr} (h : g.get? b = none) : g₀.get? b = none := by
  cases q : g₀.get? b with
  | none => rfl
  | some o => obtain ⟨sl, hs⟩ := T.up q; rw [h] at hs; cases hs

section
variable {prog : Program} {w : World} {A A₀ : Around} {s : Shared} {env : Env} {base g₀ g : Heap} {outer : List Env} {K : Frag} {p : Program} {loose : List Str} {mean : ExcName → Option Value} {mg mb : Str → Option Value}

theorem forLoop_T {R : Result → Shared → Prop} {x : Str} {px : Pos} {body : List Stmt} {I : Addr} {fp : List Addr} {n : Nat} {P : Nat → Value → Prop} {St : Nat → Heap → Prop} {S : List (Addr × Obj) → Prop} {m : Str → Option Value} {news : List (Addr × Obj)}
    (W : Walks prog w A I fp [I] n P St) (hIo : ∀ i h, St i h → ∃ o, h.get? I = some o)
    (hSt : ∀ i h h' o nw, St i h → h.get? I = some o → h'.get? I = some o → (∀ b o, base.get? b = some o → h'.get? b = some o) → News base env.locals h' nw → S nw → St i h')
    (hx : env.kindOf x = some .local) (hp : (env.scope.kind == .class || (env.scope.kind == .module && env.locals != env.globals)) = false)
    (J : Nat → (Str → Option Value) → List (Addr × Obj) → Prop) (hS : ∀ i m news, J i m news → S news)
    (G : Grd K p loose mean mg mb A₀ base outer g₀ g) (F : Fr g env.locals s.heap m) (N : News g env.locals s.heap news) (hIL : env.locals ≠ I) (hLf : env.locals ∉ fp) (hIg : g.get? I = none) (off : ∀ p ∈ news, p.1 ≠ I) (hst : St 0 s.heap) (h0 : J 0 m news)
    (turn : ∀ i v oI g m news h tk, i < n → P i v → J i m news → (∀ p ∈ news, p.1 ≠ I) → Grd K p loose mean mg mb A₀ base outer g₀ g → Fr g env.locals h (fun y => if y = x then some v else m y) → News g env.locals h ((I, oI) :: news) →
      wpAny (model prog w) A (execs body env) (fun f s₂ => match f with
        | .ret v => R (.ok (.ret v)) s₂
        | .brk => R (.ok .next) s₂
        | _ => TurnT K p loose mean mg mb A₀ base outer g₀ env.locals s I oI (J (i + 1)) s₂)
        (notedBy (model prog w) A env fun e s' => R (.error e) s') { s with heap := h, toks := tk })
    (hR : ∀ g m news h tk, J n m news → Grd K p loose mean mg mb A₀ base outer g₀ g → Fr g env.locals h m → News g env.locals h news → (∀ p ∈ news, p.1 ≠ I) → R (.ok .next) { s with heap := h, toks := tk }) :
    codeAny (model prog w) A (.forLoop (.Name x px) (.ref I) body [] env) R s := by
  have hI0 : g₀.get? I = none := turn_none G.Tn hIg
  refine codeAny_forLoop (fun k s' => ∃ i g m news h tk, s' = { s with heap := h, toks := tk } ∧ i ≤ n ∧ k = n + 1 - i ∧ St i h ∧ Grd K p loose mean mg mb A₀ base outer g₀ g ∧ Fr g env.locals h m ∧ News g env.locals h news ∧ (∀ p ∈ news, p.1 ≠ I) ∧ J i m news) ?_ (n + 1)
    ⟨0, g, m, news, s.heap, s.toks, rfl, Nat.zero_le _, rfl, hst, G, F, N, off, h0⟩
  rintro k s' ⟨i, g, m, news, h, tk, rfl, hi, rfl, hst, G, F, N, off, hJ⟩
  have hIg : g.get? I = none := G.Tn.none_ _ hI0
  by_cases hlt : i < n
  · refine W.item i _ _ _ hlt hst fun v h₁ tk₁ hP hst₁ hk₁ => ?_
    have F₁ : Fr g env.locals h₁ m := LCg.fr_but F hk₁ hIL hIg
    have N₁ : News g env.locals h₁ news := LCg.news_but N hk₁ off
    refine wpAny_assign_Name (wpAny_storeName_local hx F₁.ns (fun h₂ hn₂ hs₂ => ?_) hp)
    have F₂ := F₁.set hn₂ hs₂
    have N₂ := N₁.set hs₂
    have hst₂ : St (i + 1) h₂ := W.frame _ _ _ hst₁ fun b hb o e => (hs₂.2 b fun q => hLf (q ▸ hb)).trans e
    obtain ⟨oI, hoI⟩ := hIo _ _ hst₂
    have N₃ : News g env.locals h₂ ((I, oI) :: news) := fun q hq => by
      rcases List.mem_cons.mp hq with rfl | hq
      · exact ⟨hoI, Ne.symm hIL, hIg⟩
      · exact N₂ q hq
    refine wpAny_mono (turn i v oI g m news h₂ _ hlt hP hJ off G F₂ N₃) (fun f s₂ hf => ?_) fun _ _ e => e
    have fin : (∃ g' m' news' h' tk', s₂ = { s with heap := h', toks := tk' } ∧ Grd K p loose mean mg mb A₀ base outer g₀ g' ∧ Fr g' env.locals h' m' ∧ News g' env.locals h' ((I, oI) :: news') ∧ (∀ p ∈ news', p.1 ≠ I) ∧ J (i + 1) m' news') →
        ∃ k', k' < n + 1 - i ∧ ∃ i g m news h tk, s₂ = { s with heap := h, toks := tk } ∧ i ≤ n ∧ k' = n + 1 - i ∧ St i h ∧ Grd K p loose mean mg mb A₀ base outer g₀ g ∧ Fr g env.locals h m ∧ News g env.locals h news ∧ (∀ p ∈ news, p.1 ≠ I) ∧ J i m news := by
      rintro ⟨g', m', news', h', tk', rfl, G', F', N', off', hJ'⟩
      have N'' : News g' env.locals h' news' := fun q hq => N' q (.tail _ hq)
      have kb : ∀ b o, base.get? b = some o → h'.get? b = some o := fun b o e => F'.keep b o (G'.B.stays b o e)
      exact ⟨n + 1 - (i + 1), by omega, i + 1, g', m', news', h', tk', rfl, hlt, rfl,
        hSt _ _ _ _ _ hst₂ hoI (N' _ (.head _)).1 kb (fun q hq => ⟨(N'' q hq).1, (N'' q hq).2.1, fresh_of_stays G'.B.stays (N'' q hq).2.2⟩) (hS _ _ _ hJ'), G', F', N'', off', hJ'⟩
    cases f with
    | ret v => exact hf
    | brk => exact hf
    | cont => exact fin hf
    | next => exact fin hf
  · have hin : i = n := by omega
    subst hin
    refine W.done _ _ _ hst fun h₁ tk₁ hk₁ => wpAny_execs_nil ?_
    exact hR g m news h₁ tk₁ hJ G (LCg.fr_but F hk₁ hIL hIg) (LCg.news_but N hk₁ off) off

/-- for over a list, the ground may turn -/
theorem forList_T {E : Value → Shared → Prop} {Q : Flow → Shared → Prop} {x : Str} {px : Pos} {body : List Stmt} {l : Addr} {items : Array Value} {m : Str → Option Value} {news : List (Addr × Obj)}
    (hh : A.handled = none) (hx : env.kindOf x = some .local) (hp : (env.scope.kind == .class || (env.scope.kind == .module && env.locals != env.globals)) = false)
    (J : Nat → (Str → Option Value) → List (Addr × Obj) → Prop) (hS : ∀ i m news, J i m news → LCg.SrcAt base l items news)
    (G : Grd K p loose mean mg mb A₀ base outer g₀ g) (F : Fr g env.locals s.heap m) (N : News g env.locals s.heap news) (h0 : J 0 m news)
    (turn : ∀ i v I oI g m news h tk, items[i]? = some v → J i m news → (∀ p ∈ news, p.1 ≠ I) → Grd K p loose mean mg mb A₀ base outer g₀ g → Fr g env.locals h (fun y => if y = x then some v else m y) → News g env.locals h ((I, oI) :: news) →
      wpAny (model prog w) A (execs body env) (fun f s₂ => match f with
        | .ret v => Q (.ret v) s₂
        | .brk => Q .next s₂
        | _ => TurnT K p loose mean mg mb A₀ base outer g₀ env.locals s I oI (J (i + 1)) s₂)
        E { s with heap := h, toks := tk })
    (done : ∀ g m news h tk, J items.size m news → Grd K p loose mean mg mb A₀ base outer g₀ g → Fr g env.locals h m → News g env.locals h news → Q .next { s with heap := h, toks := tk })
    (hE : PassesOwn (model prog w) A env E := by passes_own) :
    wpAny (model prog w) A (pyIter (.ref l)) (fun it s₂ => codeAny (model prog w) A (.forLoop (.Name x px) it body [] env) (fun r s' => match r with | .ok f => Q f s' | .error e => cameBackBy (model prog w) A env E e s') s₂) E s := by
  have hl : s.heap.IsList l items := (hS _ _ _ h0).list (fun b o e => F.keep b o (G.B.stays b o e)) (fun q hq => ⟨(N q hq).1, (N q hq).2.1, fresh_of_stays G.B.stays (N q hq).2.2⟩)
  have hlt : l < s.heap.objs.size := by obtain ⟨_, e, _⟩ := hl; exact Heap.lt_size e
  have hlL : env.locals ≠ l := fun q => by
    obtain ⟨oL, es, ep, hL, hLd, _⟩ := F.ns
    obtain ⟨ol, hol, hc, ne, hd⟩ := hl
    rw [q, hol] at hL
    cases hL
    rw [hd] at hLd; cases hLd
  refine wpAny_pyIter_list hl ?_
  have up : ∀ b o, s.heap.get? b = some o → (s.heap.push { cls := .type "list_iterator", data := .fields #[.ref l, .int 0 0] }).get? b = some o := fun b o e => Heap.get?_push_of_some _ e
  refine forLoop_T (s := { s with heap := s.heap.push { cls := .type "list_iterator", data := .fields #[.ref l, .int 0 0] } }) (R := fun r s' => match r with | .ok f => Q f s' | .error e => cameBackBy (model prog w) A env E e s')
    (Walks.list hh s.heap.objs.size l (Nat.ne_of_lt hlt) items) (fun i h st => by obtain ⟨o, e, _⟩ := st.1; exact ⟨o, e⟩) LCg.list_st hx hp J hS G (F.keeps up) (N.grown up) (Nat.ne_of_lt F.ns.lt) (fun hm => ?_) (next_is_new F) (fun q hq => Nat.ne_of_lt (Heap.lt_size (N q hq).1))
    ⟨⟨_, Heap.get?_push_size _ rfl, rfl, rfl⟩, hl.push _⟩ h0 (fun i v oI g m news h tk _ hP hJ off G F N => wpAny_passesOwn hE (turn i v _ oI g m news h tk hP hJ off G F N)) (fun g m news h tk hJ G F N _ => done g m news h tk hJ G F N)
  rcases List.mem_cons.mp hm with e | hm
  · exact absurd F.ns.lt (e ▸ Nat.lt_irrefl _)
  · exact hlL (List.mem_singleton.mp hm)
/-- for over range(n), the ground may turn -/
theorem forRange_T {E : Value → Shared → Prop} {Q : Flow → Shared → Prop} {x : Str} {px : Pos} {body : List Stmt} {r : Addr} {b : Int} {t u v : Tok} {n : Nat} {m : Str → Option Value} {news : List (Addr × Obj)}
    (hh : A.handled = none) (hx : env.kindOf x = some .local) (hp : (env.scope.kind == .class || (env.scope.kind == .module && env.locals != env.globals)) = false)
    (hr : IsRange s.heap r 0 b 1 t u v) (hsmall : Builtin.Range.small 0 b 1 = true) (hn : Builtin.Range.rangeSize 0 b 1 = (n : Int))
    (J : Nat → (Str → Option Value) → List (Addr × Obj) → Prop)
    (G : Grd K p loose mean mg mb A₀ base outer g₀ g) (F : Fr g env.locals s.heap m) (N : News g env.locals s.heap news) (h0 : J 0 m news)
    (turn : ∀ i t I oI g m news h tk, i < n → J i m news → (∀ p ∈ news, p.1 ≠ I) → Grd K p loose mean mg mb A₀ base outer g₀ g → Fr g env.locals h (fun y => if y = x then some (.int (i : Int) t) else m y) → News g env.locals h ((I, oI) :: news) →
      wpAny (model prog w) A (execs body env) (fun f s₂ => match f with
        | .ret v => Q (.ret v) s₂
        | .brk => Q .next s₂
        | _ => TurnT K p loose mean mg mb A₀ base outer g₀ env.locals s I oI (J (i + 1)) s₂)
        E { s with heap := h, toks := tk })
    (done : ∀ g m news h tk, J n m news → Grd K p loose mean mg mb A₀ base outer g₀ g → Fr g env.locals h m → News g env.locals h news → Q .next { s with heap := h, toks := tk })
    (hE : PassesOwn (model prog w) A env E := by passes_own) :
    wpAny (model prog w) A (pyIter (.ref r)) (fun it s₂ => codeAny (model prog w) A (.forLoop (.Name x px) it body [] env) (fun r s' => match r with | .ok f => Q f s' | .error e => cameBackBy (model prog w) A env E e s') s₂) E s := by
  refine wpAny_pyIter_range hr hsmall ?_
  refine forLoop_T (R := fun r s' => match r with | .ok f => Q f s' | .error e => cameBackBy (model prog w) A env E e s')
    (LCg.range_walks hh 0 n) (fun i h st => ⟨_, st⟩) LCg.range_st hx hp J (fun _ _ _ _ => trivial) G (F.push _) (fun p hp => ⟨Heap.get?_push_of_some _ (N p hp).1, (N p hp).2⟩) (Nat.ne_of_lt F.ns.lt) (fun hm => ?_) (next_is_new F) (fun q hq => Nat.ne_of_lt (Heap.lt_size (N q hq).1))
    (by show IsRangeIter _ _ _ _ _; rw [hn]; simpa using Heap.get?_push_size _ rfl) h0 (fun i v oI g m news h tk hi hP hJ off G F N => ?_) (fun g m news h tk hJ G F N _ => done g m news h tk hJ G F N)
  · exact absurd F.ns.lt ((List.mem_singleton.mp hm) ▸ Nat.lt_irrefl _)
  · obtain ⟨t, rfl⟩ := hP
    rw [Int.zero_add] at F
    exact wpAny_passesOwn hE (turn i t _ oI g m news h tk hi hJ off G F N)
end
end Mine

end

section
open PySem PySem.W PyProof.Rows PySem.Spec PyProof.V
set_option Elab.async false
set_option maxRecDepth 100000
set_option maxHeartbeats 8000000
namespace Mine

local macro_rules | `(tactic| k_room) => `(tactic| ((try simp only [depth_under_make, depth_under_kw, depth_in1, depth_deeper, depth_caller]); (simp only [recursionLimit] at *); omega))
local macro_rules | `(tactic| k_all) => `(tactic| assumption)
local macro_rules | `(tactic| walk_at "call builtin:list.remove") => `(tactic| (k_here; (show wpAny _ _ (call (Value.builtin _) [Value.ref _, Value.int _ _]) _ _ _); k_dflt (refine' rem_S ?F ?N ?U ?i ?e ?z ?_; (case F => k_asm); (case N => k_asm); (case U => k_updF); (case i => assumption); (case e => assumption); (case z => first | assumption | omega | (simp only [List.length_append, List.length_cons, List.length_nil]; omega)); k_whole); intro h' vs' n' hi' hl' F' N'; (try dsimp only at N'); (try k_sweep)))
local macro_rules | `(tactic| walk_at "call builtin:list.pop") => `(tactic| (k_here; (show wpAny _ _ (call (Value.builtin _) [Value.ref _, Value.int 0 _]) _ _ _); k_dflt (refine' pop0_S ?F ?N ?U ?i ?e ?z ?_; (case F => k_asm); (case N => k_asm); (case U => k_updF); (case i => assumption); (case e => assumption); (case z => first | assumption | omega | (simp only [List.length_append, List.length_cons, List.length_nil]; omega)); k_whole); intro h' vs' n' ta' hi' F' N'; (try dsimp only at N'); (try k_sweep)))
local macro_rules | `(tactic| walk_at "call builtin:list.append") => `(tactic| (k_here; (show wpAny _ _ (call (Value.builtin _) [Value.ref _, Value.int _ _]) _ _ _); k_dflt (refine' app_S ?F ?N ?U ?i ?z ?_; (case F => k_asm); (case N => k_asm); (case U => k_updF); (case i => assumption); (case z => first | assumption | omega | (simp only [List.length_append, List.length_cons, List.length_nil]; omega)); k_whole); intro h' vs' n' hi' F' N'; (try dsimp only at N'); (try k_sweep)))
local macro_rules | `(tactic| walk_at "setItem ref int") => `(tactic| (k_here; k_dflt (refine' setItem_K PyProof.V.same_int (intKind_is _ _ _ _) ?v ?F ?N ?U ?d ?f ?_ ?z; (case F => k_asm); (case N => k_asm); (case U => k_updF); (case d => k_asm); (case f => k_asm); (case z => (rw [PySem.sizeLine_eq]; omega)); (case v => exact PyProof.V.Flat.int _ _)); intro h' o' F' N' hd' hf'; (try dsimp only at N'); (try k_sweep)))
local macro_rules | `(tactic| walk_at "delItem ref int") => `(tactic| (k_here; k_dflt (refine' del_S ?F ?N ?U ?d ?f ?l ?z ?_; (case F => k_asm); (case N => k_asm); (case U => k_updF); (case d => k_asm); (case f => k_asm); (case l => assumption); (case z => omega)); intro h' o' F' N' hd' hf'; (try dsimp only at N'); (try k_sweep)))

theorem setitem_hit {w : World} {mean : ExcName → Option Value} {mg mb : Str → Option Value} {A₀ A : Around} {base h₀ : Heap} {outer : List Env} {env : Env} {L : Addr} {m : Str → Option Value} {s : Shared} {rest : List (Addr × Obj)} {Q E : Value → Shared → Prop}
    {x dx mp q lk dlk : Nat} {cap : Int} {t0 t1 t2 t3 t4 : Tok} {o : Obj} {kvs : List (Int × Value)} {D : List (PyData × PyData)} {vs : List Value} {qs : List Int} {n : Nat}
    (B : Below A₀ base outer h₀) (F : Fr h₀ L s.heap m) (X : (hd.heap_39 w.params).In h₀) (T : Top hd.view_39 (looseW hd.view_39 []) mean mg mb h₀)
    (N : News h₀ L s.heap ((x, instObj 169 dx) :: (dx, fieldsOf w mp q lk cap t0 t1 t2 t3 t4) :: (mp, o) :: (q, listOf vs.toArray n) :: (lk, instObj 45 dlk) :: (dlk, dictOf [] 0) :: rest))
    (hd : o.IsDictOf (intKind PySem.Challenge.rw_bw0012_01.row.prog w) kvs) (hf : FlatPairs PyData.int kvs D) (lo : (mp == sysModules) = false) (hi : IntsAre vs qs)
    (a1 : dx < x) (a2 : x < mp) (a3 : mp < q) (a4 : q < dlk) (a5 : dlk < lk) (r1 : ∀ p ∈ rest, p.1 ≠ mp) (r2 : ∀ p ∈ rest, p.1 ≠ q)
    (hA : A.frames = some (env :: outer)) (he : env.frame = some L) (hk : env.scope.kind = .function) (hdp : A.depth + 20 < recursionLimit) (hun : A.units + 100 < cLine)
    {k v : Int} {t tv : Tok} (hkq : k ∈ qs) (hlk : (Spec.lookup (.int k) D).isSome = true) (hlen : qs.length ≤ 900) (hDl : D.length ≤ 900)
    (h : ∀ h' tk' o' vs' n', Fr h₀ L h' m → News h₀ L h' ((x, instObj 169 dx) :: (dx, fieldsOf w mp q lk cap t0 t1 t2 t3 t4) :: (mp, o') :: (q, listOf vs'.toArray n') :: (lk, instObj 45 dlk) :: (dlk, dictOf [] 0) :: rest) → o'.IsDictOf (intKind PySem.Challenge.rw_bw0012_01.row.prog w) (stored kvs k (.int v tv)) → FlatPairs PyData.int (stored kvs k (.int v tv)) (putD (.int k) (.int v) D) → IntsAre vs' (qs.erase k ++ [k]) → Q (.none) { s with heap := h', toks := tk' }) :
    wpAny (model PySem.Challenge.rw_bw0012_01.row.prog w) A (call (.ref 128) [.ref x, .int k t, .int v tv]) Q E s := by
  obtain ⟨ahd, adp, afr, agd, aun⟩ := A
  dsimp only at hA hdp hun
  subst hA
  revert X
  k_fill
  intro X
  refine wpAny_call ?_
  k_dflt (refine' code_def ?k1 ?k2 ?k3 ?k4 ?k5 ?kA ?kF ?kK ?k6 ?k7 ?k8 ?k9 ?kB ?_ ?c2 ?c3 ?c4 ?c5; (case kA => exact rfl); (case kF => exact he); (case kK => exact hk); (case k1 => k_asm); (case k2 => k_asm); (case k3 => k_asm); (case k4 => k_asm); (case k5 => k_asm); (case k6 => k_is); (case k7 => k_is); (case k8 => k_room); (case k9 => exact BindsTo.of_eq rfl); (case c5 => decide); (case kB => exact locs rfl); (case c2 => exact rfl); (case c3 => exact rfl); (case c4 => exact rfl); k_whole; intro g' L' h' FG' F' N' B' X' T'; (try dsimp only); (try k_fold))
  k_steps
  exact h _ _ _ _ _ (by assumption) (by assumption) (by assumption) (by assumption) (by assumption)

theorem setitem_new {w : World} {mean : ExcName → Option Value} {mg mb : Str → Option Value} {A₀ A : Around} {base h₀ : Heap} {outer : List Env} {env : Env} {L : Addr} {m : Str → Option Value} {s : Shared} {rest : List (Addr × Obj)} {Q E : Value → Shared → Prop}
    {x dx mp q lk dlk : Nat} {cap : Int} {t0 t1 t2 t3 t4 : Tok} {o : Obj} {kvs : List (Int × Value)} {D : List (PyData × PyData)} {vs : List Value} {qs : List Int} {n : Nat}
    (B : Below A₀ base outer h₀) (F : Fr h₀ L s.heap m) (X : (hd.heap_39 w.params).In h₀) (T : Top hd.view_39 (looseW hd.view_39 []) mean mg mb h₀)
    (N : News h₀ L s.heap ((x, instObj 169 dx) :: (dx, fieldsOf w mp q lk cap t0 t1 t2 t3 t4) :: (mp, o) :: (q, listOf vs.toArray n) :: (lk, instObj 45 dlk) :: (dlk, dictOf [] 0) :: rest))
    (hd : o.IsDictOf (intKind PySem.Challenge.rw_bw0012_01.row.prog w) kvs) (hf : FlatPairs PyData.int kvs D) (lo : (mp == sysModules) = false) (hi : IntsAre vs qs)
    (a1 : dx < x) (a2 : x < mp) (a3 : mp < q) (a4 : q < dlk) (a5 : dlk < lk) (r1 : ∀ p ∈ rest, p.1 ≠ mp) (r2 : ∀ p ∈ rest, p.1 ≠ q)
    (hA : A.frames = some (env :: outer)) (he : env.frame = some L) (hk : env.scope.kind = .function) (hdp : A.depth + 20 < recursionLimit) (hun : A.units + 100 < cLine)
    {k v : Int} {t tv : Tok} (hlk : (Spec.lookup (.int k) D).isSome = false) (hlen : qs.length ≤ 900) (hDl : D.length ≤ 900) (hDc : ¬ ((D.length : Int) = cap))
    (h : ∀ h' tk' o' vs' n', Fr h₀ L h' m → News h₀ L h' ((x, instObj 169 dx) :: (dx, fieldsOf w mp q lk cap t0 t1 t2 t3 t4) :: (mp, o') :: (q, listOf vs'.toArray n') :: (lk, instObj 45 dlk) :: (dlk, dictOf [] 0) :: rest) → o'.IsDictOf (intKind PySem.Challenge.rw_bw0012_01.row.prog w) (stored kvs k (.int v tv)) → FlatPairs PyData.int (stored kvs k (.int v tv)) (putD (.int k) (.int v) D) → IntsAre vs' (qs ++ [k]) → Q (.none) { s with heap := h', toks := tk' }) :
    wpAny (model PySem.Challenge.rw_bw0012_01.row.prog w) A (call (.ref 128) [.ref x, .int k t, .int v tv]) Q E s := by
  obtain ⟨ahd, adp, afr, agd, aun⟩ := A
  dsimp only at hA hdp hun
  subst hA
  revert X
  k_fill
  intro X
  refine wpAny_call ?_
  k_dflt (refine' code_def ?k1 ?k2 ?k3 ?k4 ?k5 ?kA ?kF ?kK ?k6 ?k7 ?k8 ?k9 ?kB ?_ ?c2 ?c3 ?c4 ?c5; (case kA => exact rfl); (case kF => exact he); (case kK => exact hk); (case k1 => k_asm); (case k2 => k_asm); (case k3 => k_asm); (case k4 => k_asm); (case k5 => k_asm); (case k6 => k_is); (case k7 => k_is); (case k8 => k_room); (case k9 => exact BindsTo.of_eq rfl); (case c5 => decide); (case kB => exact locs rfl); (case c2 => exact rfl); (case c3 => exact rfl); (case c4 => exact rfl); k_whole; intro g' L' h' FG' F' N' B' X' T'; (try dsimp only); (try k_fold))
  k_steps
  · exact absurd (by assumption) hDc
  · exact h _ _ _ _ _ (by assumption) (by assumption) (by assumption) (by assumption) (by assumption)

theorem setitem_full {w : World} {mean : ExcName → Option Value} {mg mb : Str → Option Value} {A₀ A : Around} {base h₀ : Heap} {outer : List Env} {env : Env} {L : Addr} {m : Str → Option Value} {s : Shared} {rest : List (Addr × Obj)} {Q E : Value → Shared → Prop}
    {x dx mp q lk dlk : Nat} {cap : Int} {t0 t1 t2 t3 t4 : Tok} {o : Obj} {kvs : List (Int × Value)} {D : List (PyData × PyData)} {vs : List Value} {qs : List Int} {n : Nat}
    (B : Below A₀ base outer h₀) (F : Fr h₀ L s.heap m) (X : (hd.heap_39 w.params).In h₀) (T : Top hd.view_39 (looseW hd.view_39 []) mean mg mb h₀)
    (N : News h₀ L s.heap ((x, instObj 169 dx) :: (dx, fieldsOf w mp q lk cap t0 t1 t2 t3 t4) :: (mp, o) :: (q, listOf vs.toArray n) :: (lk, instObj 45 dlk) :: (dlk, dictOf [] 0) :: rest))
    (hd : o.IsDictOf (intKind PySem.Challenge.rw_bw0012_01.row.prog w) kvs) (hf : FlatPairs PyData.int kvs D) (lo : (mp == sysModules) = false) (hi : IntsAre vs qs)
    (a1 : dx < x) (a2 : x < mp) (a3 : mp < q) (a4 : q < dlk) (a5 : dlk < lk) (r1 : ∀ p ∈ rest, p.1 ≠ mp) (r2 : ∀ p ∈ rest, p.1 ≠ q)
    (hA : A.frames = some (env :: outer)) (he : env.frame = some L) (hk : env.scope.kind = .function) (hdp : A.depth + 20 < recursionLimit) (hun : A.units + 100 < cLine)
    {k v a : Int} {r : List Int} {t tv : Tok} (hlk : (Spec.lookup (.int k) D).isSome = false) (hlen : qs.length ≤ 900) (hr : r.length ≤ 900) (hDl : D.length ≤ 900) (hdl : (delD (.int a) D).length ≤ 900) (hDc : ((D.length : Int) = cap)) (hqa : qs = a :: r) (hla : (Spec.lookup (.int a) D).isSome = true)
    (h : ∀ h' tk' o' vs' n', Fr h₀ L h' m → News h₀ L h' ((x, instObj 169 dx) :: (dx, fieldsOf w mp q lk cap t0 t1 t2 t3 t4) :: (mp, o') :: (q, listOf vs'.toArray n') :: (lk, instObj 45 dlk) :: (dlk, dictOf [] 0) :: rest) → o'.IsDictOf (intKind PySem.Challenge.rw_bw0012_01.row.prog w) (stored (without kvs a) k (.int v tv)) → FlatPairs PyData.int (stored (without kvs a) k (.int v tv)) (putD (.int k) (.int v) (delD (.int a) D)) → IntsAre vs' (r ++ [k]) → Q (.none) { s with heap := h', toks := tk' }) :
    wpAny (model PySem.Challenge.rw_bw0012_01.row.prog w) A (call (.ref 128) [.ref x, .int k t, .int v tv]) Q E s := by
  obtain ⟨ahd, adp, afr, agd, aun⟩ := A
  dsimp only at hA hdp hun
  subst hA
  revert X
  k_fill
  intro X
  refine wpAny_call ?_
  k_dflt (refine' code_def ?k1 ?k2 ?k3 ?k4 ?k5 ?kA ?kF ?kK ?k6 ?k7 ?k8 ?k9 ?kB ?_ ?c2 ?c3 ?c4 ?c5; (case kA => exact rfl); (case kF => exact he); (case kK => exact hk); (case k1 => k_asm); (case k2 => k_asm); (case k3 => k_asm); (case k4 => k_asm); (case k5 => k_asm); (case k6 => k_is); (case k7 => k_is); (case k8 => k_room); (case k9 => exact BindsTo.of_eq rfl); (case c5 => decide); (case kB => exact locs rfl); (case c2 => exact rfl); (case c3 => exact rfl); (case c4 => exact rfl); k_whole; intro g' L' h' FG' F' N' B' X' T'; (try dsimp only); (try k_fold))
  k_steps
  · exact h _ _ _ _ _ (by assumption) (by assumption) (by assumption) (by assumption) (by assumption)
  · exact absurd hDc (by assumption)

theorem contains_raw {w : World} {mean : ExcName → Option Value} {mg mb : Str → Option Value} {A₀ A : Around} {base h₀ : Heap} {outer : List Env} {env : Env} {L : Addr} {m : Str → Option Value} {s : Shared} {rest : List (Addr × Obj)} {Q E : Value → Shared → Prop}
    {x dx mp q lk dlk : Nat} {cap : Int} {t0 t1 t2 t3 t4 : Tok} {o : Obj} {kvs : List (Int × Value)} {D : List (PyData × PyData)} {vs : List Value} {qs : List Int} {n : Nat}
    (B : Below A₀ base outer h₀) (F : Fr h₀ L s.heap m) (X : (hd.heap_39 w.params).In h₀) (T : Top hd.view_39 (looseW hd.view_39 []) mean mg mb h₀)
    (N : News h₀ L s.heap ((x, instObj 169 dx) :: (dx, fieldsOf w mp q lk cap t0 t1 t2 t3 t4) :: (mp, o) :: (q, listOf vs.toArray n) :: (lk, instObj 45 dlk) :: (dlk, dictOf [] 0) :: rest))
    (hd : o.IsDictOf (intKind PySem.Challenge.rw_bw0012_01.row.prog w) kvs) (hf : FlatPairs PyData.int kvs D) (lo : (mp == sysModules) = false) (hi : IntsAre vs qs)
    (a1 : dx < x) (a2 : x < mp) (a3 : mp < q) (a4 : q < dlk) (a5 : dlk < lk) (r1 : ∀ p ∈ rest, p.1 ≠ mp) (r2 : ∀ p ∈ rest, p.1 ≠ q)
    (hA : A.frames = some (env :: outer)) (he : env.frame = some L) (hk : env.scope.kind = .function) (hdp : A.depth + 20 < recursionLimit) (hun : A.units + 100 < cLine)
    {k : Int} {t : Tok}
    (h : ∀ h' tk', Fr h₀ L h' m → News h₀ L h' ((x, instObj 169 dx) :: (dx, fieldsOf w mp q lk cap t0 t1 t2 t3 t4) :: (mp, o) :: (q, listOf vs.toArray n) :: (lk, instObj 45 dlk) :: (dlk, dictOf [] 0) :: rest) → Q (.bool (Spec.lookup (.int k) D).isSome) { s with heap := h', toks := tk' }) :
    wpAny (model PySem.Challenge.rw_bw0012_01.row.prog w) A (call (.ref 100) [.ref x, .int k t]) Q E s := by
  obtain ⟨ahd, adp, afr, agd, aun⟩ := A
  dsimp only at hA hdp hun
  subst hA
  revert X
  k_fill
  intro X
  refine wpAny_call ?_
  k_dflt (refine' code_def ?k1 ?k2 ?k3 ?k4 ?k5 ?kA ?kF ?kK ?k6 ?k7 ?k8 ?k9 ?kB ?_ ?c2 ?c3 ?c4 ?c5; (case kA => exact rfl); (case kF => exact he); (case kK => exact hk); (case k1 => k_asm); (case k2 => k_asm); (case k3 => k_asm); (case k4 => k_asm); (case k5 => k_asm); (case k6 => k_is); (case k7 => k_is); (case k8 => k_room); (case k9 => exact BindsTo.of_eq rfl); (case c5 => decide); (case kB => exact locs rfl); (case c2 => exact rfl); (case c3 => exact rfl); (case c4 => exact rfl); k_whole; intro g' L' h' FG' F' N' B' X' T'; (try dsimp only); (try k_fold))
  k_steps
  exact h _ _ (by assumption) (by assumption)

theorem delitem_raw {w : World} {mean : ExcName → Option Value} {mg mb : Str → Option Value} {A₀ A : Around} {base h₀ : Heap} {outer : List Env} {env : Env} {L : Addr} {m : Str → Option Value} {s : Shared} {rest : List (Addr × Obj)} {Q E : Value → Shared → Prop}
    {x dx mp q lk dlk : Nat} {cap : Int} {t0 t1 t2 t3 t4 : Tok} {o : Obj} {kvs : List (Int × Value)} {D : List (PyData × PyData)} {vs : List Value} {qs : List Int} {n : Nat}
    (B : Below A₀ base outer h₀) (F : Fr h₀ L s.heap m) (X : (hd.heap_39 w.params).In h₀) (T : Top hd.view_39 (looseW hd.view_39 []) mean mg mb h₀)
    (N : News h₀ L s.heap ((x, instObj 169 dx) :: (dx, fieldsOf w mp q lk cap t0 t1 t2 t3 t4) :: (mp, o) :: (q, listOf vs.toArray n) :: (lk, instObj 45 dlk) :: (dlk, dictOf [] 0) :: rest))
    (hd : o.IsDictOf (intKind PySem.Challenge.rw_bw0012_01.row.prog w) kvs) (hf : FlatPairs PyData.int kvs D) (lo : (mp == sysModules) = false) (hi : IntsAre vs qs)
    (a1 : dx < x) (a2 : x < mp) (a3 : mp < q) (a4 : q < dlk) (a5 : dlk < lk) (r1 : ∀ p ∈ rest, p.1 ≠ mp) (r2 : ∀ p ∈ rest, p.1 ≠ q)
    (hA : A.frames = some (env :: outer)) (he : env.frame = some L) (hk : env.scope.kind = .function) (hdp : A.depth + 20 < recursionLimit) (hun : A.units + 100 < cLine)
    {k : Int} {t : Tok} (hkq : k ∈ qs) (hlk : (Spec.lookup (.int k) D).isSome = true) (hlen : qs.length ≤ 900) (hDl : D.length ≤ 900)
    (h : ∀ h' tk' o' vs' n', Fr h₀ L h' m → News h₀ L h' ((x, instObj 169 dx) :: (dx, fieldsOf w mp q lk cap t0 t1 t2 t3 t4) :: (mp, o') :: (q, listOf vs'.toArray n') :: (lk, instObj 45 dlk) :: (dlk, dictOf [] 0) :: rest) → o'.IsDictOf (intKind PySem.Challenge.rw_bw0012_01.row.prog w) (without kvs k) → FlatPairs PyData.int (without kvs k) (delD (.int k) D) → IntsAre vs' (qs.erase k) → Q (.none) { s with heap := h', toks := tk' }) :
    wpAny (model PySem.Challenge.rw_bw0012_01.row.prog w) A (call (.ref 135) [.ref x, .int k t]) Q E s := by
  obtain ⟨ahd, adp, afr, agd, aun⟩ := A
  dsimp only at hA hdp hun
  subst hA
  revert X
  k_fill
  intro X
  refine wpAny_call ?_
  k_dflt (refine' code_def ?k1 ?k2 ?k3 ?k4 ?k5 ?kA ?kF ?kK ?k6 ?k7 ?k8 ?k9 ?kB ?_ ?c2 ?c3 ?c4 ?c5; (case kA => exact rfl); (case kF => exact he); (case kK => exact hk); (case k1 => k_asm); (case k2 => k_asm); (case k3 => k_asm); (case k4 => k_asm); (case k5 => k_asm); (case k6 => k_is); (case k7 => k_is); (case k8 => k_room); (case k9 => exact BindsTo.of_eq rfl); (case c5 => decide); (case kB => exact locs rfl); (case c2 => exact rfl); (case c3 => exact rfl); (case c4 => exact rfl); k_whole; intro g' L' h' FG' F' N' B' X' T'; (try dsimp only); (try k_fold))
  k_steps
  exact h _ _ _ _ _ (by assumption) (by assumption) (by assumption) (by assumption) (by assumption)

end Mine

end

section
open PySem PySem.W PyProof.Rows PySem.Spec PyProof.V
set_option Elab.async false
set_option maxRecDepth 100000
set_option maxHeartbeats 8000000
namespace Mine

local macro_rules | `(tactic| k_room) => `(tactic| ((try simp only [depth_under_make, depth_under_kw, depth_in1, depth_deeper, depth_caller]); (simp only [recursionLimit] at *); omega))
local macro_rules | `(tactic| k_all) => `(tactic| assumption)
local macro_rules | `(tactic| walk_at "call builtin:list.remove") => `(tactic| (k_here; (show wpAny _ _ (call (Value.builtin _) [Value.ref _, Value.int _ _]) _ _ _); k_dflt (refine' rem_S ?F ?N ?U ?i ?e ?z ?_; (case F => k_asm); (case N => k_asm); (case U => k_updF); (case i => assumption); (case e => assumption); (case z => first | assumption | omega | (simp only [List.length_append, List.length_cons, List.length_nil]; omega)); k_whole); intro h' vs' n' hi' hl' F' N'; (try dsimp only at N'); (try k_sweep)))
local macro_rules | `(tactic| walk_at "call builtin:list.pop") => `(tactic| (k_here; (show wpAny _ _ (call (Value.builtin _) [Value.ref _, Value.int 0 _]) _ _ _); k_dflt (refine' pop0_S ?F ?N ?U ?i ?e ?z ?_; (case F => k_asm); (case N => k_asm); (case U => k_updF); (case i => assumption); (case e => assumption); (case z => first | assumption | omega | (simp only [List.length_append, List.length_cons, List.length_nil]; omega)); k_whole); intro h' vs' n' ta' hi' F' N'; (try dsimp only at N'); (try k_sweep)))
local macro_rules | `(tactic| walk_at "call builtin:list.append") => `(tactic| (k_here; (show wpAny _ _ (call (Value.builtin _) [Value.ref _, Value.int _ _]) _ _ _); k_dflt (refine' app_S ?F ?N ?U ?i ?z ?_; (case F => k_asm); (case N => k_asm); (case U => k_updF); (case i => assumption); (case z => first | assumption | omega | (simp only [List.length_append, List.length_cons, List.length_nil]; omega)); k_whole); intro h' vs' n' hi' F' N'; (try dsimp only at N'); (try k_sweep)))
local macro_rules | `(tactic| walk_at "setItem ref int") => `(tactic| (k_here; k_dflt (refine' setItem_K PyProof.V.same_int (intKind_is _ _ _ _) ?v ?F ?N ?U ?d ?f ?_ ?z; (case F => k_asm); (case N => k_asm); (case U => k_updF); (case d => k_asm); (case f => k_asm); (case z => (rw [PySem.sizeLine_eq]; omega)); (case v => exact PyProof.V.Flat.int _ _)); intro h' o' F' N' hd' hf'; (try dsimp only at N'); (try k_sweep)))
local macro_rules | `(tactic| walk_at "delItem ref int") => `(tactic| (k_here; k_dflt (refine' del_S ?F ?N ?U ?d ?f ?l ?z ?_; (case F => k_asm); (case N => k_asm); (case U => k_updF); (case d => k_asm); (case f => k_asm); (case l => assumption); (case z => omega)); intro h' o' F' N' hd' hf'; (try dsimp only at N'); (try k_sweep)))

local macro_rules | `(tactic| walk_at "call type:list") => `(tactic| (k_here; (show wpAny _ _ (call (Value.type _) [Value.ref _]) _ _ _); k_dflt (refine' kup_listOf ?F ?N ?b ?e ?_ ?z; (case F => k_asm); (case N => k_asm); (case b => k_mem); (case e => exact List.toList_toArray); (case z => (rw [PySem.sizeLine_eq]; simp only [List.toList_toArray]; omega))); intro D' c' h' F' N' l1; (try k_lt l1); (try k_sweep)))
local macro_rules | `(tactic| walk_at "exec Assign cons ListComp") => `(tactic| (k_here; k_dflt (refine LCg.Assign_ListComp_U (F₀ := by k_asm) (by rfl) (by with_unfolding_all rfl) (by with_unfolding_all rfl) (by decide) (by rfl) (by decide) (by rfl) (by rfl) (by rfl) ?_)))
local macro_rules | `(tactic| walk_at "CompSrc") => `(tactic| (k_here; k_dflt (refine LCg.CompSrc.ledger rfl (by k_asm) (by k_asm) (by k_mem) (by rw [List.size_toArray, sizeLine_eq]; omega) ?_); intro g'; refine stay ?_))
local macro_rules | `(tactic| walk_at "call builtin:list.reverse") => `(tactic| (k_here; (show wpAny _ _ (call (Value.builtin _) [Value.ref _]) _ _ _); k_dflt (refine' rev_S ?F ?N ?U ?z ?_; (case F => k_asm); (case N => k_asm); (case U => k_updF); (case z => omega)); intro h' F' N'; (try dsimp only at N'); (try k_sweep)))

theorem items_raw {w : World} {mean : ExcName → Option Value} {mg mb : Str → Option Value} {A₀ A : Around} {base h₀ : Heap} {outer : List Env} {env : Env} {L : Addr} {m : Str → Option Value} {s : Shared} {rest : List (Addr × Obj)} {Q E : Value → Shared → Prop}
    {x dx mp q lk dlk : Nat} {cap : Int} {t0 t1 t2 t3 t4 : Tok} {o : Obj} {kvs : List (Int × Value)} {D : List (PyData × PyData)} {vs : List Value} {qs : List Int} {n : Nat}
    (B : Below A₀ base outer h₀) (F : Fr h₀ L s.heap m) (X : (hd.heap_39 w.params).In h₀) (T : Top hd.view_39 (looseW hd.view_39 []) mean mg mb h₀)
    (N : News h₀ L s.heap ((x, instObj 169 dx) :: (dx, fieldsOf w mp q lk cap t0 t1 t2 t3 t4) :: (mp, o) :: (q, listOf vs.toArray n) :: (lk, instObj 45 dlk) :: (dlk, dictOf [] 0) :: rest))
    (hd : o.IsDictOf (intKind PySem.Challenge.rw_bw0012_01.row.prog w) kvs) (hf : FlatPairs PyData.int kvs D) (lo : (mp == sysModules) = false) (hi : IntsAre vs qs)
    (a1 : dx < x) (a2 : x < mp) (a3 : mp < q) (a4 : q < dlk) (a5 : dlk < lk) (r1 : ∀ p ∈ rest, p.1 ≠ mp) (r2 : ∀ p ∈ rest, p.1 ≠ q)
    (hA : A.frames = some (env :: outer)) (he : env.frame = some L) (hk : env.scope.kind = .function) (hdp : A.depth + 20 < recursionLimit) (hun : A.units + 100 < cLine)
    {val : Int → Int} (hh : A.handled = none) (hM : MapIs val D qs) (hlen : qs.length ≤ 900)
    (h : ∀ h' tk' l tl, Fr h₀ L h' m → News h₀ L h' (((x, instObj 169 dx) :: (dx, fieldsOf w mp q lk cap t0 t1 t2 t3 t4) :: (mp, o) :: (q, listOf vs.toArray n) :: (lk, instObj 45 dlk) :: (dlk, dictOf [] 0) :: rest) ++ tl) → DatIn tl (.ref l) (.list ((qs.map fun k => .tuple [.int k, .int (val k)]).reverse)) → (∀ p ∈ tl, ∀ r ∈ ((x, instObj 169 dx) :: (dx, fieldsOf w mp q lk cap t0 t1 t2 t3 t4) :: (mp, o) :: (q, listOf vs.toArray n) :: (lk, instObj 45 dlk) :: (dlk, dictOf [] 0) :: rest), r.1 ≠ p.1) → Q (.ref l) { s with heap := h', toks := tk' }) :
    wpAny (model PySem.Challenge.rw_bw0012_01.row.prog w) A (call (.ref 140) [.ref x]) Q E s := by
  obtain ⟨ahd, adp, afr, agd, aun⟩ := A
  dsimp only at hA hdp hun hh
  subst hh
  subst hA
  revert X
  k_fill
  intro X
  refine wpAny_call ?_
  k_dflt (refine' code_defC ?k1 ?k2 ?k3 ?k4 ?k5 ?kA ?kF ?kK ?k6 ?k7 ?k8 ?k9 ?kB ?kD ?_ ?c2 ?c3 ?c4; (case kA => exact rfl); (case kF => exact he); (case kK => exact hk); (case k1 => k_asm); (case k2 => k_asm); (case k3 => k_asm); (case k4 => k_asm); (case k5 => k_asm); (case k6 => k_is); (case k7 => k_is); (case k8 => k_room); (case k9 => exact BindsTo.of_eq rfl); (case kB => exact rfl); (case kD => decide +kernel); (case c2 => exact rfl); (case c3 => exact rfl); (case c4 => exact rfl); k_whole; intro g' L' h' tk' cells' FG' F' N' Y' B' X' T' l1; (try k_lt l1); k_cells Y'; (try simp only [List.cons_append, List.nil_append] at N'); (try dsimp only); (try k_fold))
  have hlv := hi.length
  k_steps
  refine unstay (compRest_ind (fun i ys tl => DatAll tl ys ((qs.take i).map fun k => .tuple [.int k, .int (val k)]) ∧ ∀ p ∈ tl, ∀ r ∈ ((x, instObj 169 dx) :: (dx, fieldsOf w mp q lk cap t0 t1 t2 t3 t4) :: (mp, o) :: (q, listOf vs.toArray n) :: (lk, instObj 45 dlk) :: (dlk, dictOf [] 0) :: rest), r.1 ≠ p.1) ⟨by simp only [List.take_zero, List.map_nil]; exact .nil, fun p hp => nomatch hp⟩ (fun tl => src_append (.inr ⟨_, by k_dflt k_mem, rfl, _, rfl⟩)) ?_ ?_)
  · intro i ys tl v I' oI' C' oC' D' m' h' tk' E' hlt' hInv' hv' hC' hx' F' N' off' ne'
    obtain ⟨ki, ti, rfl, hki⟩ := hi.at i v (by simpa using hv')
    have hkq : ki ∈ qs := List.mem_of_getElem? hki
    have hlk := hM.look hkq
    simp only [List.cons_append] at N'
    k_steps
    rename_i tf hvf D2 h2 F2 N2 l2
    obtain ⟨b1, b2, b3, b4, b5, b6, b7, b8, b9, b10, b11, b12⟩ := l2
    refine ⟨_, _, _ :: tl, rfl, by assumption, news_mid N2, ⟨⟨Nat.ne_of_gt b1, Nat.ne_of_gt b2, Nat.ne_of_gt b3⟩, off'⟩, ?_, ?_⟩
    · rw [List.take_add_one, hki, List.map_append]
      exact (hInv'.1.mono (fun p hp => .tail _ hp)).append (DatAll.one (.tuple (.head _) (.cons (.int _ _) (.cons (.int _ _) .nil))))
    · intro p hp
      rcases List.mem_cons.mp hp with rfl | hp
      · have hr : ∀ p ∈ rest, p.1 ≠ D2 := fun p hp => allLt_ne b12 p (List.mem_append_left _ hp)
        k_all
      · exact hInv'.2 p hp
  · intro ys tl hInv' D3 h3 tk3 F3 N3 o3
    rw [show vs.toArray.size = qs.length by simpa using hlv, List.take_length] at hInv'
    have hly : ys.length ≤ 900 := by rw [hInv'.1.length, List.length_map]; exact hlen
    simp only [List.cons_append, LCg.Off1] at N3 o3
    obtain ⟨b1, b2, b3, b4, b5, b6, b7, b8, b9⟩ := o3
    have hr := off1_mem b9
    k_steps
    (rename News h₀ _ _ _ => kN)
    refine h _ _ D3 ((D3, W.listOf ys.reverse.toArray ys.length) :: tl) (by assumption) (news_sub kN ?_) (.list (.head _) (datAll_reverse (hInv'.1.mono (fun p hp => .tail _ hp)))) ?_
    · intro p hp
      simp only [List.mem_append, List.mem_cons] at hp ⊢
      rcases hp with (h | h | h | h | h | h | h) | h | h <;> simp [h]
    · intro p hp
      rcases List.mem_cons.mp hp with rfl | hp
      · have hr' : ∀ p ∈ rest, p.1 ≠ D3 := fun p hp => hr p (List.mem_append_left _ hp)
        clear hr
        k_all
      · exact hInv'.2 p hp

end Mine

end

section
open PySem PySem.W PyProof.Rows PySem.Spec PyProof.V
set_option Elab.async false
set_option maxRecDepth 100000
set_option maxHeartbeats 8000000
namespace Mine

local macro_rules | `(tactic| k_room) => `(tactic| ((try simp only [depth_under_make, depth_under_kw, depth_in1, depth_deeper, depth_caller]); (simp only [recursionLimit] at *); omega))
local macro_rules | `(tactic| k_all) => `(tactic| assumption)
local macro_rules | `(tactic| walk_at "call builtin:list.remove") => `(tactic| (k_here; (show wpAny _ _ (call (Value.builtin _) [Value.ref _, Value.int _ _]) _ _ _); k_dflt (refine' rem_S ?F ?N ?U ?i ?e ?z ?_; (case F => k_asm); (case N => k_asm); (case U => k_updF); (case i => assumption); (case e => assumption); (case z => first | assumption | omega | (simp only [List.length_append, List.length_cons, List.length_nil]; omega)); k_whole); intro h' vs' n' hi' hl' F' N'; (try dsimp only at N'); (try k_sweep)))
local macro_rules | `(tactic| walk_at "call builtin:list.pop") => `(tactic| (k_here; (show wpAny _ _ (call (Value.builtin _) [Value.ref _, Value.int 0 _]) _ _ _); k_dflt (refine' pop0_S ?F ?N ?U ?i ?e ?z ?_; (case F => k_asm); (case N => k_asm); (case U => k_updF); (case i => assumption); (case e => assumption); (case z => first | assumption | omega | (simp only [List.length_append, List.length_cons, List.length_nil]; omega)); k_whole); intro h' vs' n' ta' hi' F' N'; (try dsimp only at N'); (try k_sweep)))
local macro_rules | `(tactic| walk_at "call builtin:list.append") => `(tactic| (k_here; (show wpAny _ _ (call (Value.builtin _) [Value.ref _, Value.int _ _]) _ _ _); k_dflt (refine' app_S ?F ?N ?U ?i ?z ?_; (case F => k_asm); (case N => k_asm); (case U => k_updF); (case i => assumption); (case z => first | assumption | omega | (simp only [List.length_append, List.length_cons, List.length_nil]; omega)); k_whole); intro h' vs' n' hi' F' N'; (try dsimp only at N'); (try k_sweep)))
local macro_rules | `(tactic| walk_at "setItem ref int") => `(tactic| (k_here; k_dflt (refine' setItem_K PyProof.V.same_int (intKind_is _ _ _ _) ?v ?F ?N ?U ?d ?f ?_ ?z; (case F => k_asm); (case N => k_asm); (case U => k_updF); (case d => k_asm); (case f => k_asm); (case z => (rw [PySem.sizeLine_eq]; omega)); (case v => exact PyProof.V.Flat.int _ _)); intro h' o' F' N' hd' hf'; (try dsimp only at N'); (try k_sweep)))
local macro_rules | `(tactic| walk_at "delItem ref int") => `(tactic| (k_here; k_dflt (refine' del_S ?F ?N ?U ?d ?f ?l ?z ?_; (case F => k_asm); (case N => k_asm); (case U => k_updF); (case d => k_asm); (case f => k_asm); (case l => assumption); (case z => omega)); intro h' o' F' N' hd' hf'; (try dsimp only at N'); (try k_sweep)))

theorem init_raw {w : World} {mean : ExcName → Option Value} {mg mb : Str → Option Value} {A₀ A : Around} {base h₀ : Heap} {outer : List Env} {env : Env} {L : Addr} {m : Str → Option Value} {s : Shared} {rest : List (Addr × Obj)} {Q E : Value → Shared → Prop}
    {cap : Int} {t0 : Tok}
    (B : Below A₀ base outer h₀) (F : Fr h₀ L s.heap m) (X : (hd.heap_39 w.params).In h₀) (T : Top hd.view_39 (looseW hd.view_39 []) mean mg mb h₀)
    (hA : A.frames = some (env :: outer)) (he : env.frame = some L) (hk : env.scope.kind = .function) (hdp : A.depth + 20 < recursionLimit) (hun : A.units + 100 < cLine)
    (N : News h₀ L s.heap rest)
    (h : ∀ h' tk' (x dx mp q lk dlk : Nat) t1 t2 t3 t4 o n, Fr h₀ L h' m → News h₀ L h' ((x, instObj 169 dx) :: (dx, fieldsOf w mp q lk cap t0 t1 t2 t3 t4) :: (mp, o) :: (q, listOf ([] : List Value).toArray n) :: (lk, instObj 45 dlk) :: (dlk, dictOf [] 0) :: rest) → o.IsDictOf (intKind PySem.Challenge.rw_bw0012_01.row.prog w) [] → FlatPairs PyData.int [] [] → (mp == sysModules) = false → dx < x → x < mp → mp < q → q < dlk → dlk < lk → (∀ p ∈ rest, @LT.lt Nat _ p.1 dx) → Q (.ref x) { s with heap := h', toks := tk' }) :
    wpAny (model PySem.Challenge.rw_bw0012_01.row.prog w) A (call (.ref 169) [.int cap t0]) Q E s := by
  obtain ⟨ahd, adp, afr, agd, aun⟩ := A
  dsimp only at hA hdp hun
  subst hA
  obtain ⟨esc, eloc, egl, ecl, equ, efn, eco, efr, ebu⟩ := env
  dsimp only at he hk
  subst he
  obtain ⟨skd, snm, sgn, sco, smo⟩ := esc
  dsimp only at hk
  subst hk
  revert X
  k_fill
  intro X
  k_steps
  (rename News h₀ _ _ _ => kN)
  exact h _ _ _ _ _ _ _ _ _ _ _ _ _ _ (by assumption) (news_perm6 kN) (by assumption) (by assumption) (by assumption) (by omega) (by omega) (by omega) (by omega) (by omega) (by assumption)

end Mine

end

section
open PySem PySem.W PyProof.Rows PySem.Spec PyProof.V
set_option Elab.async false
set_option maxRecDepth 100000
set_option maxHeartbeats 8000000
namespace Mine

local macro_rules | `(tactic| k_room) => `(tactic| ((try simp only [depth_under_make, depth_under_kw, depth_in1, depth_deeper, depth_caller]); (simp only [recursionLimit] at *); omega))
local macro_rules | `(tactic| k_all) => `(tactic| assumption)
local macro_rules | `(tactic| walk_at "call builtin:list.remove") => `(tactic| (k_here; (show wpAny _ _ (call (Value.builtin _) [Value.ref _, Value.int _ _]) _ _ _); k_dflt (refine' rem_S ?F ?N ?U ?i ?e ?z ?_; (case F => k_asm); (case N => k_asm); (case U => k_updF); (case i => assumption); (case e => assumption); (case z => first | assumption | omega | (simp only [List.length_append, List.length_cons, List.length_nil]; omega)); k_whole); intro h' vs' n' hi' hl' F' N'; (try dsimp only at N'); (try k_sweep)))
local macro_rules | `(tactic| walk_at "call builtin:list.pop") => `(tactic| (k_here; (show wpAny _ _ (call (Value.builtin _) [Value.ref _, Value.int 0 _]) _ _ _); k_dflt (refine' pop0_S ?F ?N ?U ?i ?e ?z ?_; (case F => k_asm); (case N => k_asm); (case U => k_updF); (case i => assumption); (case e => assumption); (case z => first | assumption | omega | (simp only [List.length_append, List.length_cons, List.length_nil]; omega)); k_whole); intro h' vs' n' ta' hi' F' N'; (try dsimp only at N'); (try k_sweep)))
local macro_rules | `(tactic| walk_at "call builtin:list.append") => `(tactic| (k_here; (show wpAny _ _ (call (Value.builtin _) [Value.ref _, Value.int _ _]) _ _ _); k_dflt (refine' app_S ?F ?N ?U ?i ?z ?_; (case F => k_asm); (case N => k_asm); (case U => k_updF); (case i => assumption); (case z => first | assumption | omega | (simp only [List.length_append, List.length_cons, List.length_nil]; omega)); k_whole); intro h' vs' n' hi' F' N'; (try dsimp only at N'); (try k_sweep)))
local macro_rules | `(tactic| walk_at "setItem ref int") => `(tactic| (k_here; k_dflt (refine' setItem_K PyProof.V.same_int (intKind_is _ _ _ _) ?v ?F ?N ?U ?d ?f ?_ ?z; (case F => k_asm); (case N => k_asm); (case U => k_updF); (case d => k_asm); (case f => k_asm); (case z => (rw [PySem.sizeLine_eq]; omega)); (case v => exact PyProof.V.Flat.int _ _)); intro h' o' F' N' hd' hf'; (try dsimp only at N'); (try k_sweep)))
local macro_rules | `(tactic| walk_at "delItem ref int") => `(tactic| (k_here; k_dflt (refine' del_S ?F ?N ?U ?d ?f ?l ?z ?_; (case F => k_asm); (case N => k_asm); (case U => k_updF); (case d => k_asm); (case f => k_asm); (case l => assumption); (case z => omega)); intro h' o' F' N' hd' hf'; (try dsimp only at N'); (try k_sweep)))

local macro_rules | `(tactic| walk_at "subscriptTail") => `(tactic| (k_here; (with_reducible show wpAny _ _ (subscriptTail _ _ (Value.ref _) (Value.int (-1) _)) _ _ _); k_dflt (refine' last_S ?N ?m ?i ?x ?_; (case N => k_asm); (case m => k_mem); (case i => assumption); (case x => assumption); k_whole); intro t'))

theorem getitem_same {w : World} {mean : ExcName → Option Value} {mg mb : Str → Option Value} {A₀ A : Around} {base h₀ : Heap} {outer : List Env} {env : Env} {L : Addr} {m : Str → Option Value} {s : Shared} {rest : List (Addr × Obj)} {Q E : Value → Shared → Prop}
    {x dx mp q lk dlk : Nat} {cap : Int} {t0 t1 t2 t3 t4 : Tok} {o : Obj} {kvs : List (Int × Value)} {D : List (PyData × PyData)} {vs : List Value} {qs : List Int} {n : Nat}
    (B : Below A₀ base outer h₀) (F : Fr h₀ L s.heap m) (X : (hd.heap_39 w.params).In h₀) (T : Top hd.view_39 (looseW hd.view_39 []) mean mg mb h₀)
    (N : News h₀ L s.heap ((x, instObj 169 dx) :: (dx, fieldsOf w mp q lk cap t0 t1 t2 t3 t4) :: (mp, o) :: (q, listOf vs.toArray n) :: (lk, instObj 45 dlk) :: (dlk, dictOf [] 0) :: rest))
    (hd : o.IsDictOf (intKind PySem.Challenge.rw_bw0012_01.row.prog w) kvs) (hf : FlatPairs PyData.int kvs D) (lo : (mp == sysModules) = false) (hi : IntsAre vs qs)
    (a1 : dx < x) (a2 : x < mp) (a3 : mp < q) (a4 : q < dlk) (a5 : dlk < lk) (r1 : ∀ p ∈ rest, p.1 ≠ mp) (r2 : ∀ p ∈ rest, p.1 ≠ q)
    (hA : A.frames = some (env :: outer)) (he : env.frame = some L) (hk : env.scope.kind = .function) (hdp : A.depth + 20 < recursionLimit) (hun : A.units + 100 < cLine)
    {k v : Int} {t : Tok} (hlk : Spec.lookup (.int k) D = some (.int v)) (hz : qs.getLast? = some k) (hlen : qs.length ≤ 900) (hDl : D.length ≤ 900)
    (h : ∀ h' tk' tv, Fr h₀ L h' m → News h₀ L h' ((x, instObj 169 dx) :: (dx, fieldsOf w mp q lk cap t0 t1 t2 t3 t4) :: (mp, o) :: (q, listOf vs.toArray n) :: (lk, instObj 45 dlk) :: (dlk, dictOf [] 0) :: rest) → Q (.int v tv) { s with heap := h', toks := tk' }) :
    wpAny (model PySem.Challenge.rw_bw0012_01.row.prog w) A (call (.ref 121) [.ref x, .int k t]) Q E s := by
  obtain ⟨ahd, adp, afr, agd, aun⟩ := A
  dsimp only at hA hdp hun
  subst hA
  revert X
  k_fill
  intro X
  refine wpAny_call ?_
  k_dflt (refine' code_def ?k1 ?k2 ?k3 ?k4 ?k5 ?kA ?kF ?kK ?k6 ?k7 ?k8 ?k9 ?kB ?_ ?c2 ?c3 ?c4 ?c5; (case kA => exact rfl); (case kF => exact he); (case kK => exact hk); (case k1 => k_asm); (case k2 => k_asm); (case k3 => k_asm); (case k4 => k_asm); (case k5 => k_asm); (case k6 => k_is); (case k7 => k_is); (case k8 => k_room); (case k9 => exact BindsTo.of_eq rfl); (case c5 => decide); (case kB => exact locs rfl); (case c2 => exact rfl); (case c3 => exact rfl); (case c4 => exact rfl); k_whole; intro g' L' h' FG' F' N' B' X' T'; (try dsimp only); (try k_fold))
  k_steps
  all_goals first
    | exact h _ _ _ (by assumption) (by assumption)
    | (exfalso; omega)

theorem getitem_move {w : World} {mean : ExcName → Option Value} {mg mb : Str → Option Value} {A₀ A : Around} {base h₀ : Heap} {outer : List Env} {env : Env} {L : Addr} {m : Str → Option Value} {s : Shared} {rest : List (Addr × Obj)} {Q E : Value → Shared → Prop}
    {x dx mp q lk dlk : Nat} {cap : Int} {t0 t1 t2 t3 t4 : Tok} {o : Obj} {kvs : List (Int × Value)} {D : List (PyData × PyData)} {vs : List Value} {qs : List Int} {n : Nat}
    (B : Below A₀ base outer h₀) (F : Fr h₀ L s.heap m) (X : (hd.heap_39 w.params).In h₀) (T : Top hd.view_39 (looseW hd.view_39 []) mean mg mb h₀)
    (N : News h₀ L s.heap ((x, instObj 169 dx) :: (dx, fieldsOf w mp q lk cap t0 t1 t2 t3 t4) :: (mp, o) :: (q, listOf vs.toArray n) :: (lk, instObj 45 dlk) :: (dlk, dictOf [] 0) :: rest))
    (hd : o.IsDictOf (intKind PySem.Challenge.rw_bw0012_01.row.prog w) kvs) (hf : FlatPairs PyData.int kvs D) (lo : (mp == sysModules) = false) (hi : IntsAre vs qs)
    (a1 : dx < x) (a2 : x < mp) (a3 : mp < q) (a4 : q < dlk) (a5 : dlk < lk) (r1 : ∀ p ∈ rest, p.1 ≠ mp) (r2 : ∀ p ∈ rest, p.1 ≠ q)
    (hA : A.frames = some (env :: outer)) (he : env.frame = some L) (hk : env.scope.kind = .function) (hdp : A.depth + 20 < recursionLimit) (hun : A.units + 100 < cLine)
    {k v z : Int} {t : Tok} (hlk : Spec.lookup (.int k) D = some (.int v)) (hkq : k ∈ qs) (hz : qs.getLast? = some z) (hne : ¬ z = k) (hlen : qs.length ≤ 900) (hDl : D.length ≤ 900)
    (h : ∀ h' tk' tv vs' n', Fr h₀ L h' m → News h₀ L h' ((x, instObj 169 dx) :: (dx, fieldsOf w mp q lk cap t0 t1 t2 t3 t4) :: (mp, o) :: (q, listOf vs'.toArray n') :: (lk, instObj 45 dlk) :: (dlk, dictOf [] 0) :: rest) → IntsAre vs' (qs.erase k ++ [k]) → Q (.int v tv) { s with heap := h', toks := tk' }) :
    wpAny (model PySem.Challenge.rw_bw0012_01.row.prog w) A (call (.ref 121) [.ref x, .int k t]) Q E s := by
  obtain ⟨ahd, adp, afr, agd, aun⟩ := A
  dsimp only at hA hdp hun
  subst hA
  revert X
  k_fill
  intro X
  refine wpAny_call ?_
  k_dflt (refine' code_def ?k1 ?k2 ?k3 ?k4 ?k5 ?kA ?kF ?kK ?k6 ?k7 ?k8 ?k9 ?kB ?_ ?c2 ?c3 ?c4 ?c5; (case kA => exact rfl); (case kF => exact he); (case kK => exact hk); (case k1 => k_asm); (case k2 => k_asm); (case k3 => k_asm); (case k4 => k_asm); (case k5 => k_asm); (case k6 => k_is); (case k7 => k_is); (case k8 => k_room); (case k9 => exact BindsTo.of_eq rfl); (case c5 => decide); (case kB => exact locs rfl); (case c2 => exact rfl); (case c3 => exact rfl); (case c4 => exact rfl); k_whole; intro g' L' h' FG' F' N' B' X' T'; (try dsimp only); (try k_fold))
  k_steps
  all_goals first
    | exact h _ _ _ _ _ (by assumption) (by assumption) (by assumption)
    | (exfalso; omega)

end Mine

end

section
open PySem PySem.W PyProof.Rows PySem.Spec PyProof.V
set_option Elab.async false
set_option maxRecDepth 100000
set_option maxHeartbeats 8000000
namespace Mine

local macro_rules | `(tactic| k_room) => `(tactic| ((try simp only [depth_under_make, depth_under_kw, depth_in1, depth_deeper, depth_caller]); (simp only [recursionLimit] at *); omega))
local macro_rules | `(tactic| k_all) => `(tactic| assumption)
local macro_rules | `(tactic| walk_at "call builtin:list.remove") => `(tactic| (k_here; (show wpAny _ _ (call (Value.builtin _) [Value.ref _, Value.int _ _]) _ _ _); k_dflt (refine' rem_S ?F ?N ?U ?i ?e ?z ?_; (case F => k_asm); (case N => k_asm); (case U => k_updF); (case i => assumption); (case e => assumption); (case z => first | assumption | omega | (simp only [List.length_append, List.length_cons, List.length_nil]; omega)); k_whole); intro h' vs' n' hi' hl' F' N'; (try dsimp only at N'); (try k_sweep)))
local macro_rules | `(tactic| walk_at "call builtin:list.pop") => `(tactic| (k_here; (show wpAny _ _ (call (Value.builtin _) [Value.ref _, Value.int 0 _]) _ _ _); k_dflt (refine' pop0_S ?F ?N ?U ?i ?e ?z ?_; (case F => k_asm); (case N => k_asm); (case U => k_updF); (case i => assumption); (case e => assumption); (case z => first | assumption | omega | (simp only [List.length_append, List.length_cons, List.length_nil]; omega)); k_whole); intro h' vs' n' ta' hi' F' N'; (try dsimp only at N'); (try k_sweep)))
local macro_rules | `(tactic| walk_at "call builtin:list.append") => `(tactic| (k_here; (show wpAny _ _ (call (Value.builtin _) [Value.ref _, Value.int _ _]) _ _ _); k_dflt (refine' app_S ?F ?N ?U ?i ?z ?_; (case F => k_asm); (case N => k_asm); (case U => k_updF); (case i => assumption); (case z => first | assumption | omega | (simp only [List.length_append, List.length_cons, List.length_nil]; omega)); k_whole); intro h' vs' n' hi' F' N'; (try dsimp only at N'); (try k_sweep)))
local macro_rules | `(tactic| walk_at "setItem ref int") => `(tactic| (k_here; k_dflt (refine' setItem_K PyProof.V.same_int (intKind_is _ _ _ _) ?v ?F ?N ?U ?d ?f ?_ ?z; (case F => k_asm); (case N => k_asm); (case U => k_updF); (case d => k_asm); (case f => k_asm); (case z => (rw [PySem.sizeLine_eq]; omega)); (case v => exact PyProof.V.Flat.int _ _)); intro h' o' F' N' hd' hf'; (try dsimp only at N'); (try k_sweep)))
local macro_rules | `(tactic| walk_at "delItem ref int") => `(tactic| (k_here; k_dflt (refine' del_S ?F ?N ?U ?d ?f ?l ?z ?_; (case F => k_asm); (case N => k_asm); (case U => k_updF); (case d => k_asm); (case f => k_asm); (case l => assumption); (case z => omega)); intro h' o' F' N' hd' hf'; (try dsimp only at N'); (try k_sweep)))

local macro_rules | `(tactic| walk_at "KwIn") => `(tactic| (k_here; k_dflt ((with_reducible show KwIn _ _ _ _ _ _ none _ _ _ _ _); refine' kw_inE ?F ?X ?I ?hE ?hEf ?hX ?hXf ?_; (case F => k_asm); (case X => k_asm); (case I => k_inst); (case hE => k_is); (case hEf => k_is); (case hX => k_is); (case hXf => k_is); k_whole)))
local macro_rules | `(tactic| walk_at "subscriptTail") => `(tactic| (k_here; (with_reducible show wpAny _ _ (subscriptTail _ _ (Value.ref _) (Value.int _ _)) _ _ _); (with_unfolding_all refine' item_intTab_missing ?k1 ?k2 ?k3 ?_; (case k1 => k_tabat); (case k2 => rfl); (case k3 => assumption); k_whole); intro h' e' x'))
local macro_rules | `(tactic| walk_at "getItem ref int") => `(tactic| (k_here; (with_unfolding_all refine' getItem_tab_missing PyProof.V.same_int (intKind_is _ _ _ _) ?k1 ?k2 ?k3 ?_; (case k1 => k_tabat); (case k2 => rfl); (case k3 => assumption); k_whole); intro h' e' x'))

theorem getitem_miss {w : World} {mean : ExcName → Option Value} {mg mb : Str → Option Value} {A₀ A : Around} {base h₀ : Heap} {outer : List Env} {env : Env} {L : Addr} {m : Str → Option Value} {s : Shared} {rest : List (Addr × Obj)} {Q E : Value → Shared → Prop}
    {x dx mp q lk dlk : Nat} {cap : Int} {t0 t1 t2 t3 t4 : Tok} {o : Obj} {kvs : List (Int × Value)} {D : List (PyData × PyData)} {vs : List Value} {qs : List Int} {n : Nat}
    (B : Below A₀ base outer h₀) (F : Fr h₀ L s.heap m) (X : (hd.heap_39 w.params).In h₀) (T : Top hd.view_39 (looseW hd.view_39 []) mean mg mb h₀)
    (N : News h₀ L s.heap ((x, instObj 169 dx) :: (dx, fieldsOf w mp q lk cap t0 t1 t2 t3 t4) :: (mp, o) :: (q, listOf vs.toArray n) :: (lk, instObj 45 dlk) :: (dlk, dictOf [] 0) :: rest))
    (hd : o.IsDictOf (intKind PySem.Challenge.rw_bw0012_01.row.prog w) kvs) (hf : FlatPairs PyData.int kvs D) (lo : (mp == sysModules) = false) (hi : IntsAre vs qs)
    (a1 : dx < x) (a2 : x < mp) (a3 : mp < q) (a4 : q < dlk) (a5 : dlk < lk) (r1 : ∀ p ∈ rest, p.1 ≠ mp) (r2 : ∀ p ∈ rest, p.1 ≠ q)
    (hA : A.frames = some (env :: outer)) (he : env.frame = some L) (hk : env.scope.kind = .function) (hdp : A.depth + 20 < recursionLimit) (hun : A.units + 100 < cLine)
    {k : Int} {t : Tok} (hh : A.handled = none) (XB : (Mine.hd.heap_39 w.params).In base) (TB : Top Mine.hd.view_39 (looseW Mine.hd.view_39 []) mean mg mb base) (hlk : Spec.lookup (.int k) D = none)
    (h : ∀ h' e tk' G, RaisedSN base G (env :: outer) e (.type "KeyError") ((x, instObj 169 dx) :: (dx, fieldsOf w mp q lk cap t0 t1 t2 t3 t4) :: (mp, o) :: (q, listOf vs.toArray n) :: (lk, instObj 45 dlk) :: (dlk, dictOf [] 0) :: rest) h' → Fr h₀ L G m → G.UpToSlots h' → E (.ref e) { s with heap := h', toks := tk' }) :
    wpAny (model PySem.Challenge.rw_bw0012_01.row.prog w) A (call (.ref 121) [.ref x, .int k t]) Q E s := by
  obtain ⟨ahd, adp, afr, agd, aun⟩ := A
  dsimp only at hA hdp hun hh
  subst hh
  subst hA
  revert X
  k_fill
  intro X
  refine wpAny_call ?_
  k_dflt (refine' code_def ?k1 ?k2 ?k3 ?k4 ?k5 ?kA ?kF ?kK ?k6 ?k7 ?k8 ?k9 ?kB ?_ ?c2 ?c3 ?c4 ?c5; (case kA => exact rfl); (case kF => exact he); (case kK => exact hk); (case k1 => k_asm); (case k2 => k_asm); (case k3 => k_asm); (case k4 => k_asm); (case k5 => k_asm); (case k6 => k_is); (case k7 => k_is); (case k8 => k_room); (case k9 => exact BindsTo.of_eq rfl); (case c5 => decide); (case kB => exact locs rfl); (case c2 => exact rfl); (case c3 => exact rfl); (case c4 => exact rfl); k_whole; intro g' L' h' FG' F' N' B' X' T'; (try dsimp only); (try k_fold))
  k_steps
  (rename Heap.NewExc _ _ _ _ => hx9)
  refine errTail_new B' hx9 (by assumption) (by assumption) XB (Top.nolimit TB) (by k_room) (fun h9 tk9 R9 F9 U9 => ?_)
  k_unfold
  dsimp only
  refine leave_heldSN R9 F9 U9 (fun h10 S10 _ U10 => ?_)
  exact h _ _ _ _ S10 FG' U10

end Mine

end

section
set_option autoImplicit false
namespace Mine
/-- one asking (or laying) of a key: the queue, oldest first -/
def lruStep (cap : Nat) (q : List Int) (k : Int) : List Int :=
  if k ∈ q then q.erase k ++ [k] else (if q.length = cap then q.tail else q) ++ [k]
theorem lruStep_in {cap : Nat} {q : List Int} {k : Int} (h : k ∈ q) : lruStep cap q k = q.erase k ++ [k] := if_pos h
theorem lruStep_new {cap : Nat} {q : List Int} {k : Int} (h : k ∉ q) (hl : q.length ≠ cap) : lruStep cap q k = q ++ [k] := by
  rw [lruStep, if_neg h, if_neg hl]
theorem lruStep_full {cap : Nat} {q : List Int} {k : Int} (h : k ∉ q) (hl : q.length = cap) : lruStep cap q k = q.tail ++ [k] := by
  rw [lruStep, if_neg h, if_pos hl]
theorem nodup_snoc {q : List Int} {k : Int} (hn : q.Nodup) (hk : k ∉ q) : (q ++ [k]).Nodup := by
  rw [List.nodup_append]
  refine ⟨hn, by simp, fun a ha b hb => ?_⟩
  rw [List.mem_singleton] at hb
  subst hb
  intro e
  exact hk (e ▸ ha)
theorem lruStep_nodup {cap : Nat} {q : List Int} {k : Int} (hn : q.Nodup) : (lruStep cap q k).Nodup := by
  unfold lruStep
  split
  · exact nodup_snoc (hn.erase k) (fun h => by rw [hn.mem_erase_iff] at h; exact h.1 rfl)
  · rename_i hk
    split
    · exact nodup_snoc (List.Sublist.nodup (List.tail_sublist q) hn) (fun h => hk (List.mem_of_mem_tail h))
    · exact nodup_snoc hn hk
theorem lruStep_length {cap : Nat} {q : List Int} {k : Int} (hl : q.length ≤ cap) (hc : 1 ≤ cap) : (lruStep cap q k).length ≤ cap := by
  unfold lruStep
  split
  · rename_i hk
    have := List.length_erase_of_mem hk
    have := List.length_pos_of_mem hk
    simp only [List.length_append, List.length_cons, List.length_nil]; omega
  · split
    · simp only [List.length_append, List.length_cons, List.length_nil, List.length_tail]; omega
    · simp only [List.length_append, List.length_cons, List.length_nil]; omega
theorem mem_lruStep {cap : Nat} {q : List Int} {k : Int} : k ∈ lruStep cap q k := by
  unfold lruStep
  split <;> simp
theorem lruStep_last {cap : Nat} {q : List Int} {k : Int} : ∃ r, lruStep cap q k = r ++ [k] := by
  unfold lruStep
  split
  · exact ⟨_, rfl⟩
  · exact ⟨_, rfl⟩
theorem lruStep_same {cap : Nat} {q : List Int} {k : Int} (hn : q.Nodup) (hz : q.getLast? = some k) : lruStep cap q k = q := by
  have hk : k ∈ q := List.mem_of_getLast? hz
  rw [lruStep_in hk]
  obtain ⟨r, rfl⟩ := List.getLast?_eq_some_iff.mp hz
  have hr : k ∉ r := by
    rw [List.nodup_append] at hn
    intro h
    exact hn.2.2 k h k (by simp) rfl
  rw [List.erase_append_right _ hr]
  simp
/-- the queue behind a row of askings, and how often a key was laid -/
def lruRun (cap : Nat) : List Int → List Int → List Int
  | q, [] => q
  | q, k :: r => lruRun cap (lruStep cap q k) r
def lruMiss (cap : Nat) : List Int → List Int → Nat
  | _, [] => 0
  | q, k :: r => (if k ∈ q then 0 else 1) + lruMiss cap (lruStep cap q k) r
theorem lruRun_snoc {cap : Nat} {k : Int} : ∀ {l q : List Int}, lruRun cap q (l ++ [k]) = lruStep cap (lruRun cap q l) k
  | [], _ => rfl
  | _ :: l, _ => lruRun_snoc (l := l)
theorem lruMiss_snoc {cap : Nat} {k : Int} : ∀ {l q : List Int}, lruMiss cap q (l ++ [k]) = lruMiss cap q l + (if k ∈ lruRun cap q l then 0 else 1)
  | [], q => (Nat.add_zero _).trans (Nat.zero_add _).symm
  | a :: l, q => by
    rw [List.cons_append, lruMiss, lruMiss, lruRun, lruMiss_snoc (l := l)]
    omega
end Mine

end

section
open PySem PySem.W PyProof.Rows PySem.Spec PyProof.V
set_option Elab.async false
set_option maxRecDepth 100000
set_option maxHeartbeats 8000000
namespace Mine

/-- the addresses of one cache's objects, its places, the tokens of its fields -/
structure Cch where
  x : Nat
  dx : Nat
  mp : Nat
  q : Nat
  lk : Nat
  dlk : Nat
  cap : Nat
  t0 : Tok
  t1 : Tok
  t2 : Tok
  t3 : Tok
  t4 : Tok
abbrev Cch.led (w : World) (c : Cch) (o : Obj) (vs : List Value) (n : Nat) (rest : List (Addr × Obj)) : List (Addr × Obj) :=
  (c.x, instObj 169 c.dx) :: (c.dx, fieldsOf w c.mp c.q c.lk c.cap c.t0 c.t1 c.t2 c.t3 c.t4) :: (c.mp, o) :: (c.q, listOf vs.toArray n) :: (c.lk, instObj 45 c.dlk) :: (c.dlk, dictOf [] 0) :: rest
structure Cch.Ok (c : Cch) (rest : List (Addr × Obj)) : Prop where
  lo : (c.mp == sysModules) = false
  a1 : c.dx < c.x
  a2 : c.x < c.mp
  a3 : c.mp < c.q
  a4 : c.q < c.dlk
  a5 : c.dlk < c.lk
  r1 : ∀ p ∈ rest, p.1 ≠ c.mp
  r2 : ∀ p ∈ rest, p.1 ≠ c.q
/-- the cache as it lies in the heap: its queue qs, oldest first, each key k with val k -/
structure CAt (w : World) (h₀ : Heap) (L : Addr) (h : Heap) (c : Cch) (val : Int → Int) (qs : List Int) (rest : List (Addr × Obj)) : Prop where
  ex : ∃ o kvs D vs n, News h₀ L h (c.led w o vs n rest) ∧ o.IsDictOf (intKind PySem.Challenge.rw_bw0012_01.row.prog w) kvs ∧ FlatPairs PyData.int kvs D ∧ IntsAre vs qs ∧ MapIs val D qs
  nd : qs.Nodup
  len : qs.length ≤ c.cap
  cap1 : 1 ≤ c.cap
  cap2 : c.cap ≤ 100
  ok : c.Ok rest

theorem contains_C {w : World} {mean : ExcName → Option Value} {mg mb : Str → Option Value} {A₀ A : Around} {base h₀ : Heap} {outer : List Env} {env : Env} {L : Addr} {m : Str → Option Value} {s : Shared} {rest : List (Addr × Obj)} {Q E : Value → Shared → Prop}
    {c : Cch} {val : Int → Int} {qs : List Int}
    (B : Below A₀ base outer h₀) (F : Fr h₀ L s.heap m) (X : (hd.heap_39 w.params).In h₀) (T : Top hd.view_39 (looseW hd.view_39 []) mean mg mb h₀)
    (C : CAt w h₀ L s.heap c val qs rest)
    (hA : A.frames = some (env :: outer)) (he : env.frame = some L) (hk : env.scope.kind = .function) (hdp : A.depth + 20 < recursionLimit) (hun : A.units + 100 < cLine)
    {k : Int} {t : Tok}
    (h : ∀ h' tk', Fr h₀ L h' m → CAt w h₀ L h' c val qs rest → Q (.bool (decide (k ∈ qs))) { s with heap := h', toks := tk' }) :
    wpAny (model PySem.Challenge.rw_bw0012_01.row.prog w) A (call (.ref 100) [.ref c.x, .int k t]) Q E s := by
  obtain ⟨⟨o, kvs, D, vs, n, N, hd, hf, hi, hM⟩, nd, len, cap1, cap2, ⟨lo, a1, a2, a3, a4, a5, r1, r2⟩⟩ := C
  have hDl := hM.length
  refine contains_raw B F X T N hd hf lo hi a1 a2 a3 a4 a5 r1 r2 hA he hk hdp hun fun h' tk' F' N' => ?_
  rw [hM.isSome]
  exact h h' tk' F' ⟨⟨o, kvs, D, vs, n, N', hd, hf, hi, hM⟩, nd, len, cap1, cap2, ⟨lo, a1, a2, a3, a4, a5, r1, r2⟩⟩

theorem setitem_C {w : World} {mean : ExcName → Option Value} {mg mb : Str → Option Value} {A₀ A : Around} {base h₀ : Heap} {outer : List Env} {env : Env} {L : Addr} {m : Str → Option Value} {s : Shared} {rest : List (Addr × Obj)} {Q E : Value → Shared → Prop}
    {c : Cch} {val : Int → Int} {qs : List Int}
    (B : Below A₀ base outer h₀) (F : Fr h₀ L s.heap m) (X : (hd.heap_39 w.params).In h₀) (T : Top hd.view_39 (looseW hd.view_39 []) mean mg mb h₀)
    (C : CAt w h₀ L s.heap c val qs rest)
    (hA : A.frames = some (env :: outer)) (he : env.frame = some L) (hk : env.scope.kind = .function) (hdp : A.depth + 20 < recursionLimit) (hun : A.units + 100 < cLine)
    {k : Int} {t tv : Tok}
    (h : ∀ h' tk', Fr h₀ L h' m → CAt w h₀ L h' c val (lruStep c.cap qs k) rest → Q .none { s with heap := h', toks := tk' }) :
    wpAny (model PySem.Challenge.rw_bw0012_01.row.prog w) A (call (.ref 128) [.ref c.x, .int k t, .int (val k) tv]) Q E s := by
  obtain ⟨⟨o, kvs, D, vs, n, N, hd, hf, hi, hM⟩, nd, len, cap1, cap2, ⟨lo, a1, a2, a3, a4, a5, r1, r2⟩⟩ := C
  have hDl := hM.length
  have nd' : (lruStep c.cap qs k).Nodup := lruStep_nodup nd
  have len' : (lruStep c.cap qs k).length ≤ c.cap := lruStep_length len cap1
  by_cases hkq : k ∈ qs
  · rw [lruStep_in hkq] at h nd' len'
    exact setitem_hit B F X T N hd hf lo hi a1 a2 a3 a4 a5 r1 r2 hA he hk hdp hun hkq (by rw [hM.isSome]; simp [hkq]) (by omega) (by omega)
      fun h' tk' o' vs' n' F' N' hd' hf' hi' => h h' tk' F' ⟨⟨o', _, _, vs', n', N', hd', hf', hi', hM.put_in hkq⟩, nd', len', cap1, cap2, ⟨lo, a1, a2, a3, a4, a5, r1, r2⟩⟩
  · have hlk : (Spec.lookup (.int k) D).isSome = false := by rw [hM.isSome]; simp [hkq]
    by_cases hl : qs.length = c.cap
    · rw [lruStep_full hkq hl] at h nd' len'
      cases qs with
      | nil => rw [List.length_nil] at hl; omega
      | cons a r =>
        rw [List.tail_cons] at h nd' len'
        have hM' : MapIs val (delD (.int a) D) r := by
          have := hM.del nd a
          rwa [List.erase_cons_head] at this
        have hl' := hM'.length
        rw [List.length_cons] at hl len hDl
        exact setitem_full B F X T N hd hf lo hi a1 a2 a3 a4 a5 r1 r2 hA he hk hdp hun hlk (by rw [List.length_cons]; omega) (by omega) (by omega) (by omega) (by rw [hDl]; exact_mod_cast hl) rfl (by rw [hM.isSome]; simp)
          fun h' tk' o' vs' n' F' N' hd' hf' hi' => h h' tk' F' ⟨⟨o', _, _, vs', n', N', hd', hf', hi', hM'.put_out (fun z => hkq (.tail _ z))⟩, nd', len', cap1, cap2, ⟨lo, a1, a2, a3, a4, a5, r1, r2⟩⟩
    · rw [lruStep_new hkq hl] at h nd' len'
      exact setitem_new B F X T N hd hf lo hi a1 a2 a3 a4 a5 r1 r2 hA he hk hdp hun hlk (by omega) (by omega) (by rw [hDl]; exact_mod_cast hl)
        fun h' tk' o' vs' n' F' N' hd' hf' hi' => h h' tk' F' ⟨⟨o', _, _, vs', n', N', hd', hf', hi', hM.put_out hkq⟩, nd', len', cap1, cap2, ⟨lo, a1, a2, a3, a4, a5, r1, r2⟩⟩

theorem delitem_C {w : World} {mean : ExcName → Option Value} {mg mb : Str → Option Value} {A₀ A : Around} {base h₀ : Heap} {outer : List Env} {env : Env} {L : Addr} {m : Str → Option Value} {s : Shared} {rest : List (Addr × Obj)} {Q E : Value → Shared → Prop}
    {c : Cch} {val : Int → Int} {qs : List Int}
    (B : Below A₀ base outer h₀) (F : Fr h₀ L s.heap m) (X : (hd.heap_39 w.params).In h₀) (T : Top hd.view_39 (looseW hd.view_39 []) mean mg mb h₀)
    (C : CAt w h₀ L s.heap c val qs rest)
    (hA : A.frames = some (env :: outer)) (he : env.frame = some L) (hk : env.scope.kind = .function) (hdp : A.depth + 20 < recursionLimit) (hun : A.units + 100 < cLine)
    {k : Int} {t : Tok} (hkq : k ∈ qs)
    (h : ∀ h' tk', Fr h₀ L h' m → CAt w h₀ L h' c val (qs.erase k) rest → Q .none { s with heap := h', toks := tk' }) :
    wpAny (model PySem.Challenge.rw_bw0012_01.row.prog w) A (call (.ref 135) [.ref c.x, .int k t]) Q E s := by
  obtain ⟨⟨o, kvs, D, vs, n, N, hd, hf, hi, hM⟩, nd, len, cap1, cap2, ⟨lo, a1, a2, a3, a4, a5, r1, r2⟩⟩ := C
  have hDl := hM.length
  exact delitem_raw B F X T N hd hf lo hi a1 a2 a3 a4 a5 r1 r2 hA he hk hdp hun hkq (by rw [hM.isSome]; simp [hkq]) (by omega) (by omega)
    fun h' tk' o' vs' n' F' N' hd' hf' hi' => h h' tk' F' ⟨⟨o', _, _, vs', n', N', hd', hf', hi', hM.del nd k⟩, nd.erase k, Nat.le_trans (List.length_erase_le) len, cap1, cap2, ⟨lo, a1, a2, a3, a4, a5, r1, r2⟩⟩

theorem items_C {w : World} {mean : ExcName → Option Value} {mg mb : Str → Option Value} {A₀ A : Around} {base h₀ : Heap} {outer : List Env} {env : Env} {L : Addr} {m : Str → Option Value} {s : Shared} {rest : List (Addr × Obj)} {Q E : Value → Shared → Prop}
    {c : Cch} {val : Int → Int} {qs : List Int}
    (B : Below A₀ base outer h₀) (F : Fr h₀ L s.heap m) (X : (hd.heap_39 w.params).In h₀) (T : Top hd.view_39 (looseW hd.view_39 []) mean mg mb h₀)
    (C : CAt w h₀ L s.heap c val qs rest)
    (hA : A.frames = some (env :: outer)) (he : env.frame = some L) (hk : env.scope.kind = .function) (hdp : A.depth + 20 < recursionLimit) (hun : A.units + 100 < cLine)
    (hh : A.handled = none)
    (h : ∀ h' tk' l tl, Fr h₀ L h' m → CAt w h₀ L h' c val qs rest → News h₀ L h' tl → DatIn tl (.ref l) (.list ((qs.map fun k => .tuple [.int k, .int (val k)]).reverse)) → (∀ p ∈ tl, ∀ r ∈ rest, r.1 ≠ p.1) → (∀ p ∈ tl, c.x ≠ p.1 ∧ c.dx ≠ p.1 ∧ c.mp ≠ p.1 ∧ c.q ≠ p.1 ∧ c.lk ≠ p.1 ∧ c.dlk ≠ p.1) → Q (.ref l) { s with heap := h', toks := tk' }) :
    wpAny (model PySem.Challenge.rw_bw0012_01.row.prog w) A (call (.ref 140) [.ref c.x]) Q E s := by
  obtain ⟨⟨o, kvs, D, vs, n, N, hd, hf, hi, hM⟩, nd, len, cap1, cap2, ⟨lo, a1, a2, a3, a4, a5, r1, r2⟩⟩ := C
  have hDl := hM.length
  refine items_raw B F X T N hd hf lo hi a1 a2 a3 a4 a5 r1 r2 hA he hk hdp hun hh hM (by omega) fun h' tk' l tl F' N' D' off => ?_
  refine h h' tk' l tl F' ⟨⟨o, kvs, D, vs, n, fun p hp => N' p (List.mem_append_left _ hp), hd, hf, hi, hM⟩, nd, len, cap1, cap2, ⟨lo, a1, a2, a3, a4, a5, r1, r2⟩⟩ (fun p hp => N' p (List.mem_append_right _ hp)) D' (fun p hp r hr => off p hp r (by simp [hr])) fun p hp => ?_
  exact ⟨off p hp _ (.head _), off p hp _ (.tail _ (.head _)), off p hp _ (.tail _ (.tail _ (.head _))), off p hp _ (.tail _ (.tail _ (.tail _ (.head _)))), off p hp _ (.tail _ (.tail _ (.tail _ (.tail _ (.head _))))), off p hp _ (.tail _ (.tail _ (.tail _ (.tail _ (.tail _ (.head _))))))⟩

theorem getitem_C {w : World} {mean : ExcName → Option Value} {mg mb : Str → Option Value} {A₀ A : Around} {base h₀ : Heap} {outer : List Env} {env : Env} {L : Addr} {m : Str → Option Value} {s : Shared} {rest : List (Addr × Obj)} {Q E : Value → Shared → Prop}
    {c : Cch} {val : Int → Int} {qs : List Int}
    (B : Below A₀ base outer h₀) (F : Fr h₀ L s.heap m) (X : (hd.heap_39 w.params).In h₀) (T : Top hd.view_39 (looseW hd.view_39 []) mean mg mb h₀)
    (C : CAt w h₀ L s.heap c val qs rest)
    (hA : A.frames = some (env :: outer)) (he : env.frame = some L) (hk : env.scope.kind = .function) (hdp : A.depth + 20 < recursionLimit) (hun : A.units + 100 < cLine)
    {k : Int} {t : Tok} (hkq : k ∈ qs)
    (h : ∀ h' tk' tv, Fr h₀ L h' m → CAt w h₀ L h' c val (lruStep c.cap qs k) rest → Q (.int (val k) tv) { s with heap := h', toks := tk' }) :
    wpAny (model PySem.Challenge.rw_bw0012_01.row.prog w) A (call (.ref 121) [.ref c.x, .int k t]) Q E s := by
  obtain ⟨⟨o, kvs, D, vs, n, N, hd, hf, hi, hM⟩, nd, len, cap1, cap2, ⟨lo, a1, a2, a3, a4, a5, r1, r2⟩⟩ := C
  have hDl := hM.length
  obtain ⟨z, hz⟩ : ∃ z, qs.getLast? = some z := by
    cases e : qs.getLast? with
    | none => rw [List.getLast?_eq_none_iff] at e; subst e; cases hkq
    | some z => exact ⟨z, rfl⟩
  by_cases hzk : z = k
  · subst hzk
    rw [lruStep_same nd hz] at h
    exact getitem_same B F X T N hd hf lo hi a1 a2 a3 a4 a5 r1 r2 hA he hk hdp hun (hM.look hkq) hz (by omega) (by omega)
      fun h' tk' tv F' N' => h h' tk' tv F' ⟨⟨o, kvs, D, vs, n, N', hd, hf, hi, hM⟩, nd, len, cap1, cap2, ⟨lo, a1, a2, a3, a4, a5, r1, r2⟩⟩
  · have nd' : (lruStep c.cap qs k).Nodup := lruStep_nodup nd
    have len' : (lruStep c.cap qs k).length ≤ c.cap := lruStep_length len cap1
    rw [lruStep_in hkq] at h nd' len'
    have hM' : MapIs val D (qs.erase k ++ [k]) := by
      obtain ⟨ks, rfl, p⟩ := hM
      exact ⟨ks, rfl, p.trans ((List.perm_cons_erase hkq).trans (List.perm_append_comm (l₁ := [k]) (l₂ := qs.erase k)))⟩
    exact getitem_move B F X T N hd hf lo hi a1 a2 a3 a4 a5 r1 r2 hA he hk hdp hun (hM.look hkq) hkq hz hzk (by omega) (by omega)
      fun h' tk' tv vs' n' F' N' hi' => h h' tk' tv F' ⟨⟨o, kvs, D, vs', n', N', hd, hf, hi', hM'⟩, nd', len', cap1, cap2, ⟨lo, a1, a2, a3, a4, a5, r1, r2⟩⟩

theorem init_C {w : World} {mean : ExcName → Option Value} {mg mb : Str → Option Value} {A₀ A : Around} {base h₀ : Heap} {outer : List Env} {env : Env} {L : Addr} {m : Str → Option Value} {s : Shared} {rest : List (Addr × Obj)} {Q E : Value → Shared → Prop}
    {cap : Nat} {t0 : Tok}
    (B : Below A₀ base outer h₀) (F : Fr h₀ L s.heap m) (X : (hd.heap_39 w.params).In h₀) (T : Top hd.view_39 (looseW hd.view_39 []) mean mg mb h₀)
    (N : News h₀ L s.heap rest) (c1 : 1 ≤ cap) (c2 : cap ≤ 100)
    (hA : A.frames = some (env :: outer)) (he : env.frame = some L) (hk : env.scope.kind = .function) (hdp : A.depth + 20 < recursionLimit) (hun : A.units + 100 < cLine)
    (val : Int → Int)
    (h : ∀ h' tk' c, Fr h₀ L h' m → c.cap = cap → CAt w h₀ L h' c val [] rest → (∀ p ∈ rest, @LT.lt Nat _ p.1 c.dx) → Q (.ref c.x) { s with heap := h', toks := tk' }) :
    wpAny (model PySem.Challenge.rw_bw0012_01.row.prog w) A (call (.ref 169) [.int cap t0]) Q E s := by
  refine init_raw B F X T hA he hk hdp hun N fun h' tk' x dx mp q lk dlk t1 t2 t3 t4 o n F' N' hd hf lo a1 a2 a3 a4 a5 r => ?_
  refine h h' tk' ⟨x, dx, mp, q, lk, dlk, cap, t0, t1, t2, t3, t4⟩ F' rfl ⟨⟨o, _, _, _, n, N', hd, hf, .nil, .nil⟩, List.nodup_nil, Nat.zero_le _, c1, c2, ⟨lo, a1, a2, a3, a4, a5, fun p hp => ?_, fun p hp => ?_⟩⟩ r
  · have := r p hp; show @Ne Nat p.1 mp; omega
  · have := r p hp; show @Ne Nat p.1 q; omega

end Mine

end

section
open PySem PySem.W PyProof.Rows PySem.Spec PyProof.V
set_option Elab.async false
set_option maxRecDepth 100000
set_option maxHeartbeats 8000000
namespace Mine

section
local macro_rules | `(tactic| k_room) => `(tactic| ((try simp only [depth_under_make, depth_under_kw, depth_in1, depth_deeper, depth_caller]); (simp only [recursionLimit] at *); omega))
local macro_rules | `(tactic| k_all) => `(tactic| assumption)

local macro_rules | `(tactic| walk_at "call ref") => `(tactic| ((with_reducible show wpAny _ _ (call (Value.ref 121) _) _ _ _); refine stay ?_))

local macro_rules | `(tactic| walk_at "call ref") => `(tactic| ((with_reducible show wpAny _ _ (call (Value.ref 128) _) _ _ _); refine stay ?_))

theorem setdefault_hit {w : World} {mean : ExcName → Option Value} {mg mb : Str → Option Value} {A₀ A : Around} {base h₀ : Heap} {outer : List Env} {env : Env} {L : Addr} {m : Str → Option Value} {s : Shared} {rest : List (Addr × Obj)} {Q E : Value → Shared → Prop}
    {c : Cch} {val : Int → Int} {qs : List Int} {k : Int} {t tv : Tok}
    (B : Below A₀ base outer h₀) (F : Fr h₀ L s.heap m) (X : (hd.heap_39 w.params).In h₀) (T : Top hd.view_39 (looseW hd.view_39 []) mean mg mb h₀)
    (XB : (Mine.hd.heap_39 w.params).In base) (TB : Top Mine.hd.view_39 (looseW Mine.hd.view_39 []) mean mg mb base) (DD : KtsDicts (outer.filterMap (·.frame)) h₀)
    (hA : A.frames = some (env :: outer)) (he : env.frame = some L) (hk : env.scope.kind = .function) (hdp : A.depth + 50 < recursionLimit) (hun : A.units + 200 < cLine)
    (hh : A.handled = none) (C : CAt w h₀ L s.heap c val qs rest) (hkq : k ∈ qs)
    (h : ∀ h' tk' h₀' tv', KtsTurn (outer.filterMap (·.frame)) h₀ h₀' → Fr h₀' L h' m → CAt w h₀' L h' c val (lruStep c.cap qs k) rest → Below A₀ base outer h₀' → (Mine.hd.heap_39 w.params).In h₀' → Top Mine.hd.view_39 (looseW Mine.hd.view_39 []) mean mg mb h₀' → KtsDicts (outer.filterMap (·.frame)) h₀' → Q (.int (val k) tv') { s with heap := h', toks := tk' }) :
    wpAny (model PySem.Challenge.rw_bw0012_01.row.prog w) A (call (.ref 86) [.ref c.x, .int k t, .int (val k) tv]) Q E s := by
  obtain ⟨⟨o, kvs, D, vs, n, N, hd, hf, hi, hM⟩, nd, len, cap1, cap2, ok⟩ := C
  obtain ⟨ahd, adp, afr, agd, aun⟩ := A
  dsimp only at hA hdp hun hh
  subst hh
  subst hA
  revert X
  k_fill
  intro X
  refine wpAny_call ?_
  k_dflt (refine' callU ?k1 ?k2 ?k3 ?k4 ?k5 ?kXB ?kTB ?kD ?kA ?kF ?kK ?k6 ?k7 ?k8 ?k9 ?kB ?_ ?c2 ?c3 ?c4 ?c5; (case kA => exact rfl); (case kF => exact he); (case kK => exact hk); (case k1 => k_asm); (case k2 => k_asm); (case k3 => k_asm); (case k4 => k_asm); (case k5 => k_asm); (case kXB => exact XB); (case kTB => exact TB); (case kD => exact DD); (case k6 => k_is); (case k7 => k_is); (case k8 => k_room); (case k9 => first | exact BindsTo.of_eq rfl | exact binds_K (by k_in) rfl (by k_is) rfl rfl rfl); (case c5 => decide); (case kB => exact locs rfl); (case c2 => exact rfl); (case c3 => exact rfl); (case c4 => exact rfl); k_whole; intro g' L' h' FG' F' N' B' X' T' D'; (try dsimp only); (try k_fold))
  k_steps
  refine unstay (getitem_C B' (by assumption) X' T' ⟨⟨o, kvs, D, vs, n, by assumption, hd, hf, hi, hM⟩, nd, len, cap1, cap2, ok⟩ rfl rfl rfl (by show adp + 1 + 20 < _; omega) (by show aun + 3 + 1 + 100 < _; omega) hkq (fun h9 tk9 tv9 F9 C9 => ?_))
  obtain ⟨⟨o9, kvs9, D9, vs9, n9, N9, hd9, hf9, hi9, hM9⟩, nd9, len9, _, _, ok9⟩ := C9
  dsimp only
  k_steps
  refine ⟨g', _, _, _, KtsTurn.refl, by assumption, N9, fun h₀' T1 F1 N1 B1 X1 P1 D1 => ?_⟩
  exact h _ _ _ _ T1 F1 ⟨⟨o9, kvs9, D9, vs9, n9, N1, hd9, hf9, hi9, hM9⟩, nd9, len9, cap1, cap2, ok9⟩ B1 X1 P1 D1

theorem setdefault_miss {w : World} {mean : ExcName → Option Value} {mg mb : Str → Option Value} {A₀ A : Around} {base h₀ : Heap} {outer : List Env} {env : Env} {L : Addr} {m : Str → Option Value} {s : Shared} {rest : List (Addr × Obj)} {Q E : Value → Shared → Prop}
    {c : Cch} {val : Int → Int} {qs : List Int} {k : Int} {t tv : Tok}
    (B : Below A₀ base outer h₀) (F : Fr h₀ L s.heap m) (X : (hd.heap_39 w.params).In h₀) (T : Top hd.view_39 (looseW hd.view_39 []) mean mg mb h₀)
    (XB : (Mine.hd.heap_39 w.params).In base) (TB : Top Mine.hd.view_39 (looseW Mine.hd.view_39 []) mean mg mb base) (DD : KtsDicts (outer.filterMap (·.frame)) h₀)
    (hA : A.frames = some (env :: outer)) (he : env.frame = some L) (hk : env.scope.kind = .function) (hdp : A.depth + 50 < recursionLimit) (hun : A.units + 200 < cLine)
    (hh : A.handled = none) (C : CAt w h₀ L s.heap c val qs rest) (hkq : k ∉ qs)
    (h : ∀ h' tk' h₀' tv', KtsTurn (outer.filterMap (·.frame)) h₀ h₀' → Fr h₀' L h' m → CAt w h₀' L h' c val (lruStep c.cap qs k) rest → Below A₀ base outer h₀' → (Mine.hd.heap_39 w.params).In h₀' → Top Mine.hd.view_39 (looseW Mine.hd.view_39 []) mean mg mb h₀' → KtsDicts (outer.filterMap (·.frame)) h₀' → Q (.int (val k) tv') { s with heap := h', toks := tk' }) :
    wpAny (model PySem.Challenge.rw_bw0012_01.row.prog w) A (call (.ref 86) [.ref c.x, .int k t, .int (val k) tv]) Q E s := by
  obtain ⟨⟨o, kvs, D, vs, n, N, hd, hf, hi, hM⟩, nd, len, cap1, cap2, ok⟩ := C
  obtain ⟨ahd, adp, afr, agd, aun⟩ := A
  dsimp only at hA hdp hun hh
  subst hh
  subst hA
  revert X
  k_fill
  intro X
  refine wpAny_call ?_
  k_dflt (refine' callU ?k1 ?k2 ?k3 ?k4 ?k5 ?kXB ?kTB ?kD ?kA ?kF ?kK ?k6 ?k7 ?k8 ?k9 ?kB ?_ ?c2 ?c3 ?c4 ?c5; (case kA => exact rfl); (case kF => exact he); (case kK => exact hk); (case k1 => k_asm); (case k2 => k_asm); (case k3 => k_asm); (case k4 => k_asm); (case k5 => k_asm); (case kXB => exact XB); (case kTB => exact TB); (case kD => exact DD); (case k6 => k_is); (case k7 => k_is); (case k8 => k_room); (case k9 => first | exact BindsTo.of_eq rfl | exact binds_K (by k_in) rfl (by k_is) rfl rfl rfl); (case c5 => decide); (case kB => exact locs rfl); (case c2 => exact rfl); (case c3 => exact rfl); (case c4 => exact rfl); k_whole; intro g' L' h' FG' F' N' B' X' T' D'; (try dsimp only); (try k_fold))
  k_steps
  refine unstay (getitem_miss B' (by assumption) X' T' (by assumption) hd hf ok.lo hi ok.a1 ok.a2 ok.a3 ok.a4 ok.a5 ok.r1 ok.r2 rfl rfl rfl (by show adp + 1 + 20 < _; omega) (by show aun + 3 + 1 + 100 < _; omega) rfl XB TB (by rw [hM.lookN hkq]) (fun h9 e9 tk9 G9 R9 F9 U9 => ?_))
  k_steps
  (rename KtsTurn _ _ _ => T5); (rename Fr _ _ _ _ => F5); (rename News _ _ _ _ => N5); (rename Below _ _ _ _ => B5); (rename Frag.In _ _ => X5); (rename Top _ _ _ _ _ _ => P5)
  refine unstay (setitem_C B5 F5 X5 P5 ⟨⟨o, kvs, D, vs, n, N5, hd, hf, hi, hM⟩, nd, len, cap1, cap2, ok⟩ rfl rfl rfl (by show adp + 1 + 20 < _; omega) (by show aun + 3 + 100 < _; omega) (fun h8 tk8 F8 C8 => ?_))
  obtain ⟨⟨o8, kvs8, D8, vs8, n8, N8, hd8, hf8, hi8, hM8⟩, nd8, len8, _, _, ok8⟩ := C8
  dsimp only
  k_steps
  refine ⟨_, _, _, _, T5, by assumption, N8, fun h₀' T1 F1 N1 B1 X1 P1 D1 => ?_⟩
  exact h _ _ _ _ T1 F1 ⟨⟨o8, kvs8, D8, vs8, n8, N1, hd8, hf8, hi8, hM8⟩, nd8, len8, cap1, cap2, ok8⟩ B1 X1 P1 D1

theorem setdefault_C {w : World} {mean : ExcName → Option Value} {mg mb : Str → Option Value} {A₀ A : Around} {base h₀ : Heap} {outer : List Env} {env : Env} {L : Addr} {m : Str → Option Value} {s : Shared} {rest : List (Addr × Obj)} {Q E : Value → Shared → Prop}
    {c : Cch} {val : Int → Int} {qs : List Int} {k : Int} {t tv : Tok}
    (B : Below A₀ base outer h₀) (F : Fr h₀ L s.heap m) (X : (hd.heap_39 w.params).In h₀) (T : Top hd.view_39 (looseW hd.view_39 []) mean mg mb h₀)
    (XB : (Mine.hd.heap_39 w.params).In base) (TB : Top Mine.hd.view_39 (looseW Mine.hd.view_39 []) mean mg mb base) (DD : KtsDicts (outer.filterMap (·.frame)) h₀)
    (hA : A.frames = some (env :: outer)) (he : env.frame = some L) (hk : env.scope.kind = .function) (hdp : A.depth + 50 < recursionLimit) (hun : A.units + 200 < cLine)
    (hh : A.handled = none) (C : CAt w h₀ L s.heap c val qs rest)
    (h : ∀ h' tk' h₀' tv', KtsTurn (outer.filterMap (·.frame)) h₀ h₀' → Fr h₀' L h' m → CAt w h₀' L h' c val (lruStep c.cap qs k) rest → Below A₀ base outer h₀' → (Mine.hd.heap_39 w.params).In h₀' → Top Mine.hd.view_39 (looseW Mine.hd.view_39 []) mean mg mb h₀' → KtsDicts (outer.filterMap (·.frame)) h₀' → Q (.int (val k) tv') { s with heap := h', toks := tk' }) :
    wpAny (model PySem.Challenge.rw_bw0012_01.row.prog w) A (call (.ref 86) [.ref c.x, .int k t, .int (val k) tv]) Q E s := by
  by_cases hkq : k ∈ qs
  · exact setdefault_hit B F X T XB TB DD hA he hk hdp hun hh C hkq h
  · exact setdefault_miss B F X T XB TB DD hA he hk hdp hun hh C hkq h

end
end Mine

end

section
open PySem PySem.W PyProof.Rows PySem.Spec PyProof.V
set_option Elab.async false
set_option maxRecDepth 100000
set_option maxHeartbeats 8000000
namespace Mine

def Led (w : World) (c : Cch) (val : Int → Int) (qs : List Int) (rest news : List (Addr × Obj)) : Prop :=
  ∃ o kvs D vs n, news = c.led w o vs n rest ∧ o.IsDictOf (intKind PySem.Challenge.rw_bw0012_01.row.prog w) kvs ∧ FlatPairs PyData.int kvs D ∧ IntsAre vs qs ∧ MapIs val D qs ∧ qs.Nodup ∧ qs.length ≤ c.cap ∧ 1 ≤ c.cap ∧ c.cap ≤ 100 ∧ c.Ok rest
theorem CAt.toLed {w : World} {g h : Heap} {L : Addr} {c : Cch} {val : Int → Int} {qs : List Int} {rest : List (Addr × Obj)} (C : CAt w g L h c val qs rest) : ∃ news, Led w c val qs rest news ∧ News g L h news := by
  obtain ⟨⟨o, kvs, D, vs, n, N, hd, hf, hi, hM⟩, nd, len, cap1, cap2, ok⟩ := C
  exact ⟨_, ⟨o, kvs, D, vs, n, rfl, hd, hf, hi, hM, nd, len, cap1, cap2, ok⟩, N⟩
theorem Led.at {w : World} {g h : Heap} {L I : Addr} {oI : Obj} {c : Cch} {val : Int → Int} {qs : List Int} {rest news : List (Addr × Obj)} (C : Led w c val qs rest news) (N : News g L h ((I, oI) :: news)) (off : ∀ p ∈ news, p.1 ≠ I) : CAt w g L h c val qs ((I, oI) :: rest) := by
  obtain ⟨o, kvs, D, vs, n, rfl, hd, hf, hi, hM, nd, len, cap1, cap2, ok⟩ := C
  refine ⟨⟨o, kvs, D, vs, n, news_sub N fun p hp => ?_, hd, hf, hi, hM⟩, nd, len, cap1, cap2, ⟨ok.lo, ok.a1, ok.a2, ok.a3, ok.a4, ok.a5, fun p hp => ?_, fun p hp => ?_⟩⟩
  · simp only [Cch.led, List.mem_cons] at hp ⊢
    rcases hp with h | h | h | h | h | h | h | h <;> simp [h]
  · rcases List.mem_cons.mp hp with rfl | hp
    · exact Ne.symm (off (c.mp, o) (by simp [Cch.led]))
    · exact ok.r1 p hp
  · rcases List.mem_cons.mp hp with rfl | hp
    · exact Ne.symm (off (c.q, W.listOf vs.toArray n) (by simp [Cch.led]))
    · exact ok.r2 p hp
theorem Led.off_of {w : World} {I : Addr} {c : Cch} {val val' : Int → Int} {qs qs' : List Int} {rest news news' : List (Addr × Obj)} (C : Led w c val qs rest news) (C' : Led w c val' qs' rest news') (off : ∀ p ∈ news, p.1 ≠ I) : ∀ p ∈ news', p.1 ≠ I := by
  obtain ⟨o, _, _, vs, n, rfl, _⟩ := C
  obtain ⟨o', _, _, vs', n', rfl, _⟩ := C'
  intro p hp
  simp only [Cch.led, List.mem_cons] at hp
  rcases hp with rfl | rfl | rfl | rfl | rfl | rfl | h
  · exact off (c.x, _) (.head _)
  · exact off (c.dx, _) (.tail _ (.head _))
  · exact off (c.mp, o) (.tail _ (.tail _ (.head _)))
  · exact off (c.q, W.listOf vs.toArray n) (.tail _ (.tail _ (.tail _ (.head _))))
  · exact off (c.lk, _) (.tail _ (.tail _ (.tail _ (.tail _ (.head _)))))
  · exact off (c.dlk, _) (.tail _ (.tail _ (.tail _ (.tail _ (.tail _ (.head _))))))
  · exact off p (.tail _ (.tail _ (.tail _ (.tail _ (.tail _ (.tail _ h))))))
theorem CAt.off {w : World} {g h : Heap} {L I : Addr} {oI : Obj} {c : Cch} {val : Int → Int} {qs : List Int} {rest : List (Addr × Obj)} (C : CAt w g L h c val qs ((I, oI) :: rest)) (hr : ∀ p ∈ rest, p.1 ≠ c.mp ∧ p.1 ≠ c.q) :
    ∃ news, Led w c val qs rest news ∧ News g L h ((I, oI) :: news) := by
  obtain ⟨⟨o, kvs, D, vs, n, N, hd, hf, hi, hM⟩, nd, len, cap1, cap2, ok⟩ := C
  refine ⟨_, ⟨o, kvs, D, vs, n, rfl, hd, hf, hi, hM, nd, len, cap1, cap2, ⟨ok.lo, ok.a1, ok.a2, ok.a3, ok.a4, ok.a5, fun p hp => (hr p hp).1, fun p hp => (hr p hp).2⟩⟩, news_sub N fun p hp => ?_⟩
  simp only [Cch.led, List.mem_cons] at hp ⊢
  rcases hp with h | h | h | h | h | h | h | h <;> simp [h]
theorem Led.rest_off {w : World} {c : Cch} {val : Int → Int} {qs : List Int} {rest news : List (Addr × Obj)} (C : Led w c val qs rest news) : ∀ p ∈ rest, p.1 ≠ c.mp ∧ p.1 ≠ c.q := by
  obtain ⟨_, _, _, _, _, _, _, _, _, _, _, _, _, _, ok⟩ := C
  exact fun p hp => ⟨ok.r1 p hp, ok.r2 p hp⟩

section
local macro_rules | `(tactic| k_room) => `(tactic| ((try simp only [depth_under_make, depth_under_kw, depth_in1, depth_deeper, depth_caller]); (simp only [recursionLimit] at *); omega))
local macro_rules | `(tactic| k_all) => `(tactic| assumption)

local macro_rules | `(tactic| walk_at "call ref") => `(tactic| ((with_reducible show wpAny _ _ (call (Value.ref 169) _) _ _ _); refine stay ?_))

local macro_rules | `(tactic| walk_at "call ref") => `(tactic| ((with_reducible show wpAny _ _ (call (Value.ref 100) _) _ _ _); refine stay ?_))

local macro_rules | `(tactic| walk_at "call ref") => `(tactic| ((with_reducible show wpAny _ _ (call (Value.ref 86) _) _ _ _); refine stay ?_))

local macro_rules | `(tactic| walk_at "exec For Name Name cons nil") => `(tactic| (k_here; k_dflt (refine wpAny_For ?_ (by intro _; rfl))))
local macro_rules | `(tactic| walk_at "pyIter ref") => `(tactic| ((with_reducible show wpAny _ _ (pyIter (Value.ref _)) _ _ _); refine stay ?_))

theorem laid_C {w : World} {mean : ExcName → Option Value} {mg mb : Str → Option Value} {A₀ A : Around} {base h₀ : Heap} {outer : List Env} {env : Env} {L : Addr} {m : Str → Option Value} {s : Shared} {rest : List (Addr × Obj)} {Q E : Value → Shared → Prop}
    {cap : Nat} {rl : Addr} {vs : List Value} {ns : List Int} {n : Nat} {t : Tok}
    (B : Below A₀ base outer h₀) (F : Fr h₀ L s.heap m) (X : (hd.heap_39 w.params).In h₀) (T : Top hd.view_39 (looseW hd.view_39 []) mean mg mb h₀)
    (XB : (Mine.hd.heap_39 w.params).In base) (TB : Top Mine.hd.view_39 (looseW Mine.hd.view_39 []) mean mg mb base) (DD : KtsDicts (outer.filterMap (·.frame)) h₀)
    (hA : A.frames = some (env :: outer)) (he : env.frame = some L) (hk : env.scope.kind = .function) (hdp : A.depth + 80 < recursionLimit) (hun : A.units + 300 < cLine)
    (hh : A.handled = none) (N : News h₀ L s.heap rest) (hrl : (rl, listOf vs.toArray n) ∈ rest) (hi : IntsAre vs ns) (c1 : 1 ≤ cap) (c2 : cap ≤ 100)
    (h : ∀ h' tk' h₀' tv', KtsTurn (outer.filterMap (·.frame)) h₀ h₀' → Fr h₀' L h' m → News h₀' L h' rest → Below A₀ base outer h₀' → (Mine.hd.heap_39 w.params).In h₀' → Top Mine.hd.view_39 (looseW Mine.hd.view_39 []) mean mg mb h₀' → KtsDicts (outer.filterMap (·.frame)) h₀' → Q (.int (lruMiss cap [] ns) tv') { s with heap := h', toks := tk' }) :
    wpAny (model PySem.Challenge.rw_bw0012_01.row.prog w) A (call (.ref 185) [.ref rl, .int cap t]) Q E s := by
  obtain ⟨ahd, adp, afr, agd, aun⟩ := A
  dsimp only at hA hdp hun hh
  subst hh
  subst hA
  revert X
  k_fill
  intro X
  refine wpAny_call ?_
  k_dflt (refine' callU ?k1 ?k2 ?k3 ?k4 ?k5 ?kXB ?kTB ?kD ?kA ?kF ?kK ?k6 ?k7 ?k8 ?k9 ?kB ?_ ?c2 ?c3 ?c4 ?c5; (case kA => exact rfl); (case kF => exact he); (case kK => exact hk); (case k1 => k_asm); (case k2 => k_asm); (case k3 => k_asm); (case k4 => k_asm); (case k5 => k_asm); (case kXB => exact XB); (case kTB => exact TB); (case kD => exact DD); (case k6 => k_is); (case k7 => k_is); (case k8 => k_room); (case k9 => first | exact BindsTo.of_eq rfl | exact binds_K (by k_in) rfl (by k_is) rfl rfl rfl); (case c5 => decide); (case kB => exact locs rfl); (case c2 => exact rfl); (case c3 => exact rfl); (case c4 => exact rfl); k_whole; intro g' L' h' FG' F' N' B' X' T' D'; (try dsimp only); (try k_fold))
  k_steps
  refine unstay (init_C B' (by assumption) X' T' (by assumption) c1 c2 rfl rfl rfl (by show adp + 1 + 20 < _; omega) (by show aun + 3 + 100 < _; omega) (fun k => k) (fun h9 tk9 c F9 hcap C9 _ => ?_))
  obtain ⟨⟨o9, kvs9, D9, vs9, n9, N9, hd9, hf9, hi9, hM9⟩, nd9, len9, cap91, cap92, ok9⟩ := C9
  dsimp only
  k_steps
  (rename Fr _ _ _ _ => F1); (rename News _ _ _ _ => N1)
  subst hcap
  refine unstay (forList_T (items := vs.toArray) rfl rfl rfl (fun i m news => m "cache" = some (.ref c.x) ∧ (∃ t, m "laid" = some (.int (lruMiss c.cap [] (ns.take i) : Nat) t)) ∧ Led w c (fun k => k) (lruRun c.cap [] (ns.take i)) rest news)
    (fun i m news hJ => ?_) ⟨B', X', T', D', KtsTurn.refl⟩ F1 N1 ⟨rfl, ⟨_, rfl⟩, ⟨o9, kvs9, D9, vs9, n9, rfl, hd9, hf9, hi9, hM9, nd9, len9, cap91, cap92, ok9⟩⟩ ?_ ?_)
  · obtain ⟨_, _, _, _, _, _, _, rfl, _⟩ := hJ
    exact .inr ⟨_, .tail _ (.tail _ (.tail _ (.tail _ (.tail _ (.tail _ hrl))))), rfl, _, rfl⟩
  · intro i v I oI g2 m2 news2 h2 tk2 hv hJ off G2 F2 N2
    obtain ⟨k, tv, rfl, hki⟩ := hi.at i v (by simpa using hv)
    obtain ⟨hm1, ⟨tl, hm2⟩, hL⟩ := hJ
    have C2 := hL.at N2 off
    obtain ⟨⟨o3, kvs3, D3, vs3, n3, N3, hd3, hf3, hi3, hM3⟩, nd3, len3, _, _, ok3⟩ := C2
    have F3 := fr_cong (m' := fun y => if y = "key" then some (.int k tv) else if y = "cache" then some (.ref c.x) else if y = "laid" then some (.int (lruMiss c.cap [] (ns.take i) : Nat) tl) else m2 y) F2 (by
      intro y
      by_cases e1 : y = "key"
      · rw [if_pos e1, if_pos e1]
      · by_cases e2 : y = "cache"
        · rw [if_neg e1, if_neg e1, if_pos e2, e2, hm1]
        · by_cases e3 : y = "laid"
          · rw [if_neg e1, if_neg e1, if_neg e2, if_pos e3, e3, hm2]
          · rw [if_neg e1, if_neg e1, if_neg e2, if_neg e3])
    clear F2 N2
    obtain ⟨B2, X2, T2, D2, Tn2⟩ := G2
    k_steps
    refine unstay (contains_C B2 F3 X2 T2 ⟨⟨o3, kvs3, D3, vs3, n3, N3, hd3, hf3, hi3, hM3⟩, nd3, len3, cap91, cap92, ok3⟩ rfl rfl rfl (by show adp + 1 + 20 < _; omega) (by show aun + 3 + 100 < _; omega) (fun h4 tk4 F4 C4 => ?_))
    obtain ⟨⟨o4, kvs4, D4, vs4, n4, N4, hd4, hf4, hi4, hM4⟩, nd4, len4, _, _, ok4⟩ := C4
    clear F3 N3
    have hmiss := lruMiss_snoc (cap := c.cap) (k := k) (l := ns.take i) (q := [])
    have hrun := lruRun_snoc (cap := c.cap) (k := k) (l := ns.take i) (q := [])
    have hsn : ns.take i ++ [k] = ns.take (i + 1) := by rw [List.take_add_one, hki]; rfl
    rw [hsn] at hmiss hrun
    by_cases hkq : k ∈ lruRun c.cap [] (ns.take i)
    · rw [if_pos hkq] at hmiss
      rw [decide_eq_true hkq]
      k_steps
      (rename Fr _ _ _ _ => F5); (rename News _ _ _ _ => N5)
      refine unstay (setdefault_C (val := fun k => k) B2 F5 X2 T2 XB TB D2 rfl rfl rfl (by show adp + 1 + 50 < _; omega) (by show aun + 3 + 200 < _; omega) rfl ⟨⟨o4, kvs4, D4, vs4, n4, N5, hd4, hf4, hi4, hM4⟩, nd4, len4, cap91, cap92, ok4⟩ (fun h6 tk6 g6 tv6 T6 F6 C6 B6 X6 P6 DD6 => ?_))
      obtain ⟨news6, L6, N6⟩ := C6.off hL.rest_off
      dsimp only
      k_steps
      refine ⟨g6, _, news6, h6, _, rfl, ⟨B6, X6, P6, DD6, Tn2.trans T6⟩, F6, N6, hL.off_of L6 off, rfl, ⟨_, by rw [hmiss]; rfl⟩, ?_⟩
      rw [hrun]; exact L6
    · rw [if_neg hkq] at hmiss
      rw [decide_eq_false hkq]
      k_steps
      (rename Fr _ _ _ _ => F5); (rename News _ _ _ _ => N5)
      refine unstay (setdefault_C (val := fun k => k) B2 F5 X2 T2 XB TB D2 rfl rfl rfl (by show adp + 1 + 50 < _; omega) (by show aun + 3 + 200 < _; omega) rfl ⟨⟨o4, kvs4, D4, vs4, n4, N5, hd4, hf4, hi4, hM4⟩, nd4, len4, cap91, cap92, ok4⟩ (fun h6 tk6 g6 tv6 T6 F6 C6 B6 X6 P6 DD6 => ?_))
      obtain ⟨news6, L6, N6⟩ := C6.off hL.rest_off
      dsimp only
      k_steps
      refine ⟨g6, _, news6, h6, _, rfl, ⟨B6, X6, P6, DD6, Tn2.trans T6⟩, F6, N6, hL.off_of L6 off, rfl, ⟨_, by rw [hmiss]; rfl⟩, ?_⟩
      rw [hrun]; exact L6
  · intro g2 m2 news2 h2 tk2 hJ G2 F2 N2
    obtain ⟨hm1, ⟨tl, hm2⟩, hL⟩ := hJ
    have F3 := fr_cong (m' := fun y => if y = "laid" then some (.int (lruMiss c.cap [] (List.take vs.toArray.size ns) : Nat) tl) else m2 y) F2 (by
      intro y
      by_cases e3 : y = "laid"
      · rw [if_pos e3, e3, hm2]
      · rw [if_neg e3])
    have hlen : List.take vs.toArray.size ns = ns := by
      have := hi.length
      rw [List.size_toArray, this, List.take_length]
    obtain ⟨B2, X2, T2, D2, Tn2⟩ := G2
    obtain ⟨_, _, _, _, _, rfl, _⟩ := hL
    rw [hlen] at F3
    clear F2
    k_steps
    (rename Fr _ _ _ _ => F5); (rename News _ _ _ _ => N5)
    exact ⟨_, _, _, _, Tn2, by assumption, news_sub N5 (fun p hp => .tail _ (.tail _ (.tail _ (.tail _ (.tail _ (.tail _ hp)))))), fun h₀' T1 F1 N1 B1 X1 P1 D1 => h _ _ _ _ T1 F1 N1 B1 X1 P1 D1⟩

end
end Mine

end

section
open PySem PySem.W PyProof.Rows PySem.Spec PyProof.V
set_option Elab.async false
set_option maxRecDepth 100000
set_option maxHeartbeats 8000000
namespace Mine

def Cch.has (c : Cch) (a : Addr) : Prop := a = c.x ∨ a = c.dx ∨ a = c.mp ∨ a = c.q ∨ a = c.lk ∨ a = c.dlk
theorem Cch.has_led {w : World} {c : Cch} {o : Obj} {vs : List Value} {n : Nat} {a : Addr} (h : c.has a) : ∃ p ∈ c.led w o vs n [], p.1 = a := by
  rcases h with rfl | rfl | rfl | rfl | rfl | rfl
  · exact ⟨_, .head _, rfl⟩
  · exact ⟨_, .tail _ (.head _), rfl⟩
  · exact ⟨_, .tail _ (.tail _ (.head _)), rfl⟩
  · exact ⟨_, .tail _ (.tail _ (.tail _ (.head _))), rfl⟩
  · exact ⟨_, .tail _ (.tail _ (.tail _ (.tail _ (.head _)))), rfl⟩
  · exact ⟨_, .tail _ (.tail _ (.tail _ (.tail _ (.tail _ (.head _))))), rfl⟩
theorem Cch.led_has {w : World} {c : Cch} {o : Obj} {vs : List Value} {n : Nat} {p : Addr × Obj} (h : p ∈ c.led w o vs n []) : c.has p.1 := by
  simp only [Cch.led, List.mem_cons, List.not_mem_nil, or_false] at h
  rcases h with rfl | rfl | rfl | rfl | rfl | rfl
  · exact .inl rfl
  · exact .inr (.inl rfl)
  · exact .inr (.inr (.inl rfl))
  · exact .inr (.inr (.inr (.inl rfl)))
  · exact .inr (.inr (.inr (.inr (.inl rfl))))
  · exact .inr (.inr (.inr (.inr (.inr rfl))))
theorem Cch.led_app {w : World} {c : Cch} {o : Obj} {vs : List Value} {n : Nat} {rest : List (Addr × Obj)} {p : Addr × Obj} : p ∈ c.led w o vs n rest ↔ p ∈ c.led w o vs n [] ∨ p ∈ rest := by
  simp only [Cch.led, List.mem_cons, List.not_mem_nil, or_false, or_assoc]
theorem sub_list {α : Type} (l : List α) (P : α → Prop) : ∃ l' : List α, ∀ p, p ∈ l' ↔ p ∈ l ∧ P p := by
  classical exact ⟨l.filter (fun p => decide (P p)), by simp⟩
def LedE (w : World) (c : Cch) (val : Int → Int) (q : List Int) (news : List (Addr × Obj)) : Prop :=
  ∃ o kvs D vs n, (∀ p ∈ c.led w o vs n [], p ∈ news) ∧ o.IsDictOf (intKind PySem.Challenge.rw_bw0012_01.row.prog w) kvs ∧ FlatPairs PyData.int kvs D ∧ IntsAre vs q ∧ MapIs val D q ∧ q.Nodup ∧ q.length ≤ c.cap ∧ 1 ≤ c.cap ∧ c.cap ≤ 100 ∧ c.Ok []
theorem LedE.mono {w : World} {c : Cch} {val : Int → Int} {q : List Int} {news news' : List (Addr × Obj)} (E : LedE w c val q news) (h : ∀ p ∈ news, c.has p.1 → p ∈ news') : LedE w c val q news' := by
  obtain ⟨o, kvs, D, vs, n, hs, r⟩ := E
  exact ⟨o, kvs, D, vs, n, fun p hp => h p (hs p hp) (Cch.led_has hp), r⟩
theorem LedE.addr {w : World} {c : Cch} {val : Int → Int} {q : List Int} {news : List (Addr × Obj)} (E : LedE w c val q news) {a : Addr} (h : c.has a) : ∃ p ∈ news, p.1 = a := by
  obtain ⟨o, kvs, D, vs, n, hs, r⟩ := E
  obtain ⟨p, hp, e⟩ := Cch.has_led (w := w) (o := o) (vs := vs) (n := n) h
  exact ⟨p, hs p hp, e⟩
/-- several caches in one ledger -/
structure LedS (w : World) (val : Int → Int) (cs : List Cch) (qss : List (List Int)) (rest news : List (Addr × Obj)) : Prop where
  len : cs.length = qss.length
  sub : ∀ p ∈ rest, p ∈ news
  off : ∀ p ∈ rest, ∀ c ∈ cs, ¬ c.has p.1
  dis : ∀ (i j : Nat) ci cj, cs[i]? = some ci → cs[j]? = some cj → i ≠ j → ∀ a, ci.has a → ¬ cj.has a
  bound : ∀ p ∈ news, p ∈ rest ∨ ∃ c ∈ cs, c.has p.1
  each : ∀ (i : Nat) c q, cs[i]? = some c → qss[i]? = some q → LedE w c val q news
section
variable {w : World} {val : Int → Int} {cs : List Cch} {qss : List (List Int)} {rest news : List (Addr × Obj)}
theorem LedS.q_of (S : LedS w val cs qss rest news) {i : Nat} {c : Cch} (hc : cs[i]? = some c) : ∃ q, qss[i]? = some q := by
  have h := (List.getElem?_eq_some_iff.mp hc).1
  rw [S.len] at h
  exact ⟨_, List.getElem?_eq_getElem h⟩
theorem LedS.pick (S : LedS w val cs qss rest news) {i : Nat} {c : Cch} {q : List Int} (hc : cs[i]? = some c) (hq : qss[i]? = some q) :
    ∃ resti, (∀ p ∈ rest, p ∈ resti) ∧ (∀ p ∈ resti, p ∈ news ∧ ¬ c.has p.1) ∧ (∀ p ∈ news, p ∈ resti ∨ c.has p.1) ∧ (∀ g L h, News g L h news → CAt w g L h c val q resti) ∧
      (∀ g L h q', CAt w g L h c val q' resti → ∃ news', LedS w val cs (qss.set i q') rest news' ∧ News g L h news') := by
  obtain ⟨resti, hr⟩ := sub_list news (fun p => ¬ c.has p.1)
  have hcm : c ∈ cs := List.mem_of_getElem? hc
  have hsub : ∀ p ∈ rest, p ∈ resti := fun p hp => (hr p).mpr ⟨S.sub p hp, S.off p hp c hcm⟩
  have okr : c.Ok [] → c.Ok resti := fun ok => ⟨ok.lo, ok.a1, ok.a2, ok.a3, ok.a4, ok.a5, fun p hp e => ((hr p).mp hp).2 (.inr (.inr (.inl e))), fun p hp e => ((hr p).mp hp).2 (.inr (.inr (.inr (.inl e))))⟩
  refine ⟨resti, hsub, fun p hp => (hr p).mp hp, fun p hp => ?_, fun g L h N => ?_, fun g L h q' C => ?_⟩
  · by_cases e : c.has p.1
    · exact .inr e
    · exact .inl ((hr p).mpr ⟨hp, e⟩)
  · obtain ⟨o, kvs, D, vs, n, hs, hd, hf, hi, hM, nd, len, c1, c2, ok⟩ := S.each i c q hc hq
    refine ⟨⟨o, kvs, D, vs, n, fun p hp => ?_, hd, hf, hi, hM⟩, nd, len, c1, c2, okr ok⟩
    rcases Cch.led_app.mp hp with hp | hp
    · exact N p (hs p hp)
    · exact N p ((hr p).mp hp).1
  · obtain ⟨⟨o, kvs, D, vs, n, N, hd, hf, hi, hM⟩, nd, len, c1, c2, ok⟩ := C
    refine ⟨c.led w o vs n resti, ⟨by rw [List.length_set]; exact S.len, fun p hp => Cch.led_app.mpr (.inr (hsub p hp)), S.off, S.dis, fun p hp => ?_, fun j cj qj hcj hqj => ?_⟩, N⟩
    · rcases Cch.led_app.mp hp with hp | hp
      · exact .inr ⟨c, hcm, Cch.led_has hp⟩
      · exact S.bound p ((hr p).mp hp).1
    · by_cases e : i = j
      · subst e
        rw [hc] at hcj; cases hcj
        have hlt : i < qss.length := (List.getElem?_eq_some_iff.mp hq).1
        rw [List.getElem?_set_self hlt] at hqj; cases hqj
        exact ⟨o, kvs, D, vs, n, fun p hp => Cch.led_app.mpr (.inl hp), hd, hf, hi, hM, nd, len, c1, c2, ok.lo, ok.a1, ok.a2, ok.a3, ok.a4, ok.a5, fun _ h => (nomatch h), fun _ h => (nomatch h)⟩
      · rw [List.getElem?_set_ne e] at hqj
        exact (S.each j cj qj hcj hqj).mono fun p hp ha => Cch.led_app.mpr (.inr ((hr p).mpr ⟨hp, S.dis j i cj c hcj hc (Ne.symm e) _ ha⟩))
theorem LedS.grow (S : LedS w val cs qss rest news) {X : List (Addr × Obj)} (hX : ∀ p ∈ X, ∀ r ∈ news, r.1 ≠ p.1) : LedS w val cs qss (X ++ rest) (X ++ news) := by
  refine ⟨S.len, fun p hp => ?_, fun p hp c hc ha => ?_, S.dis, fun p hp => ?_, fun i c q hc hq => (S.each i c q hc hq).mono fun p hp _ => List.mem_append_right _ hp⟩
  · rcases List.mem_append.mp hp with hp | hp
    · exact List.mem_append_left _ hp
    · exact List.mem_append_right _ (S.sub p hp)
  · rcases List.mem_append.mp hp with hp | hp
    · obtain ⟨i, hi⟩ := List.getElem?_of_mem hc
      obtain ⟨q, hq⟩ := S.q_of hi
      obtain ⟨r, hr, e⟩ := (S.each i c q hi hq).addr ha
      exact hX p hp r hr e
    · exact S.off p hp c hc ha
  · rcases List.mem_append.mp hp with hp | hp
    · exact .inl (List.mem_append_left _ hp)
    · rcases S.bound p hp with h | h
      · exact .inl (List.mem_append_right _ h)
      · exact .inr h
theorem LedS.drop {X : List (Addr × Obj)} (S : LedS w val cs qss (X ++ rest) news) (hX : ∀ p ∈ X, ∀ r ∈ rest, r.1 ≠ p.1) :
    ∃ news', LedS w val cs qss rest news' ∧ (∀ p ∈ news', p ∈ news) ∧ ∀ p ∈ news', ∀ x ∈ X, p.1 ≠ x.1 := by
  obtain ⟨news', hn⟩ := sub_list news (fun p => ∀ x ∈ X, p.1 ≠ x.1)
  refine ⟨news', ⟨S.len, fun p hp => (hn p).mpr ⟨S.sub p (List.mem_append_right _ hp), fun x hx => hX x hx p hp⟩, fun p hp => S.off p (List.mem_append_right _ hp), S.dis, fun p hp => ?_, fun i c q hc hq => (S.each i c q hc hq).mono fun p hp ha => (hn p).mpr ⟨hp, fun x hx e => ?_⟩⟩, fun p hp => ((hn p).mp hp).1, fun p hp => ((hn p).mp hp).2⟩
  · rcases S.bound p ((hn p).mp hp).1 with h | h
    · rcases List.mem_append.mp h with h | h
      · exact absurd rfl (((hn p).mp hp).2 p h)
      · exact .inl h
    · exact .inr h
  · exact S.off x (List.mem_append_left _ hx) c (List.mem_of_getElem? hc) (e ▸ ha)
theorem Cch.cover {g h : Heap} {L : Addr} (N : News g L h news) {c : Cch} {o : Obj} {vs : List Value} {n : Nat} (hs : ∀ p ∈ c.led w o vs n [], p ∈ news) : ∀ p ∈ news, c.has p.1 → p ∈ c.led w o vs n [] := by
  intro p hp ha
  obtain ⟨r, hr, e⟩ := Cch.has_led (w := w) (o := o) (vs := vs) (n := n) ha
  have h1 := (N p hp).1
  have h2 := (N r (hs r hr)).1
  rw [e, h1] at h2
  have e2 := Option.some.inj h2
  obtain ⟨p1, p2⟩ := p
  obtain ⟨r1, r2⟩ := r
  dsimp only at e e2
  subst e e2
  exact hr
end

theorem contains_N {w : World} {mean : ExcName → Option Value} {mg mb : Str → Option Value} {A₀ A : Around} {base h₀ : Heap} {outer : List Env} {env : Env} {L : Addr} {m : Str → Option Value} {s : Shared} {rest : List (Addr × Obj)} {Q E : Value → Shared → Prop}
    {c : Cch} {val : Int → Int} {q : List Int} {cs : List Cch} {qss : List (List Int)} {i : Nat} {news : List (Addr × Obj)}
    (B : Below A₀ base outer h₀) (F : Fr h₀ L s.heap m) (X : (hd.heap_39 w.params).In h₀) (T : Top hd.view_39 (looseW hd.view_39 []) mean mg mb h₀)
    (S : LedS w val cs qss rest news) (hc : cs[i]? = some c) (hq : qss[i]? = some q) (N : News h₀ L s.heap news)
    (hA : A.frames = some (env :: outer)) (he : env.frame = some L) (hk : env.scope.kind = .function) (hdp : A.depth + 20 < recursionLimit) (hun : A.units + 100 < cLine)
    {k : Int} {t : Tok} 
    (h : ∀ h' tk', Fr h₀ L h' m → News h₀ L h' news → Q (.bool (decide (k ∈ q))) { s with heap := h', toks := tk' }) :
    wpAny (model PySem.Challenge.rw_bw0012_01.row.prog w) A (call (.ref 100) [.ref c.x, .int k t]) Q E s := by
  obtain ⟨resti, h1, h2, h3, _, _⟩ := S.pick hc hq
  obtain ⟨o, kvs, D, vs, n, hs, hd, hf, hi, hM, nd, len, cap1, cap2, ⟨lo, a1, a2, a3, a4, a5, _, _⟩⟩ := S.each i c q hc hq
  have hDl := hM.length
  have N1 : News h₀ L s.heap (c.led w o vs n resti) := fun p hp => by
    rcases Cch.led_app.mp hp with hp | hp
    · exact N p (hs p hp)
    · exact N p (h2 p hp).1
  have r1 : ∀ p ∈ resti, p.1 ≠ c.mp := fun p hp e => (h2 p hp).2 (.inr (.inr (.inl e)))
  have r2 : ∀ p ∈ resti, p.1 ≠ c.q := fun p hp e => (h2 p hp).2 (.inr (.inr (.inr (.inl e))))
  have cov := Cch.cover N hs
  have back : ∀ p ∈ news, p ∈ c.led w o vs n resti := fun p hp => by
    rcases h3 p hp with h | h
    · exact Cch.led_app.mpr (.inr h)
    · exact Cch.led_app.mpr (.inl (cov p hp h))
  refine contains_raw B F X T N1 hd hf lo hi a1 a2 a3 a4 a5 r1 r2 hA he hk hdp hun fun h' tk' F' N' => ?_
  rw [hM.isSome]
  exact h h' tk' F' (news_sub N' back)

theorem contains_F {w : World} {mean : ExcName → Option Value} {mg mb : Str → Option Value} {A₀ A : Around} {base h₀ : Heap} {outer : List Env} {env : Env} {L : Addr} {m : Str → Option Value} {s : Shared} {rest : List (Addr × Obj)} {Q E : Value → Shared → Prop}
    {c : Cch} {val : Int → Int} {q : List Int} {cs : List Cch} {qss : List (List Int)} {i : Nat} {news full : List (Addr × Obj)}
    (B : Below A₀ base outer h₀) (F : Fr h₀ L s.heap m) (X : (hd.heap_39 w.params).In h₀) (T : Top hd.view_39 (looseW hd.view_39 []) mean mg mb h₀)
    (S : LedS w val cs qss rest news) (hc : cs[i]? = some c) (hq : qss[i]? = some q) (hfull : ∀ p ∈ news, p ∈ full) (N : News h₀ L s.heap full)
    (hA : A.frames = some (env :: outer)) (he : env.frame = some L) (hk : env.scope.kind = .function) (hdp : A.depth + 20 < recursionLimit) (hun : A.units + 100 < cLine)
    {k : Int} {t : Tok} 
    (h : ∀ h' tk', Fr h₀ L h' m → News h₀ L h' full → Q (.bool (decide (k ∈ q))) { s with heap := h', toks := tk' }) :
    wpAny (model PySem.Challenge.rw_bw0012_01.row.prog w) A (call (.ref 100) [.ref c.x, .int k t]) Q E s := by
  obtain ⟨resti, hr⟩ := sub_list full (fun p => ¬ c.has p.1)
  obtain ⟨o, kvs, D, vs, n, hs, hd, hf, hi, hM, nd, len, cap1, cap2, ⟨lo, a1, a2, a3, a4, a5, _, _⟩⟩ := S.each i c q hc hq
  have hDl := hM.length
  have N1 : News h₀ L s.heap (c.led w o vs n resti) := fun p hp => by
    rcases Cch.led_app.mp hp with hp | hp
    · exact N p (hfull p (hs p hp))
    · exact N p ((hr p).mp hp).1
  have r1 : ∀ p ∈ resti, p.1 ≠ c.mp := fun p hp e => ((hr p).mp hp).2 (.inr (.inr (.inl e)))
  have r2 : ∀ p ∈ resti, p.1 ≠ c.q := fun p hp e => ((hr p).mp hp).2 (.inr (.inr (.inr (.inl e))))
  have cov := Cch.cover N (fun p hp => hfull p (hs p hp))
  have back : ∀ p ∈ full, p ∈ c.led w o vs n resti := fun p hp => by
    by_cases h : c.has p.1
    · exact Cch.led_app.mpr (.inl (cov p hp h))
    · exact Cch.led_app.mpr (.inr ((hr p).mpr ⟨hp, h⟩))
  refine contains_raw B F X T N1 hd hf lo hi a1 a2 a3 a4 a5 r1 r2 hA he hk hdp hun fun h' tk' F' N' => ?_
  rw [hM.isSome]
  exact h h' tk' F' (news_sub N' back)

theorem items_N {w : World} {mean : ExcName → Option Value} {mg mb : Str → Option Value} {A₀ A : Around} {base h₀ : Heap} {outer : List Env} {env : Env} {L : Addr} {m : Str → Option Value} {s : Shared} {rest : List (Addr × Obj)} {Q E : Value → Shared → Prop}
    {c : Cch} {val : Int → Int} {q : List Int} {cs : List Cch} {qss : List (List Int)} {i : Nat} {news : List (Addr × Obj)}
    (B : Below A₀ base outer h₀) (F : Fr h₀ L s.heap m) (X : (hd.heap_39 w.params).In h₀) (T : Top hd.view_39 (looseW hd.view_39 []) mean mg mb h₀)
    (S : LedS w val cs qss rest news) (hc : cs[i]? = some c) (hq : qss[i]? = some q) (N : News h₀ L s.heap news)
    (hA : A.frames = some (env :: outer)) (he : env.frame = some L) (hk : env.scope.kind = .function) (hdp : A.depth + 20 < recursionLimit) (hun : A.units + 100 < cLine)
    (hh : A.handled = none) 
    (h : ∀ h' tk' l tl, Fr h₀ L h' m → News h₀ L h' (news ++ tl) → DatIn tl (.ref l) (.list ((q.map fun k => .tuple [.int k, .int (val k)]).reverse)) → (∀ p ∈ tl, ∀ r ∈ news, r.1 ≠ p.1) → Q (.ref l) { s with heap := h', toks := tk' }) :
    wpAny (model PySem.Challenge.rw_bw0012_01.row.prog w) A (call (.ref 140) [.ref c.x]) Q E s := by
  obtain ⟨resti, h1, h2, h3, _, _⟩ := S.pick hc hq
  obtain ⟨o, kvs, D, vs, n, hs, hd, hf, hi, hM, nd, len, cap1, cap2, ⟨lo, a1, a2, a3, a4, a5, _, _⟩⟩ := S.each i c q hc hq
  have hDl := hM.length
  have N1 : News h₀ L s.heap (c.led w o vs n resti) := fun p hp => by
    rcases Cch.led_app.mp hp with hp | hp
    · exact N p (hs p hp)
    · exact N p (h2 p hp).1
  have r1 : ∀ p ∈ resti, p.1 ≠ c.mp := fun p hp e => (h2 p hp).2 (.inr (.inr (.inl e)))
  have r2 : ∀ p ∈ resti, p.1 ≠ c.q := fun p hp e => (h2 p hp).2 (.inr (.inr (.inr (.inl e))))
  have cov := Cch.cover N hs
  have back : ∀ p ∈ news, p ∈ c.led w o vs n resti := fun p hp => by
    rcases h3 p hp with h | h
    · exact Cch.led_app.mpr (.inr h)
    · exact Cch.led_app.mpr (.inl (cov p hp h))
  refine items_raw B F X T N1 hd hf lo hi a1 a2 a3 a4 a5 r1 r2 hA he hk hdp hun hh hM (by omega) fun h' tk' l tl F' N' D' off => ?_
  refine h h' tk' l tl F' (news_sub N' fun p hp => ?_) D' fun p hp r hr => off p hp r (back r hr)
  rcases List.mem_append.mp hp with hp | hp
  · exact List.mem_append_left _ (back p hp)
  · exact List.mem_append_right _ hp

end Mine

end

section
open PySem PySem.W PyProof.Rows PySem.Spec PyProof.V
set_option Elab.async false
set_option maxRecDepth 100000
set_option maxHeartbeats 8000000
namespace Mine

def stepD (d : Int) (cap : Nat) (k : Int) (q : List Int) : List Int := if d = 3 then q.erase k else lruStep cap q k
def stepAll (d : Int) (k : Int) (cs : List Cch) (qss : List (List Int)) : List (List Int) := List.zipWith (fun c q => stepD d c.cap k q) cs qss
def stepTo (d : Int) (k : Int) (cs : List Cch) (qss : List (List Int)) (i : Nat) : List (List Int) := (stepAll d k cs qss).take i ++ qss.drop i
theorem stepTo_get {d k : Int} {cs : List Cch} {qss : List (List Int)} {i : Nat} {q : List Int} (hl : cs.length = qss.length) (h : (stepTo d k cs qss i)[i]? = some q) : qss[i]? = some q := by
  have hlen : (stepAll d k cs qss).length = qss.length := by simp [stepAll, hl]
  unfold stepTo at h
  by_cases hi : i < qss.length
  · rw [List.getElem?_append_right (by simp [hlen]; omega), List.getElem?_drop] at h
    rw [List.length_take, hlen, Nat.min_eq_left (Nat.le_of_lt hi)] at h
    simpa using h
  · rw [List.drop_eq_nil_of_le (by omega), List.append_nil, List.getElem?_take] at h
    rw [List.getElem?_eq_none (by rw [hlen]; omega)] at h
    simp at h
theorem stepTo_set {d k : Int} {cs : List Cch} {qss : List (List Int)} {i : Nat} {q : List Int} {c : Cch} (hl : cs.length = qss.length) (hc : cs[i]? = some c) (h : qss[i]? = some q) :
    (stepTo d k cs qss i).set i (stepD d c.cap k q) = stepTo d k cs qss (i + 1) := by
  have hlen : (stepAll d k cs qss).length = qss.length := by simp [stepAll, hl]
  have hi : i < qss.length := (List.getElem?_eq_some_iff.mp h).1
  have hs : (stepAll d k cs qss)[i]? = some (stepD d c.cap k q) := by
    simp [stepAll, List.getElem?_zipWith, hc, h]
  have ht : ((stepAll d k cs qss).take i).length = i := by rw [List.length_take, hlen]; omega
  unfold stepTo
  rw [List.set_append_right _ _ (by omega), ht, Nat.sub_self, List.take_add_one, hs, List.drop_eq_getElem_cons hi, List.set_cons_zero, List.append_assoc]
  rfl
theorem stepTo_zero {d k : Int} {cs : List Cch} {qss : List (List Int)} : stepTo d k cs qss 0 = qss := by simp [stepTo]
theorem stepTo_all {d k : Int} {cs : List Cch} {qss : List (List Int)} (hl : cs.length = qss.length) : stepTo d k cs qss cs.length = stepAll d k cs qss := by
  have hlen : (stepAll d k cs qss).length = qss.length := by simp [stepAll, hl]
  rw [stepTo, List.drop_eq_nil_of_le (by omega), List.append_nil, List.take_of_length_le (by omega)]
theorem refs_at {cs : List Cch} {i : Nat} {v : Value} (h : (cs.map fun c => Value.ref c.x).toArray[i]? = some v) : ∃ c, cs[i]? = some c ∧ v = .ref c.x := by
  rw [List.getElem?_toArray, List.getElem?_map] at h
  cases e : cs[i]? with
  | none => rw [e] at h; cases h
  | some c => rw [e] at h; exact ⟨c, rfl, (Option.some.inj h).symm⟩
def datOf (q : List Int) : Dat := .list ((q.map fun k => .tuple [.int k, .int (3 * k + 1)]).reverse)
theorem ok_dat (q : List Int) : kqdOk 9 (.list ((q.map fun k => Dat.tuple [.int k, .int (3 * k + 1)]).reverse)) = true := by
  simp [kqdOk]
structure Good (d k : Int) (qss qss' : List (List Int)) : Prop where
  len : ∀ (i : Nat) q, qss'[i]? = some q → q.length ≤ i + 1
  mem : ∀ (i : Nat) q, qss'[i]? = some q → (k ∈ q ↔ d < 3)
  last : ∀ (i : Nat) q, qss'[i]? = some q → d < 3 → q.getLast? = some k
  suf : ∀ (i : Nat) q q', qss'[i]? = some q → qss'[i + 1]? = some q' → q <:+ q'
  sub : ∀ (i : Nat) q q', qss[i]? = some q → qss[i + 1]? = some q' → k ∈ q → k ∈ q'

section
open PySem.Calls
variable {M : Model} {A : Around} {E : Value → Shared → Prop} {s : Shared} {K : Frag} {x C L f : Addr} {h₀ : Heap} {m : Str → Option Value} {ox : Obj} {od : Option Obj} {i v : Value}
theorem delItem_K {Q : Unit → Shared → Prop} (F : Fr h₀ L s.heap m) (X₀ : K.In h₀) (I : InstAt s.heap x ox C od) (hq : noSeq K C = true) (hs : findIn K (.ref C) "__delitem__" = some (some (.ref f))) (hf : isFn K (.ref f) = true)
    (h : wpAny M A (call (.ref f) [.ref x, i]) (fun _ s' => Q () s') E s) : wpAny M A (delItem (.ref x) i) Q E s := by
  have X := X₀.keeps F.keep
  unfold delItem sequenceKey
  refine wpAny_holding (wpAny_bind (wpAny_bind (I.type.here ?_)))
  refine wpAny_bind ((anyM_none X hq).here ?_)
  rw [if_pos (show (!false) = true from rfl)]
  exact wpAny_pure (wpAny_bind (special_fn X I hs (beq_iff_eq.mp hf) (wpAny_mono h (fun _ _ z => wpAny_pure z) fun _ _ z => z)))
end

theorem news_dup {g h : Heap} {L : Addr} {l : List (Addr × Obj)} {p : Addr × Obj} (N : News g L h l) (hp : p ∈ l) : News g L h (p :: l) := fun r hr => by
  rcases List.mem_cons.mp hr with rfl | hr
  · exact N _ hp
  · exact N r hr
theorem datAll_get {n : List (Addr × Obj)} : ∀ {vs : List Value} {ds : List Dat} {i : Nat} {d : Dat}, DatAll n vs ds → ds[i]? = some d → ∃ v, vs[i]? = some v ∧ DatIn n v d
  | _, _, _, _, .nil, h => by simp at h
  | _, _, 0, _, .cons a _, h => by
    rw [List.getElem?_cons_zero] at h
    cases h
    exact ⟨_, rfl, a⟩
  | _, _, i + 1, _, .cons _ r, h => by
    rw [List.getElem?_cons_succ] at h
    obtain ⟨v, h1, h2⟩ := datAll_get r h
    exact ⟨v, by rw [List.getElem?_cons_succ]; exact h1, h2⟩
theorem datAll_take {n : List (Addr × Obj)} : ∀ {vs : List Value} {ds : List Dat} (j : Nat), DatAll n vs ds → DatAll n (vs.take j) (ds.take j)
  | _, _, 0, _ => by rw [List.take_zero, List.take_zero]; exact .nil
  | _, _, _ + 1, .nil => by rw [List.take_nil, List.take_nil]; exact .nil
  | _, _, j + 1, .cons a r => by rw [List.take_succ_cons, List.take_succ_cons]; exact .cons a (datAll_take j r)
theorem datIn_tuple {n : List (Addr × Obj)} {v : Value} {ds : List Dat} (h : DatIn n v (.tuple ds)) : ∃ a, v = .ref a := by
  cases h with
  | tuple h1 h2 => exact ⟨_, rfl⟩
theorem datIn_list {n : List (Addr × Obj)} {v : Value} {ds : List Dat} (h : DatIn n v (.list ds)) : ∃ a xs k, v = .ref a ∧ (a, listOf xs.toArray k) ∈ n ∧ DatAll n xs ds := by
  cases h with
  | list h1 h2 => exact ⟨_, _, _, rfl, h1, h2⟩
section
open PySem.Calls
variable {prog : Program} {w : World} {A : Around} {E : Value → Shared → Prop} {s : Shared} {h₀ : Heap} {L : Addr} {news : List (Addr × Obj)}
theorem item_V {value slice : Expr} {l : Addr} {vs : List Value} {n : Nat} {i : Int} {u : Tok} {v : Value} {Q : Value → Shared → Prop} (N : News h₀ L s.heap news) (hm : (l, listOf vs.toArray n) ∈ news)
    (h0 : 0 ≤ i) (h1 : i < 2 ^ 63) (hx : vs[i.toNat]? = some v) (h : Q v s)
    (hs : subscripted slice false (.ref l) (.int i u) = operate [.ref l, .int i u] (getItem (.ref l) (.int i u)) := by with_unfolding_all rfl) (hg : ∀ r, letTemporaryGo value (.ref l) r = pure () := by intro _; with_unfolding_all rfl) :
    wpAny (model prog w) A (subscriptTail value slice (.ref l) (.int i u)) Q E s :=
  item_listL (PySem.IsL.isList (n := n) (N _ hm).1) h0 h1 hx h hs hg
theorem len_V {l : Addr} {vs : List Value} {n : Nat} {Q : Value → Shared → Prop} (N : News h₀ L s.heap news) (hm : (l, listOf vs.toArray n) ∈ news) (hz : vs.length ≤ 900)
    (h : Q (.int (vs.length : Nat) (s.toks + 1)) { s with toks := s.toks + 1 + 1 }) : wpAny (model prog w) A (call (.builtin "len") [.ref l]) Q E s :=
  call_len_list (PySem.IsL.isList (n := n) (N _ hm).1) (by rw [List.size_toArray]; omega) (by rw [List.size_toArray]; exact h)
theorem slice_to {m : Str → Option Value} {value slice : Expr} {l : Addr} {vs : List Value} {n j : Nat} {t : Tok} {Q : Value → Shared → Prop} (F : Fr h₀ L s.heap m) (N : News h₀ L s.heap news) (hm : (l, listOf vs.toArray n) ∈ news) (hz : vs.length ≤ 900)
    (h : ∀ D h', Fr h₀ L h' m → News h₀ L h' ((D, listOf (vs.take j).toArray 0) :: news) → (∀ p ∈ news, p.1 < D) → Q (.ref D) { s with heap := h' })
    (hs : subscripted slice false (.ref l) (.ref s.heap.objs.size) = operate [.ref s.heap.objs.size, .ref l] (getItem (.ref l) (.ref s.heap.objs.size))) (ht : ∀ r, letTemporaryGo value (.ref l) r = pure ()) :
    wpAny (model prog w) A (subscriptTail value slice (.ref l) (.ref s.heap.objs.size)) Q E { s with heap := s.heap.push { cls := .type "slice", data := .fields #[.none, .int (j : Nat) t, .none] } } :=
  kms_slice_lit F N (PySem.IsL.isList (n := n) (N _ hm).1) IsPart.none (IsPart.int _ _) (by
    have e : kms_pick vs none (some ((j : Nat) : Int)) = vs.take j := by
      unfold kms_pick kms_lo kms_hi
      simp only [List.drop_zero, Nat.sub_zero, Int.toNat_natCast]
      rw [if_neg (by omega)]
      by_cases hj : j ≤ vs.length
      · rw [Nat.min_eq_left hj]
      · rw [Nat.min_eq_right (by omega), List.take_length, List.take_of_length_le (by omega)]
    exact e) h hs ht (by rw [List.size_toArray, sizeLine_eq]; omega)
theorem ne_same {va vb : Value} {d : Dat} {Q : Value → Shared → Prop} (N : News h₀ L s.heap news) (Da : DatIn news va d) (Db : DatIn news vb d) (ok : kqdOk 9 d = true) (hu : A.units + 64 < cLine) (h : Q (.bool false) s) :
    wpAny (model prog w) A (compareOp .NotEq va vb) Q E s := by
  obtain ⟨as, ra⟩ := kqd_in N 9 Da ok
  obtain ⟨bs, rb⟩ := kqd_in N 9 Db ok
  have la := kqd_lay 9 d ok
  have e : PyData.eqv (kqdP d) (kqdP d) = true := (kqd_eqv 9 d d 9 ok ok).mpr rfl
  have sh : SeqAt.shaped (kqdP d) = true := by
    unfold SeqAt.shaped; rw [la.1, Bool.true_and]; exact decide_eq_true (Nat.le_trans la.2 (by decide))
  exact ne_dataH ra rb sh sh hu (by rw [e]; exact h)
end
theorem fr_pin {g h : Heap} {L : Addr} {m : Str → Option Value} {x : Str} {v : Value} (F : Fr g L h m) (e : m x = some v) : Fr g L h (fun y => if y = x then some v else m y) := fr_cong F fun y => by
  by_cases hy : y = x
  · rw [if_pos hy, hy, e]
  · rw [if_neg hy]
theorem CAt.dup {w : World} {g h : Heap} {L : Addr} {c : Cch} {val : Int → Int} {q : List Int} {rest : List (Addr × Obj)} {p : Addr × Obj} (C : CAt w g L h c val q rest) (hp : p ∈ rest) : CAt w g L h c val q (p :: rest) := by
  obtain ⟨⟨o, kvs, D, vs, n, N, hd, hf, hi, hM⟩, nd, len, c1, c2, ok⟩ := C
  refine ⟨⟨o, kvs, D, vs, n, fun r hr => ?_, hd, hf, hi, hM⟩, nd, len, c1, c2, ok.lo, ok.a1, ok.a2, ok.a3, ok.a4, ok.a5, fun r hr => ?_, fun r hr => ?_⟩
  · rcases Cch.led_app.mp hr with hr | hr
    · exact N r (Cch.led_app.mpr (.inl hr))
    · rcases List.mem_cons.mp hr with rfl | hr
      · exact N _ (Cch.led_app.mpr (.inr hp))
      · exact N r (Cch.led_app.mpr (.inr hr))
  · rcases List.mem_cons.mp hr with rfl | hr
    · exact ok.r1 _ hp
    · exact ok.r1 r hr
  · rcases List.mem_cons.mp hr with rfl | hr
    · exact ok.r2 _ hp
    · exact ok.r2 r hr
theorem CAt.undup {w : World} {g h : Heap} {L : Addr} {c : Cch} {val : Int → Int} {q : List Int} {rest : List (Addr × Obj)} {p : Addr × Obj} (C : CAt w g L h c val q (p :: rest)) : CAt w g L h c val q rest := by
  obtain ⟨⟨o, kvs, D, vs, n, N, hd, hf, hi, hM⟩, nd, len, c1, c2, ok⟩ := C
  refine ⟨⟨o, kvs, D, vs, n, fun r hr => ?_, hd, hf, hi, hM⟩, nd, len, c1, c2, ok.lo, ok.a1, ok.a2, ok.a3, ok.a4, ok.a5, fun r hr => ok.r1 r (.tail _ hr), fun r hr => ok.r2 r (.tail _ hr)⟩
  rcases Cch.led_app.mp hr with hr | hr
  · exact N r (Cch.led_app.mpr (.inl hr))
  · exact N r (Cch.led_app.mpr (.inr (.tail _ hr)))
theorem LedS.inst_of {w : World} {val : Int → Int} {cs : List Cch} {qss : List (List Int)} {rest news full : List (Addr × Obj)} (S : LedS w val cs qss rest news) {g h : Heap} {L : Addr} (N : News g L h full) (hs : ∀ p ∈ news, p ∈ full) {i : Nat} {c : Cch} (hc : cs[i]? = some c) : News g L h ((c.x, instObj 169 c.dx) :: (c.dx, fieldsOf w c.mp c.q c.lk c.cap c.t0 c.t1 c.t2 c.t3 c.t4) :: full) := fun r hr => by
  obtain ⟨q, hq⟩ := S.q_of hc
  obtain ⟨o, kvs, D, vs, n, hs', _⟩ := S.each i c q hc hq
  rcases List.mem_cons.mp hr with rfl | hr
  · exact N _ (hs _ (hs' _ (.head _)))
  · rcases List.mem_cons.mp hr with rfl | hr
    · exact N _ (hs _ (hs' _ (.tail _ (.head _))))
    · exact N r hr
theorem LedS.cons {w : World} {val : Int → Int} {cs : List Cch} {qss : List (List Int)} {rest news : List (Addr × Obj)} (S : LedS w val cs qss rest news) {g h : Heap} {L : Addr} (N : News g L h news) {p : Addr × Obj} (hp : p ∈ rest) : News g L h (p :: news) := fun r hr => by
  rcases List.mem_cons.mp hr with rfl | hr
  · exact N _ (S.sub _ hp)
  · exact N r hr

section
local macro_rules | `(tactic| k_room) => `(tactic| ((try simp only [depth_under_make, depth_under_kw, depth_in1, depth_deeper, depth_caller]); (simp only [recursionLimit] at *); omega))
local macro_rules | `(tactic| k_all) => `(tactic| assumption)

local macro_rules | `(tactic| walk_at "call ref") => `(tactic| ((with_reducible show wpAny _ _ (call (Value.ref 100) _) _ _ _); refine stay ?_))

local macro_rules | `(tactic| walk_at "call ref") => `(tactic| ((with_reducible show wpAny _ _ (call (Value.ref 128) _) _ _ _); refine stay ?_))

local macro_rules | `(tactic| walk_at "call ref") => `(tactic| ((with_reducible show wpAny _ _ (call (Value.ref 135) _) _ _ _); refine stay ?_))

local macro_rules | `(tactic| walk_at "call ref") => `(tactic| ((with_reducible show wpAny _ _ (call (Value.ref 140) _) _ _ _); refine stay ?_))

local macro_rules | `(tactic| walk_at "call ref") => `(tactic| ((with_reducible show wpAny _ _ (call (Value.ref 86) _) _ _ _); refine stay ?_))

local macro_rules | `(tactic| walk_at "exec For Name Name cons nil") => `(tactic| (k_here; k_dflt (refine wpAny_For ?_ (by intro _; rfl))))
local macro_rules | `(tactic| walk_at "pyIter ref") => `(tactic| ((with_reducible show wpAny _ _ (pyIter (Value.ref _)) _ _ _); refine stay ?_))

local macro_rules | `(tactic| walk_at "call builtin:len") => `(tactic| (k_here; (show wpAny _ _ (call (Value.builtin _) [Value.ref _]) _ _ _); k_dflt (refine' len_V ?N ?m ?z ?_; (case N => k_asm); (case m => k_mem); (case z => assumption); k_whole)))
local macro_rules | `(tactic| walk_at "subscriptTail") => `(tactic| (k_here; (with_reducible show wpAny _ _ (subscriptTail _ (PySem.Expr.Slice none _ none _) (Value.ref _) (Value.ref _)) _ _ _); k_dflt (refine' slice_to ?F ?N ?m ?z ?_ ?s ?t; (case F => k_asm); (case N => k_asm); (case m => k_mem); (case z => assumption); (case s => with_unfolding_all rfl); (case t => kmk_pure)); intro D' h' F' N' l1; (try k_lt l1); (try k_sweep)))
local macro_rules | `(tactic| walk_at "subscriptTail Name Slice ref ref") => `(tactic| (k_here; (with_reducible show wpAny _ _ (subscriptTail _ (PySem.Expr.Slice none _ none _) (Value.ref _) (Value.ref _)) _ _ _); k_dflt (refine' slice_to ?F ?N ?m ?z ?_ ?s ?t; (case F => k_asm); (case N => k_asm); (case m => k_mem); (case z => assumption); (case s => with_unfolding_all rfl); (case t => kmk_pure)); intro D' h' F' N' l1; (try k_lt l1); (try k_sweep)))
local macro_rules | `(tactic| walk_at "eval Name") => `(tactic| (k_here; (with_reducible show wpAny _ _ (eval (Expr.Name _ _) (envOfC _ _ _ _ _)) _ _ _); k_dflt (first
  | (refine' nameX_L ?F ?v ?_ ?a ?b; (case F => k_asm); (case a => rfl); (case b => rfl); (case v => rfl); k_whole)
  | (refine' nameX_C ?N ?c ?m ?d ?_ ?a ?b; (case a => rfl); (case b => rfl); (case N => k_asm); (case c => rfl); (case m => k_mem); (case d => k_asm); k_whole)
  | (refine' nameX_K ?F ?X ?T ?e ?_ ?a ?b; (case F => k_asm); (case X => k_asm); (case T => k_asm); (case a => rfl); (case b => rfl); (case e => k_is); k_whole)
  | (refine' nameX_B ?F ?X ?T ?e ?v ?n ?_ ?a ?b; (case F => k_asm); (case X => k_asm); (case T => k_asm); (case a => rfl); (case b => rfl); (case e => k_is); (case v => boot_fast); (case n => decide); k_whole))))
local macro_rules | `(tactic| walk_at "exec For Name Call cons nil") => `(tactic| (k_here; k_dflt (refine wpAny_For ?_ (by intro _; rfl))))
local macro_rules | `(tactic| walk_at "subscriptTail") => `(tactic| (k_here; (with_reducible show wpAny _ _ (subscriptTail _ _ (Value.ref _) (Value.int _ _)) _ _ _); k_dflt (refine' item_V ?N ?m ?h0 ?h1 ?x ?_; (case N => k_asm); (case m => k_mem); (case h0 => omega); (case h1 => omega); (case x => assumption); k_whole)))
local macro_rules | `(tactic| walk_at "subscriptTail Name Name ref int") => `(tactic| (k_here; (with_reducible show wpAny _ _ (subscriptTail _ _ (Value.ref _) (Value.int _ _)) _ _ _); k_dflt (refine' item_V ?N ?m ?h0 ?h1 ?x ?_; (case N => k_asm); (case m => k_mem); (case h0 => omega); (case h1 => omega); (case x => assumption); k_whole)))
local macro_rules | `(tactic| walk_at "subscriptTail Name BinOp ref int") => `(tactic| (k_here; (with_reducible show wpAny _ _ (subscriptTail _ _ (Value.ref _) (Value.int _ _)) _ _ _); k_dflt (refine' item_V ?N ?m ?h0 ?h1 ?x ?_; (case N => k_asm); (case m => k_mem); (case h0 => omega); (case h1 => omega); (case x => assumption); k_whole)))
local macro_rules | `(tactic| walk_at "subscriptTail Name Constant ref int") => `(tactic| (k_here; (with_reducible show wpAny _ _ (subscriptTail _ _ (Value.ref _) (Value.int _ _)) _ _ _); k_dflt (refine' item_V ?N ?m ?h0 ?h1 ?x ?_; (case N => k_asm); (case m => k_mem); (case h0 => omega); (case h1 => omega); (case x => assumption); k_whole)))
local macro_rules | `(tactic| walk_at "subscriptTail Subscript Constant ref int") => `(tactic| (k_here; (with_reducible show wpAny _ _ (subscriptTail _ _ (Value.ref _) (Value.int _ _)) _ _ _); k_dflt (refine' item_V ?N ?m ?h0 ?h1 ?x ?_; (case N => k_asm); (case m => k_mem); (case h0 => omega); (case h1 => omega); (case x => assumption); k_whole)))
local macro_rules | `(tactic| walk_at "compareOp NotEq ref ref") => `(tactic| ((with_reducible show wpAny _ _ (compareOp CmpOp.NotEq (Value.ref _) (Value.ref _)) _ _ _); refine stay ?_))
local macro_rules | `(tactic| walk_at "call type:range") => `(tactic| (k_here; (show wpAny _ _ (call (Value.type _) [Value.int _ _]) _ _ _); (rename Fr _ _ _ _ => F'); (rename News _ _ _ _ => N'); (with_unfolding_all refine range1_rows F' N' ?_); intro _ _ _ _ _ _ _ _ _))
local macro_rules | `(tactic| walk_at "delItem ref int") => `(tactic| (k_here; (with_reducible show wpAny _ _ (delItem (Value.ref _) _) _ _ _); k_dflt (refine' delItem_K ?F ?X ?I ?hQ ?hS ?hF ?_; (case F => k_asm); (case X => k_asm); (case I => k_inst); (case hS => k_is); (case hF => k_is); (case hQ => k_is); k_whole)))
local macro_rules | `(tactic| walk_at "exec Assign cons ListComp") => `(tactic| (k_here; k_dflt (refine LCg.Assign_ListComp_U (F₀ := by k_asm) (by rfl) (by with_unfolding_all rfl) (by with_unfolding_all rfl) (by decide) (by rfl) (by decide) (by rfl) (by rfl) (by rfl) ?_)))
local macro_rules | `(tactic| walk_at "CompSrc") => `(tactic| (k_here; k_dflt (refine LCg.CompSrc.ledger rfl (by k_asm) (by k_asm) (by k_mem) (by rw [List.size_toArray, sizeLine_eq]; omega) ?_); intro g'; refine stay ?_))

theorem done_C {w : World} {mean : ExcName → Option Value} {mg mb : Str → Option Value} {A₀ A : Around} {base h₀ : Heap} {outer : List Env} {env : Env} {L : Addr} {m : Str → Option Value} {s : Shared} {rest : List (Addr × Obj)} {Q E : Value → Shared → Prop}
    {cs : List Cch} {qss : List (List Int)} {news : List (Addr × Obj)} {cl : Addr} {n0 : Nat} {k d : Int} {t td : Tok}
    (B : Below A₀ base outer h₀) (F : Fr h₀ L s.heap m) (X : (hd.heap_39 w.params).In h₀) (T : Top hd.view_39 (looseW hd.view_39 []) mean mg mb h₀)
    (XB : (Mine.hd.heap_39 w.params).In base) (TB : Top Mine.hd.view_39 (looseW Mine.hd.view_39 []) mean mg mb base) (DD : KtsDicts (outer.filterMap (·.frame)) h₀)
    (hA : A.frames = some (env :: outer)) (he : env.frame = some L) (hk : env.scope.kind = .function) (hdp : A.depth + 80 < recursionLimit) (hun : A.units + 300 < cLine)
    (hh : A.handled = none) (S : LedS w (fun k => 3 * k + 1) cs qss rest news) (N : News h₀ L s.heap news) (hcl : (cl, listOf (cs.map fun c => Value.ref c.x).toArray n0) ∈ rest) (h5 : cs.length = 5) (d0 : 0 ≤ d) (d4 : d < 4) (G : Good d k qss (stepAll d k cs qss))
    (h : ∀ h' tk' h₀' news', KtsTurn (outer.filterMap (·.frame)) h₀ h₀' → LedS w (fun k => 3 * k + 1) cs (stepAll d k cs qss) rest news' → Fr h₀' L h' m → News h₀' L h' news' → Below A₀ base outer h₀' → (Mine.hd.heap_39 w.params).In h₀' → Top Mine.hd.view_39 (looseW Mine.hd.view_39 []) mean mg mb h₀' → KtsDicts (outer.filterMap (·.frame)) h₀' → Q (.bool true) { s with heap := h', toks := tk' }) :
    wpAny (model PySem.Challenge.rw_bw0012_01.row.prog w) A (call (.ref 190) [.ref cl, .int k t, .int d td]) Q E s := by
  have hsz : (cs.map fun c => Value.ref c.x).length = 5 := by rw [List.length_map]; exact h5
  have N := S.cons N hcl
  obtain ⟨ahd, adp, afr, agd, aun⟩ := A
  dsimp only at hA hdp hun hh
  subst hh
  subst hA
  revert X
  k_fill
  intro X
  refine wpAny_call ?_
  k_dflt (refine' callUC ?k1 ?k2 ?k3 ?k4 ?k5 ?kXB ?kTB ?kD ?kA ?kF ?kK ?k6 ?k7 ?k8 ?k9 ?kB ?kN ?_ ?c2 ?c3 ?c4; (case kA => exact rfl); (case kF => exact he); (case kK => exact hk); (case k1 => k_asm); (case k2 => k_asm); (case k3 => k_asm); (case k4 => k_asm); (case k5 => k_asm); (case kXB => exact XB); (case kTB => exact TB); (case kD => exact DD); (case k6 => k_is); (case k7 => k_is); (case k8 => k_room); (case k9 => exact BindsTo.of_eq rfl); (case kB => exact rfl); (case kN => decide +kernel); (case c2 => exact rfl); (case c3 => exact rfl); (case c4 => exact rfl); k_whole; intro g' L' h' tk' cells' FG' F' N' Y' B' X' T' D' l1; (try k_lt l1); k_cells Y'; (try simp only [List.cons_append, List.nil_append] at N'); (try dsimp only); (try k_fold))
  rename_i o' hcd
  have hcd' : o'.data = .cell (some (.int k t)) := by with_unfolding_all exact hcd
  clear hcd
  have F0 : Fr g' L' h' (fun y => if y = "deed" then some (.int d td) else if y = "caches" then some (.ref cl) else none) := by with_unfolding_all exact F'
  clear F'
  k_steps
  refine unstay (compRest_ind2 (fun i ys tl => tl = [] ∧ ys = ((qss.take i).map fun q => Value.bool (!decide (k ∈ q)))) ⟨rfl, by simp⟩ (fun tl => src_append (.inr ⟨_, by k_dflt k_mem, rfl, _, rfl⟩)) ?_ ?_)
  · intro i ys tl v I' oI' C' oC' D' m' h' tk' E' hlt' hInv' hv' hC' hx' F' N' offn off' ne'
    obtain ⟨rfl, hys⟩ := hInv'
    obtain ⟨c, hc, rfl⟩ := refs_at hv'
    obtain ⟨q, hq⟩ := S.q_of hc
    simp only [List.append_nil] at N'
    have offm := off3_mem offn
    have hX : ∀ p ∈ [(I', oI'), (C', oC'), (D', LCg.lst ys), (L' + 1, o')], ∀ r ∈ news, r.1 ≠ p.1 := by
      intro p hp r hr
      have h1 := offm r (.tail _ (.tail _ hr))
      have h2 := allLt_mem l1.2 r hr
      simp only [List.mem_cons, List.not_mem_nil, or_false] at hp
      rcases hp with rfl | rfl | rfl | rfl
      · exact h1.1
      · exact h1.2.1
      · exact h1.2.2
      · show @Ne Nat r.1 (L' + 1); omega
    have S1 := S.grow hX
    have N1 := S.inst_of N' (fun p hp => .tail _ (.tail _ (.tail _ (.tail _ (.tail _ hp))))) hc
    clear N'
    k_steps
    (rename Fr _ _ _ _ => F2); (rename News _ _ _ _ => N2)
    refine unstay (contains_N B' F2 X' T' S1 hc hq (news_sub N2 fun p hp => ?_) rfl rfl rfl (by show adp + 1 + 20 < _; omega) (by show aun + 3 + 100 < _; omega) (fun h4 tk4 F4 N4 => ?_))
    · simp only [List.cons_append, List.nil_append, List.mem_cons] at hp ⊢
      rcases hp with h | h | h | h | h <;> simp [h]
    · dsimp only
      k_steps
      (rename Fr _ _ _ _ => F5); (rename News _ _ _ _ => N5)
      refine ⟨_, _, [], rfl, F5, ?_, trivial, rfl, ?_⟩
      · rw [List.append_nil]
        refine news_sub (S1.cons N5 (p := _) (List.mem_append_right _ hcl)) fun p hp => ?_
        simp only [List.cons_append, List.nil_append, List.mem_cons] at hp ⊢
        rcases hp with h | h | h | h | h | h <;> simp [h]
      · rw [List.take_add_one, hq, List.map_append, ← hys]; rfl
  · intro ys tl hInv' D3 h3 tk3 F3 N3 o3
    obtain ⟨rfl, hys⟩ := hInv'
    simp only [List.append_nil] at N3 o3
    have hlt5 : (cs.map fun c => Value.ref c.x).toArray.size = qss.length := by rw [List.size_toArray, List.length_map, S.len]
    rw [hlt5, List.take_length] at hys
    have offD := off1_mem o3
    have hX : ∀ p ∈ [(D3, LCg.lst ys), (L' + 1, o')], ∀ r ∈ news, r.1 ≠ p.1 := by
      intro p hp r hr
      have h2 := allLt_mem l1.2 r hr
      simp only [List.mem_cons, List.not_mem_nil, or_false] at hp
      rcases hp with rfl | rfl
      · exact offD r (.tail _ (.tail _ hr))
      · show @Ne Nat r.1 (L' + 1); omega
    have S1 := S.grow hX
    k_steps
    (rename Fr _ _ _ _ => F1); (rename News _ _ _ _ => N1)
    refine unstay (forList_T (items := (cs.map fun c => Value.ref c.x).toArray) rfl rfl rfl (fun i m news => m "caches" = some (.ref cl) ∧ m "deed" = some (.int d td) ∧ m "lacking" = some (.ref D3) ∧ LedS w (fun k => 3 * k + 1) cs (stepTo d k cs qss i) ([(D3, LCg.lst ys), (L' + 1, o')] ++ rest) news)
      (fun i m news hJ => .inr ⟨_, hJ.2.2.2.sub _ (List.mem_append_right _ hcl), rfl, _, rfl⟩) ⟨B', X', T', D', KtsTurn.refl⟩ F1 (news_sub N1 fun p hp => ?_) ⟨rfl, rfl, rfl, by rw [stepTo_zero]; exact S1⟩ ?_ ?_)
    · simp only [List.cons_append, List.nil_append, List.mem_cons] at hp ⊢
      rcases hp with h | h | h <;> simp [h]
    · intro i v I oI g2 m2 news2 h2 tk2 hv hJ off G2 F2 N2
      obtain ⟨hm1, hm2, hm3, hL⟩ := hJ
      obtain ⟨c, hc, rfl⟩ := refs_at hv
      obtain ⟨q, hq⟩ := hL.q_of hc
      have hq' := stepTo_get S.len hq
      have SI := hL.grow (X := [(I, oI)]) (fun p hp r hr => by
        rcases List.mem_singleton.mp hp with rfl
        exact off r hr)
      obtain ⟨resti, hr1, hr2, _, hcat, hback⟩ := SI.pick hc hq
      have hcell : (L' + 1, o') ∈ resti := hr1 _ (.tail _ (.tail _ (.head _)))
      obtain ⟨⟨o3, kvs3, D3', vs3, n3, N3, hd3, hf3, hi3, hM3⟩, nd3, len3, cap1, cap2, ok3⟩ := CAt.dup (hcat _ _ _ N2) hcell
      have F3 : Fr g2 L' h2 (fun y => if y = "lacking" then some (.ref D3) else if y = "deed" then some (.int d td) else if y = "caches" then some (.ref cl) else if y = "cache" then some (.ref c.x) else m2 y) := fr_pin (fr_pin (fr_pin F2 (by (repeat refine (if_neg (by decide)).trans ?_); exact hm1)) (by (repeat refine (if_neg (by decide)).trans ?_); exact hm2)) (by (repeat refine (if_neg (by decide)).trans ?_); exact hm3)
      clear F2 N2
      obtain ⟨B2, X2, T2, D2, Tn2⟩ := G2
      k_steps
      · rename (d = 3) => hd3e
        refine unstay (contains_C B2 F3 X2 T2 ⟨⟨o3, kvs3, D3', vs3, n3, N3, hd3, hf3, hi3, hM3⟩, nd3, len3, cap1, cap2, ok3⟩ rfl rfl rfl (by show adp + 1 + 20 < _; omega) (by show aun + 3 + 100 < _; omega) (fun h4 tk4 F4 C4 => ?_))
        by_cases hkq : k ∈ q
        · rw [decide_eq_true hkq]
          obtain ⟨⟨o4, kvs4, D4, vs4, n4, N4, hd4, hf4, hi4, hM4⟩, nd4, len4, _, _, ok4⟩ := C4
          dsimp only
          k_steps
          (rename Fr _ _ _ _ => F5); (rename News _ _ _ _ => N5)
          refine unstay (delitem_C B2 F5 X2 T2 ⟨⟨o4, kvs4, D4, vs4, n4, N5, hd4, hf4, hi4, hM4⟩, nd4, len4, cap1, cap2, ok4⟩ rfl rfl rfl (by show adp + 1 + 20 < _; omega) (by show aun + 3 + 100 < _; omega) hkq (fun h6 tk6 F6 C6 => ?_))
          obtain ⟨newsA, LA, NA⟩ := hback _ _ _ _ (CAt.undup C6)
          obtain ⟨newsB, LB, hB1, hB2⟩ := LA.drop (X := [(I, oI)]) (fun p hp r hr => by
            rcases List.mem_singleton.mp hp with rfl
            exact off r (hL.sub r hr))
          obtain ⟨⟨o6, kvs6, DD7, vs6, n6, N6, hd6, hf6, hi6, hM6⟩, nd6, len6, _, _, ok6⟩ := C6
          dsimp only
          k_steps
          (rename Fr _ _ _ _ => F7)
          refine ⟨g2, _, newsB, _, _, rfl, ⟨B2, X2, T2, D2, Tn2⟩, F7, fun p hp => ?_, fun p hp => hB2 p hp _ (.head _), rfl, rfl, rfl, ?_⟩
          · rcases List.mem_cons.mp hp with rfl | hp
            · exact NA _ (LA.sub _ (.head _))
            · exact NA _ (hB1 p hp)
          · rw [← stepTo_set S.len hc hq', show stepD d c.cap k q = q.erase k by rw [stepD, if_pos hd3e]]
            exact LB
        · rw [decide_eq_false hkq]
          have C6 := C4
          obtain ⟨newsA, LA, NA⟩ := hback _ _ _ _ (CAt.undup C6)
          obtain ⟨newsB, LB, hB1, hB2⟩ := LA.drop (X := [(I, oI)]) (fun p hp r hr => by
            rcases List.mem_singleton.mp hp with rfl
            exact off r (hL.sub r hr))
          obtain ⟨⟨o6, kvs6, DD7, vs6, n6, N6, hd6, hf6, hi6, hM6⟩, nd6, len6, _, _, ok6⟩ := C6
          dsimp only
          k_steps
          (rename Fr _ _ _ _ => F7)
          refine ⟨g2, _, newsB, _, _, rfl, ⟨B2, X2, T2, D2, Tn2⟩, F7, fun p hp => ?_, fun p hp => hB2 p hp _ (.head _), rfl, rfl, rfl, ?_⟩
          · rcases List.mem_cons.mp hp with rfl | hp
            · exact NA _ (LA.sub _ (.head _))
            · exact NA _ (hB1 p hp)
          · rw [← stepTo_set S.len hc hq', show stepD d c.cap k q = q by rw [stepD, if_pos hd3e, List.erase_of_not_mem hkq]]
            exact LB
      · rename (d ≠ 3) => hd3e
        refine unstay (setitem_C (val := fun k => 3 * k + 1) B2 F3 X2 T2 ⟨⟨o3, kvs3, D3', vs3, n3, N3, hd3, hf3, hi3, hM3⟩, nd3, len3, cap1, cap2, ok3⟩ rfl rfl rfl (by show adp + 1 + 20 < _; omega) (by show aun + 3 + 100 < _; omega) (fun h6 tk6 F6 C6 => ?_))
        obtain ⟨newsA, LA, NA⟩ := hback _ _ _ _ (CAt.undup C6)
        obtain ⟨newsB, LB, hB1, hB2⟩ := LA.drop (X := [(I, oI)]) (fun p hp r hr => by
          rcases List.mem_singleton.mp hp with rfl
          exact off r (hL.sub r hr))
        obtain ⟨⟨o6, kvs6, DD7, vs6, n6, N6, hd6, hf6, hi6, hM6⟩, nd6, len6, _, _, ok6⟩ := C6
        dsimp only
        k_steps
        (rename Fr _ _ _ _ => F7)
        refine ⟨g2, _, newsB, _, _, rfl, ⟨B2, X2, T2, D2, Tn2⟩, F7, fun p hp => ?_, fun p hp => hB2 p hp _ (.head _), rfl, rfl, rfl, ?_⟩
        · rcases List.mem_cons.mp hp with rfl | hp
          · exact NA _ (LA.sub _ (.head _))
          · exact NA _ (hB1 p hp)
        · rw [← stepTo_set S.len hc hq', show stepD d c.cap k q = lruStep c.cap q k by rw [stepD, if_neg hd3e]]
          exact LB
      · rename (d ≠ 3) => hd3e
        refine unstay (setdefault_C (val := fun k => 3 * k + 1) B2 F3 X2 T2 XB TB D2 rfl rfl rfl (by show adp + 1 + 50 < _; omega) (by show aun + 3 + 200 < _; omega) rfl ⟨⟨o3, kvs3, D3', vs3, n3, N3, hd3, hf3, hi3, hM3⟩, nd3, len3, cap1, cap2, ok3⟩ (fun h6 tk6 g6 tv6 T6 F6 C6 B6 X6 P6 DD6 => ?_))
        obtain ⟨newsA, LA, NA⟩ := hback _ _ _ _ (CAt.undup C6)
        obtain ⟨newsB, LB, hB1, hB2⟩ := LA.drop (X := [(I, oI)]) (fun p hp r hr => by
          rcases List.mem_singleton.mp hp with rfl
          exact off r (hL.sub r hr))
        obtain ⟨⟨o6, kvs6, DD7, vs6, n6, N6, hd6, hf6, hi6, hM6⟩, nd6, len6, _, _, ok6⟩ := C6
        dsimp only
        k_steps
        all_goals try (exfalso; omega)
        (rename Fr _ _ _ _ => F7)
        refine ⟨g6, _, newsB, _, _, rfl, ⟨B6, X6, P6, DD6, Tn2.trans T6⟩, F7, fun p hp => ?_, fun p hp => hB2 p hp _ (.head _), rfl, rfl, rfl, ?_⟩
        · rcases List.mem_cons.mp hp with rfl | hp
          · exact NA _ (LA.sub _ (.head _))
          · exact NA _ (hB1 p hp)
        · rw [← stepTo_set S.len hc hq', show stepD d c.cap k q = lruStep c.cap q k by rw [stepD, if_neg hd3e]]
          exact LB
    · intro g2 m2 news2 h2 tk2 hJ G2 F2 N2
      obtain ⟨hm1, hm2, hm3, hL⟩ := hJ
      have hsz2 : (cs.map fun c => Value.ref c.x).toArray.size = cs.length := by rw [List.size_toArray, List.length_map]
      rw [hsz2, stepTo_all S.len] at hL
      have hlq : cs.length = (stepAll d k cs qss).length := hL.len
      generalize stepAll d k cs qss = qs2 at hL hlq G h
      have F3 : Fr g2 L' h2 (fun y => if y = "lacking" then some (.ref D3) else if y = "deed" then some (.int d td) else if y = "caches" then some (.ref cl) else m2 y) := fr_pin (fr_pin (fr_pin F2 (by (repeat refine (if_neg (by decide)).trans ?_); exact hm1)) (by (repeat refine (if_neg (by decide)).trans ?_); exact hm2)) (by (repeat refine (if_neg (by decide)).trans ?_); exact hm3)
      have N3 := news_dup (news_dup N2 (hL.sub (L' + 1, o') (.tail _ (.head _)))) (.tail _ (hL.sub (cl, listOf (cs.map fun c => Value.ref c.x).toArray n0) (.tail _ (.tail _ hcl))))
      clear F2 N2
      obtain ⟨B2, X2, T2, D2, Tn2⟩ := G2
      k_steps
      refine unstay (compRest_ind2 (fun i ys tl => DatAll tl ys ((qs2.take i).map datOf) ∧ ∀ p ∈ tl, ∀ r ∈ news2, r.1 ≠ p.1) ⟨by simp only [List.take_zero, List.map_nil]; exact .nil, fun p hp => nomatch hp⟩ (fun tl => src_append (.inr ⟨_, by k_dflt k_mem, rfl, _, rfl⟩)) ?_ ?_)
      · intro i ys2 tl v I' oI' C' oC' D' m' h' tk' E' hlt' hInv' hv' hC' hx' F' N' offn off' ne'
        obtain ⟨c, hc, rfl⟩ := refs_at hv'
        obtain ⟨q, hq⟩ := hL.q_of hc
        have offm := off3_mem offn
        have offt := off3_mem off'
        have hX : ∀ p ∈ ((I', oI') :: (C', oC') :: (D', LCg.lst ys2) :: tl), ∀ r ∈ news2, r.1 ≠ p.1 := by
          intro p hp r hr
          have h1 := offm r (.tail _ (.tail _ hr))
          simp only [List.mem_cons] at hp
          rcases hp with rfl | rfl | rfl | hp
          · exact h1.1
          · exact h1.2.1
          · exact h1.2.2
          · exact hInv'.2 p hp r hr
        have S1 := hL.grow hX
        have N1 := hL.inst_of N' (fun p hp => .tail _ (.tail _ (.tail _ (.tail _ (.tail _ (List.mem_append_left _ hp)))))) hc
        clear N'
        k_steps
        (rename Fr _ _ _ _ => F4); (rename News _ _ _ _ => N4)
        refine unstay (items_N B2 F4 X2 T2 S1 hc hq (news_sub N4 fun p hp => ?_) rfl rfl rfl (by show adp + 1 + 20 < _; omega) (by show aun + 3 + 100 < _; omega) rfl (fun h5 tk5 l5 tl5 F5 N5 D5 off5 => ?_))
        · simp only [List.cons_append, List.mem_cons, List.mem_append] at hp ⊢
          rcases hp with h | h | h | h | h <;> simp [h]
        · dsimp only
          have off6 : ∀ p ∈ tl ++ tl5, p.1 ≠ I' ∧ p.1 ≠ C' ∧ p.1 ≠ D' := fun p hp => by
            rcases List.mem_append.mp hp with hp | hp
            · exact offt p hp
            · exact ⟨Ne.symm (off5 p hp _ (.head _)), Ne.symm (off5 p hp _ (.tail _ (.head _))), Ne.symm (off5 p hp _ (.tail _ (.tail _ (.head _))))⟩
          refine ⟨_, _, tl ++ tl5, rfl, F5, fun p hp => ?_, off3_of off6, ?_, fun p hp r hr => ?_⟩
          · have e1 := N5 (cl, listOf (cs.map fun c => Value.ref c.x).toArray n0) (List.mem_append_left _ (List.mem_append_right _ (hL.sub _ (.tail _ (.tail _ hcl)))))
            have e2 := N5 (L' + 1, o') (List.mem_append_left _ (List.mem_append_right _ (hL.sub _ (.tail _ (.head _)))))
            simp only [List.cons_append, List.mem_cons, List.mem_append] at hp
            rcases hp with h | h | h | h | h | h | h | h
            · exact N5 p (by simp [h])
            · exact N5 p (by simp [h])
            · exact N5 p (by simp [h])
            · rw [h]; exact e1
            · rw [h]; exact e2
            · exact N5 p (by simp [h])
            · exact N5 p (by simp [h])
            · exact N5 p (by simp [h])
          · rw [List.take_add_one, hq, List.map_append]
            exact (hInv'.1.mono (fun p hp => List.mem_append_left _ hp)).append (DatAll.one (D5.mono (fun p hp => List.mem_append_right _ hp)))
          · rcases List.mem_append.mp hp with hp | hp
            · exact hInv'.2 p hp r hr
            · exact off5 p hp r (List.mem_append_right _ hr)
      · intro ys2 tl hInv' D9 h9 tk9 F9 N9 o9
        obtain ⟨hDA, _⟩ := hInv'
        rw [hsz2, hlq, List.take_length] at hDA
        clear o9
        simp only [List.cons_append] at N9
        have hzc : (cs.map fun c => Value.ref c.x).length ≤ 900 := by omega
        k_steps
        (rename IsRange _ _ _ _ _ _ _ _ => R1); (rename Fr _ _ _ _ => F1); (rename News _ _ _ _ => N1)
        simp only [List.length_map, h5] at R1
        rw [show ((5 : Nat) : Int) = 5 from rfl] at R1
        have hD3 : (D3, listOf ys.toArray ys.length) ∈ news2 := hL.sub _ (.head _)
        refine unstay (forRange_T (n := 5) (b := 5) rfl rfl rfl R1 (by decide) (by decide) (fun i m news => m "caches" = some (.ref cl) ∧ m "deed" = some (.int d td) ∧ m "lacking" = some (.ref D3) ∧ m "held" = some (.ref D9) ∧ news = (D3, listOf ys.toArray ys.length) :: (D9, listOf ys2.toArray ys2.length) :: (cl, listOf (cs.map fun c => Value.ref c.x).toArray n0) :: (L' + 1, o') :: (news2 ++ tl))
          ⟨B2, X2, T2, D2, Tn2⟩ F1 (news_dup N1 (.tail _ (.tail _ (.tail _ (List.mem_append_left _ hD3))))) ⟨rfl, rfl, rfl, rfl, rfl⟩ ?_ ?_)
        · intro i t2 I oI g3 m3 news3 h3 tk3 hi5 hJ off G3 F2 N3
          obtain ⟨e1, e2, e3, e4, rfl⟩ := hJ
          have F3 : Fr g3 L' h3 (fun y => if y = "held" then some (.ref D9) else if y = "lacking" then some (.ref D3) else if y = "deed" then some (.int d td) else if y = "caches" then some (.ref cl) else if y = "k" then some (.int (i : Nat) t2) else m3 y) := fr_pin (fr_pin (fr_pin (fr_pin F2 (by (repeat refine (if_neg (by decide)).trans ?_); exact e1)) (by (repeat refine (if_neg (by decide)).trans ?_); exact e2)) (by (repeat refine (if_neg (by decide)).trans ?_); exact e3)) (by (repeat refine (if_neg (by decide)).trans ?_); exact e4)
          clear F2
          rcases i with _ | j
          · obtain ⟨c, hc⟩ : ∃ c, cs[0]? = some c := ⟨_, List.getElem?_eq_getElem (by omega)⟩
            obtain ⟨q, hq⟩ := hL.q_of hc
            obtain ⟨v1, hv1, hd1⟩ := datAll_get hDA (i := 0) (d := datOf q) (by rw [List.getElem?_map, hq]; rfl)
            obtain ⟨a1, xs1, n1, rfl, hma1, hda1⟩ := datIn_list hd1
            have hc1 : (cs.map fun c => Value.ref c.x)[((0 : Nat) : Int).toNat]? = some (.ref c.x) := by rw [Int.toNat_natCast, List.getElem?_map, hc]; rfl
            have hv1' : ys2[((0 : Nat) : Int).toNat]? = some (.ref a1) := by rw [Int.toNat_natCast]; exact hv1
            obtain ⟨q9, hq9⟩ := S.q_of hc
            have hl1 : ys[((0 : Nat) : Int).toNat]? = some (.bool (!decide (k ∈ q9))) := by
              rw [Int.toNat_natCast, hys, List.getElem?_map, hq9]; rfl
            have hlen1 : xs1.length = q.length := by rw [hda1.length, List.length_reverse, List.length_map]
            have hle1 := G.len _ _ hq
            have hsz1 : xs1.length ≤ 0 + 1 := by omega
            have hzz1 : xs1.length ≤ 900 := by omega
            have hmem := G.mem _ _ hq
            have htup : d < 3 → ∃ ta, xs1[(0 : Int).toNat]? = some (.ref ta) ∧ DatIn tl (.ref ta) (.tuple [.int k, .int (3 * k + 1)]) := fun hd3 => by
              have hlast := G.last _ _ hq hd3
              obtain ⟨v, h1, h2⟩ := datAll_get hda1 (i := 0) (d := .tuple [.int k, .int (3 * k + 1)]) (by
                rw [← List.head?_eq_getElem?, List.head?_reverse, List.getLast?_map, hlast]; rfl)
              obtain ⟨ta, rfl⟩ := datIn_tuple h2
              exact ⟨ta, h1, h2⟩
            have N6 := hL.inst_of (news_dup N3 (.tail _ (.tail _ (.tail _ (.tail _ (.tail _ (List.mem_append_right _ hma1))))))) (fun p hp => .tail _ (.tail _ (.tail _ (.tail _ (.tail _ (.tail _ (List.mem_append_left _ hp))))))) hc
            clear N3
            obtain ⟨B3, X3, T3, DD3, Tn3⟩ := G3
            k_steps
            (rename Fr _ _ _ _ => F7); (rename News _ _ _ _ => N7)
            refine unstay (contains_F B3 F7 X3 T3 hL hc hq (fun p hp => .tail _ (.tail _ (.tail _ (.tail _ (.tail _ (.tail _ (.tail _ (.tail _ (List.mem_append_left _ hp))))))))) N7 rfl rfl rfl (by show adp + 1 + 20 < _; omega) (by show aun + 3 + 100 < _; omega) (fun h4 tk4 F4 N4 => ?_))
            clear F7 N7
            by_cases hd3 : d < 3
            · obtain ⟨ta, hta, hdt⟩ := htup hd3
              rw [decide_eq_true (hmem.mpr hd3)]
              k_steps
              · exfalso
                rename ((true != decide _) = true) => hx
                simp [hd3] at hx
              (rename News _ _ _ _ => N7)
              refine unstay (ne_same N7 (hdt.mono (fun p hp => .tail _ (.tail _ (.tail _ (.tail _ (.tail _ (.tail _ (.tail _ (.tail _ (.tail _ (List.mem_append_right _ hp))))))))))) (.tuple (.head _) (.cons (.int _ _) (.cons (.int _ _) .nil))) (by first | rfl | exact ok_dat _) (by show aun + 3 + 64 < _; omega) ?_)
              k_steps
              (rename Fr _ _ _ _ => F9); (rename News _ _ _ _ => N9)
              refine ⟨g3, _, _, _, _, rfl, ⟨B3, X3, T3, DD3, Tn3⟩, F9, fun p hp => N9 p (.tail _ (.tail _ (.tail _ (.tail _ hp)))), off, rfl, rfl, rfl, rfl, rfl⟩
            · rw [decide_eq_false (fun z => hd3 (hmem.mp z))]
              k_steps
              · exfalso
                rename ((false != decide _) = true) => hx
                simp [hd3] at hx
              (rename Fr _ _ _ _ => F9); (rename News _ _ _ _ => N9)
              refine ⟨g3, _, _, _, _, rfl, ⟨B3, X3, T3, DD3, Tn3⟩, F9, fun p hp => N9 p (.tail _ (.tail _ (.tail _ hp))), off, rfl, rfl, rfl, rfl, rfl⟩
          · obtain ⟨c, hc⟩ : ∃ c, cs[(j + 1)]? = some c := ⟨_, List.getElem?_eq_getElem (by omega)⟩
            obtain ⟨q, hq⟩ := hL.q_of hc
            obtain ⟨v1, hv1, hd1⟩ := datAll_get hDA (i := (j + 1)) (d := datOf q) (by rw [List.getElem?_map, hq]; rfl)
            obtain ⟨a1, xs1, n1, rfl, hma1, hda1⟩ := datIn_list hd1
            have hc1 : (cs.map fun c => Value.ref c.x)[(((j + 1) : Nat) : Int).toNat]? = some (.ref c.x) := by rw [Int.toNat_natCast, List.getElem?_map, hc]; rfl
            have hv1' : ys2[(((j + 1) : Nat) : Int).toNat]? = some (.ref a1) := by rw [Int.toNat_natCast]; exact hv1
            obtain ⟨q9, hq9⟩ := S.q_of hc
            have hl1 : ys[(((j + 1) : Nat) : Int).toNat]? = some (.bool (!decide (k ∈ q9))) := by
              rw [Int.toNat_natCast, hys, List.getElem?_map, hq9]; rfl
            have hlen1 : xs1.length = q.length := by rw [hda1.length, List.length_reverse, List.length_map]
            have hle1 := G.len _ _ hq
            have hsz1 : xs1.length ≤ (j + 1) + 1 := by omega
            have hzz1 : xs1.length ≤ 900 := by omega
            have hmem := G.mem _ _ hq
            have htup : d < 3 → ∃ ta, xs1[(0 : Int).toNat]? = some (.ref ta) ∧ DatIn tl (.ref ta) (.tuple [.int k, .int (3 * k + 1)]) := fun hd3 => by
              have hlast := G.last _ _ hq hd3
              obtain ⟨v, h1, h2⟩ := datAll_get hda1 (i := 0) (d := .tuple [.int k, .int (3 * k + 1)]) (by
                rw [← List.head?_eq_getElem?, List.head?_reverse, List.getLast?_map, hlast]; rfl)
              obtain ⟨ta, rfl⟩ := datIn_tuple h2
              exact ⟨ta, h1, h2⟩
            obtain ⟨c0, hc0⟩ : ∃ c, cs[j]? = some c := ⟨_, List.getElem?_eq_getElem (by omega)⟩
            obtain ⟨q0, hq0⟩ := hL.q_of hc0
            obtain ⟨v0, hv0, hd0⟩ := datAll_get hDA (i := j) (d := datOf q0) (by rw [List.getElem?_map, hq0]; rfl)
            obtain ⟨a0, xs0, n0', rfl, hma0, hda0⟩ := datIn_list hd0
            have ej : ((((j + 1 : Nat) : Int) - 1)).toNat = j := by omega
            have hv0' : ys2[(((j + 1 : Nat) : Int) - 1).toNat]? = some (.ref a0) := by rw [ej]; exact hv0
            obtain ⟨q8, hq8⟩ := S.q_of hc0
            have hl0 : ys[(((j + 1 : Nat) : Int) - 1).toNat]? = some (.bool (!decide (k ∈ q8))) := by
              rw [ej, hys, List.getElem?_map, hq8]; rfl
            have hbb : (!decide (k ∈ q9)) = true → (!decide (k ∈ q8)) = true := by
              have := G.sub _ _ _ hq8 hq9
              simp only [Bool.not_eq_true', decide_eq_false_iff_not]
              exact fun h1 h2 => h1 (this h2)
            generalize (!decide (k ∈ q9)) = b1 at hl1 hbb
            generalize (!decide (k ∈ q8)) = b0 at hl0 hbb
            have hlen0 : xs0.length = q0.length := by rw [hda0.length, List.length_reverse, List.length_map]
            have hle0 := G.len _ _ hq0
            have hzz0 : xs0.length ≤ 900 := by omega
            have hpre : DatAll tl (xs1.take xs0.length) ((q0.map fun k => Dat.tuple [.int k, .int (3 * k + 1)]).reverse) := by
              obtain ⟨r, hr⟩ := G.suf _ _ _ hq0 hq
              have h1 := datAll_take xs0.length hda1
              rw [← hr, List.map_append, List.reverse_append, List.take_left' (by rw [List.length_reverse, List.length_map, hlen0])] at h1
              exact h1
            clear hlen0 hle0 hlen1 hle1
            have N6 := hL.inst_of (news_dup (news_dup N3 (.tail _ (.tail _ (.tail _ (.tail _ (.tail _ (List.mem_append_right _ hma1))))))) (.tail _ (.tail _ (.tail _ (.tail _ (.tail _ (.tail _ (List.mem_append_right _ hma0)))))))) (fun p hp => .tail _ (.tail _ (.tail _ (.tail _ (.tail _ (.tail _ (.tail _ (List.mem_append_left _ hp)))))))) hc
            clear N3
            obtain ⟨B3, X3, T3, DD3, Tn3⟩ := G3
            k_steps
            (rename Fr _ _ _ _ => F7); (rename News _ _ _ _ => N7)
            refine unstay (contains_F B3 F7 X3 T3 hL hc hq (fun p hp => .tail _ (.tail _ (.tail _ (.tail _ (.tail _ (.tail _ (.tail _ (.tail _ (.tail _ (List.mem_append_left _ hp)))))))))) N7 rfl rfl rfl (by show adp + 1 + 20 < _; omega) (by show aun + 3 + 100 < _; omega) (fun h4 tk4 F4 N4 => ?_))
            clear F7 N7
            by_cases hd3 : d < 3
            · obtain ⟨ta, hta, hdt⟩ := htup hd3
              rw [decide_eq_true (hmem.mpr hd3)]
              k_steps
              · exfalso
                rename ((true != decide _) = true) => hx
                simp [hd3] at hx
              (rename News _ _ _ _ => N7)
              refine unstay (ne_same N7 (hdt.mono (fun p hp => .tail _ (.tail _ (.tail _ (.tail _ (.tail _ (.tail _ (.tail _ (.tail _ (.tail _ (.tail _ (List.mem_append_right _ hp)))))))))))) (.tuple (.head _) (.cons (.int _ _) (.cons (.int _ _) .nil))) (by first | rfl | exact ok_dat _) (by show aun + 3 + 64 < _; omega) ?_)
              k_steps
              (rename News _ _ _ _ => N7)
              refine unstay (ne_same N7 (.list (.tail _ (.tail _ (.tail _ (.tail _ (.head _))))) (hda0.mono (fun p hp => .tail _ (.tail _ (.tail _ (.tail _ (.tail _ (.tail _ (.tail _ (.tail _ (.tail _ (.tail _ (.tail _ (List.mem_append_right _ hp)))))))))))))) (.list (.head _) (hpre.mono (fun p hp => .tail _ (.tail _ (.tail _ (.tail _ (.tail _ (.tail _ (.tail _ (.tail _ (.tail _ (.tail _ (.tail _ (List.mem_append_right _ hp)))))))))))))) (by first | rfl | exact ok_dat _) (by show aun + 3 + 64 < _; omega) ?_)
              k_steps
              · (rename Fr _ _ _ _ => F9); (rename News _ _ _ _ => N9)
                refine ⟨g3, _, _, _, _, rfl, ⟨B3, X3, T3, DD3, Tn3⟩, F9, fun p hp => N9 p (.tail _ (.tail _ (.tail _ (.tail _ (.tail _ (.tail _ hp)))))), off, rfl, rfl, rfl, rfl, rfl⟩
              · exfalso
                rename (b1 = true) => x1
                rename (b0 = false) => x0
                rw [hbb x1] at x0
                cases x0
              · (rename Fr _ _ _ _ => F9); (rename News _ _ _ _ => N9)
                refine ⟨g3, _, _, _, _, rfl, ⟨B3, X3, T3, DD3, Tn3⟩, F9, fun p hp => N9 p (.tail _ (.tail _ (.tail _ (.tail _ (.tail _ (.tail _ hp)))))), off, rfl, rfl, rfl, rfl, rfl⟩
            · rw [decide_eq_false (fun z => hd3 (hmem.mp z))]
              k_steps
              · exfalso
                rename ((false != decide _) = true) => hx
                simp [hd3] at hx
              (rename News _ _ _ _ => N7)
              refine unstay (ne_same N7 (.list (.tail _ (.tail _ (.tail _ (.head _)))) (hda0.mono (fun p hp => .tail _ (.tail _ (.tail _ (.tail _ (.tail _ (.tail _ (.tail _ (.tail _ (.tail _ (.tail _ (List.mem_append_right _ hp))))))))))))) (.list (.head _) (hpre.mono (fun p hp => .tail _ (.tail _ (.tail _ (.tail _ (.tail _ (.tail _ (.tail _ (.tail _ (.tail _ (.tail _ (List.mem_append_right _ hp))))))))))))) (by first | rfl | exact ok_dat _) (by show aun + 3 + 64 < _; omega) ?_)
              k_steps
              · (rename Fr _ _ _ _ => F9); (rename News _ _ _ _ => N9)
                refine ⟨g3, _, _, _, _, rfl, ⟨B3, X3, T3, DD3, Tn3⟩, F9, fun p hp => N9 p (.tail _ (.tail _ (.tail _ (.tail _ (.tail _ hp))))), off, rfl, rfl, rfl, rfl, rfl⟩
              · exfalso
                rename (b1 = true) => x1
                rename (b0 = false) => x0
                rw [hbb x1] at x0
                cases x0
              · (rename Fr _ _ _ _ => F9); (rename News _ _ _ _ => N9)
                refine ⟨g3, _, _, _, _, rfl, ⟨B3, X3, T3, DD3, Tn3⟩, F9, fun p hp => N9 p (.tail _ (.tail _ (.tail _ (.tail _ (.tail _ hp))))), off, rfl, rfl, rfl, rfl, rfl⟩
        · intro g3 m3 news3 h3 tk3 hJ G3 F2 N3
          obtain ⟨e1, e2, e3, e4, rfl⟩ := hJ
          obtain ⟨B3, X3, T3, DD3, Tn3⟩ := G3
          have N4 : News g3 L' h3 news2 := fun p hp => N3 p (.tail _ (.tail _ (.tail _ (.tail _ (List.mem_append_left _ hp)))))
          clear N3
          k_steps
          (rename Fr _ _ _ _ => F9); (rename News _ _ _ _ => N9)
          obtain ⟨newsB, LB, hB1, _⟩ := hL.drop (fun p hp r hr => hX p hp r (S.sub r hr))
          exact ⟨_, _, _, _, Tn3, F9, news_sub N9 hB1, fun h₀' T1 F1 N1 B1 X1 P1 D1 => h _ _ _ _ T1 LB F1 N1 B1 X1 P1 D1⟩

end
end Mine

end

section
open PySem PySem.W PyProof.Rows PySem.Spec PyProof.V
set_option Elab.async false
set_option maxRecDepth 100000
set_option maxHeartbeats 8000000
namespace Mine

def waitOf (n : Nat) (rest : List Int) (x : Int) : Int := if x ∈ rest then ((rest.idxOf x : Nat) : Int) else (n : Int)
def maxI : List Int → Int
  | [] => 0
  | [a] => a
  | a :: b :: r => max a (maxI (b :: r))
theorem maxI_spec : ∀ {l : List Int}, l ≠ [] → maxI l ∈ l ∧ ∀ a ∈ l, a ≤ maxI l
  | [], h => absurd rfl h
  | [a], _ => ⟨by simp [maxI], by simp [maxI]⟩
  | a :: b :: r, _ => by
    obtain ⟨h1, h2⟩ := maxI_spec (l := b :: r) (by simp)
    rw [maxI]
    refine ⟨?_, fun x hx => ?_⟩
    · by_cases h : a ≤ maxI (b :: r)
      · rw [Int.max_eq_right h]; exact .tail _ h1
      · rw [Int.max_eq_left (by omega)]; exact .head _
    · rcases List.mem_cons.mp hx with rfl | hx
      · exact Int.le_max_left _ _
      · exact Int.le_trans (h2 x hx) (Int.le_max_right _ _)
theorem maxI_eq {l : List Int} {M : Int} (h1 : M ∈ l) (h2 : ∀ a ∈ l, a ≤ M) : M = maxI l := by
  have hn : l ≠ [] := fun e => by subst e; cases h1
  obtain ⟨h3, h4⟩ := maxI_spec hn
  exact Int.le_antisymm (h4 M h1) (h2 _ h3)
def minPick (n : Nat) (rest held : List Int) : Nat := (held.map (waitOf n rest)).idxOf (maxI (held.map (waitOf n rest)))
def minStep (cap n : Nat) (rest held : List Int) (p : Int) : List Int := if p ∈ held then held else (if held.length = cap then held.eraseIdx (minPick n rest held) else held) ++ [p]
def minHeld (cap : Nat) (row : List Int) : Nat → List Int
  | 0 => []
  | i + 1 => minStep cap row.length (row.drop (i + 1)) (minHeld cap row i) (row.getD i 0)
def minMiss (cap : Nat) (row : List Int) : Nat → Nat
  | 0 => 0
  | i + 1 => if row.getD i 0 ∈ minHeld cap row i then minMiss cap row i else minMiss cap row i + 1
section
open PySem.Calls
variable {prog : Program} {w : World} {A : Around} {E : Value → Shared → Prop} {s : Shared} {h₀ : Heap} {L l : Addr} {m : Str → Option Value} {news : List (Addr × Obj)} {g : Obj → List (Addr × Obj)} {vs : List Value} {qs : List Int} {n : Nat} {k : Int} {t : Tok}
theorem any_mem {k : Int} {qs : List Int} : qs.any (· == k) = decide (k ∈ qs) := by
  by_cases h : k ∈ qs
  · rw [decide_eq_true h]; exact List.any_eq_true.mpr ⟨k, h, by simp⟩
  · rw [decide_eq_false h]
    refine Bool.eq_false_iff.mpr fun x => ?_
    obtain ⟨a, h1, h2⟩ := List.any_eq_true.mp x
    exact h (by simpa using (eq_of_beq h2) ▸ h1)
theorem idx_S {Q : Value → Shared → Prop} (N : News h₀ L s.heap news) (hm : (l, listOf vs.toArray n) ∈ news) (hi : IntsAre vs qs) (hk : k ∈ qs) (hz : qs.length ≤ 900)
    (h : Q (.int ((qs.idxOf k : Nat) : Int) s.toks) { s with toks := s.toks + 1 }) : wpAny (model prog w) A (call (.builtin "list.index") [.ref l, .int k t]) Q E s :=
  kf_index N hm (by simpa using kf_ints_of hi) (by simpa using kf_at_of hi hk) rfl (by have := hi.length; rw [sizeLine_eq]; simp; omega) h
theorem in_S {Q : Value → Shared → Prop} (N : News h₀ L s.heap news) (hm : (l, listOf vs.toArray n) ∈ news) (hi : IntsAre vs qs) (h : Q (.bool (decide (k ∈ qs))) s) :
    wpAny (model prog w) A (compareOp .In (.int k t) (.ref l)) Q E s :=
  in_list_ints (PySem.IsL.isList (n := n) (N _ hm).1) hi (by rw [any_mem]; exact h)
theorem notin_S {Q : Value → Shared → Prop} (N : News h₀ L s.heap news) (hm : (l, listOf vs.toArray n) ∈ news) (hi : IntsAre vs qs) (h : Q (.bool (!decide (k ∈ qs))) s) :
    wpAny (model prog w) A (compareOp .NotIn (.int k t) (.ref l)) Q E s :=
  notin_list_ints (PySem.IsL.isList (n := n) (N _ hm).1) hi (by rw [any_mem]; exact h)
theorem len_S {Q : Value → Shared → Prop} (N : News h₀ L s.heap news) (hm : (l, listOf vs.toArray n) ∈ news) (hi : IntsAre vs qs) (hz : qs.length ≤ 900)
    (h : Q (.int (qs.length : Nat) (s.toks + 1)) { s with toks := s.toks + 1 + 1 }) : wpAny (model prog w) A (call (.builtin "len") [.ref l]) Q E s :=
  len_V N hm (by rw [hi.length]; exact hz) (by rw [hi.length]; exact h)
theorem ints_drop : ∀ {vs : List Value} {qs : List Int} (j : Nat), IntsAre vs qs → IntsAre (vs.drop j) (qs.drop j)
  | _, _, 0, h => h
  | _, _, _ + 1, .nil => .nil
  | _, _, j + 1, .cons _ _ h => ints_drop j h
theorem slice_from {value slice : Expr} {j : Nat} {Q : Value → Shared → Prop} (F : Fr h₀ L s.heap m) (N : News h₀ L s.heap news) (hm : (l, listOf vs.toArray n) ∈ news) (hi : IntsAre vs qs) (hz : qs.length ≤ 900)
    (h : ∀ D vs' h', IntsAre vs' (qs.drop j) → Fr h₀ L h' m → News h₀ L h' ((D, listOf vs'.toArray 0) :: news) → (∀ p ∈ news, p.1 < D) → Q (.ref D) { s with heap := h' })
    (hs : subscripted slice false (.ref l) (.ref s.heap.objs.size) = operate [.ref s.heap.objs.size, .ref l] (getItem (.ref l) (.ref s.heap.objs.size))) (ht : ∀ r, letTemporaryGo value (.ref l) r = pure ()) :
    wpAny (model prog w) A (subscriptTail value slice (.ref l) (.ref s.heap.objs.size)) Q E { s with heap := s.heap.push { cls := .type "slice", data := .fields #[.int ((j : Nat) : Int) t, .none, .none] } } :=
  kms_slice_lit F N (PySem.IsL.isList (n := n) (N _ hm).1) (IsPart.int _ _) IsPart.none (by
    have e : kms_pick vs (some ((j : Nat) : Int)) none = vs.drop j := by
      unfold kms_pick kms_lo kms_hi
      simp only [Int.toNat_natCast]
      rw [if_neg (by omega)]
      by_cases hj : j ≤ vs.length
      · rw [Nat.min_eq_left hj, List.take_of_length_le (by rw [List.length_drop]; omega)]
      · rw [Nat.min_eq_right (by omega), List.drop_length, List.take_nil, List.drop_eq_nil_of_le (by omega)]
    exact e) (fun D h' F' N' l1 => h D _ h' (ints_drop j hi) F' N' l1) hs ht (by have := hi.length; rw [List.size_toArray, sizeLine_eq]; omega)
theorem dli_S {Q : Unit → Shared → Prop} {j : Nat} (F : Fr h₀ L s.heap m) (N : News h₀ L s.heap news) (U : UpdF l (listOf vs.toArray n) news g) (hi : IntsAre vs qs) (hj : j < qs.length) (hz : qs.length ≤ 900)
    (h : ∀ h' vs' n', IntsAre vs' (qs.eraseIdx j) → Fr h₀ L h' m → News h₀ L h' (g (listOf vs'.toArray n')) → Q () { s with heap := h' }) :
    wpAny (model prog w) A (delItem (.ref l) (.int ((j : Nat) : Int) t)) Q E s := by
  obtain ⟨pre, post, rfl, hg, a, b⟩ := U.split
  have hl := hi.length
  have hz' : vs.length ≤ sizeLine := by rw [sizeLine_eq]; omega
  have U' : Upd l (listOf vs.toArray n) (listOf (vs.eraseIdx j).toArray (n + 1)) (pre ++ (l, listOf vs.toArray n) :: post) (pre ++ (l, listOf (vs.eraseIdx j).toArray (n + 1)) :: post) := by
    clear U hg F N h
    induction pre with
    | nil => exact .head b
    | cons p r ih => exact .tail (a p (.head _)) (ih fun q hq => a q (.tail _ hq))
  refine ki_del F N (k := j) ?_ ?_ (by simpa using ki_delL_of (by omega)) U' (by simpa using hz') fun h' F' N' => ?_
  · simp only [Builtin.List.listFitsIndex, Bool.and_eq_true, decide_eq_true_eq]
    omega
  · simp [seqIndex?]; omega
  · exact h h' _ _ (ints_eraseIdx j hi) F' (by rw [hg]; exact N')
end

end Mine

end

section
open PySem PySem.W PyProof.Rows PySem.Spec PyProof.V
set_option Elab.async false
set_option maxRecDepth 100000
set_option maxHeartbeats 8000000
namespace Mine

section
open PySem.Calls
variable {prog : Program} {w : World} {A : Around} {E : Value → Shared → Prop} {s : Shared} {h₀ : Heap} {L l : Addr} {news : List (Addr × Obj)} {vs : List Value} {qs : List Int} {n : Nat} {k : Int} {t : Tok}
theorem in_St {Q : Value → Shared → Prop} (N : News h₀ L s.heap news) (hm : (l, listOf vs.toArray n) ∈ news) (hi : IntsAre vs qs) (hk : k ∈ qs) (h : Q (.bool true) s) : wpAny (model prog w) A (compareOp .In (.int k t) (.ref l)) Q E s :=
  in_S N hm hi (by rw [decide_eq_true hk]; exact h)
theorem in_Sf {Q : Value → Shared → Prop} (N : News h₀ L s.heap news) (hm : (l, listOf vs.toArray n) ∈ news) (hi : IntsAre vs qs) (hk : k ∉ qs) (h : Q (.bool false) s) : wpAny (model prog w) A (compareOp .In (.int k t) (.ref l)) Q E s :=
  in_S N hm hi (by rw [decide_eq_false hk]; exact h)
theorem notin_St {Q : Value → Shared → Prop} (N : News h₀ L s.heap news) (hm : (l, listOf vs.toArray n) ∈ news) (hi : IntsAre vs qs) (hk : k ∈ qs) (h : Q (.bool false) s) : wpAny (model prog w) A (compareOp .NotIn (.int k t) (.ref l)) Q E s :=
  notin_S N hm hi (by rw [decide_eq_true hk]; exact h)
theorem notin_Sf {Q : Value → Shared → Prop} (N : News h₀ L s.heap news) (hm : (l, listOf vs.toArray n) ∈ news) (hi : IntsAre vs qs) (hk : k ∉ qs) (h : Q (.bool true) s) : wpAny (model prog w) A (compareOp .NotIn (.int k t) (.ref l)) Q E s :=
  notin_S N hm hi (by rw [decide_eq_false hk]; exact h)
end

theorem rsize {n : Nat} : Builtin.Range.rangeSize 0 (n : Int) 1 = (n : Int) := by
  rw [rangeSize_pos (by omega) (by omega), Int.ediv_one]; omega
theorem rsmall {n : Nat} (h : n ≤ 900) : Builtin.Range.small 0 (n : Int) 1 = true := by
  unfold Builtin.Range.small
  rw [rsize]
  have h1 : Builtin.Range.rangeFitsLong 0 = true := by decide
  have h2 : Builtin.Range.rangeFitsLong 1 = true := by decide
  have h3 : Builtin.Range.rangeFitsLong (n : Int) = true := by
    unfold Builtin.Range.rangeFitsLong
    simp only [Bool.and_eq_true, decide_eq_true_eq]
    omega
  rw [if_pos (by decide), show (n : Int) + (1 - 1) = n by omega, h1, h2, h3]
  simp

theorem get_a {a b : Nat} {P : Prop} (_ : a < b ∧ P) : ∃ z : Addr, z = b := ⟨b, rfl⟩

theorem minPick_lt {n : Nat} {rest held : List Int} (h : held ≠ []) : minPick n rest held < held.length := by
  have h1 := (maxI_spec (l := held.map (waitOf n rest)) (by simpa using h)).1
  have := List.idxOf_lt_length_of_mem h1
  rwa [List.length_map] at this
theorem minStep_length {cap n : Nat} {rest held : List Int} {p : Int} (h : held.length ≤ cap) (c1 : 1 ≤ cap) : (minStep cap n rest held p).length ≤ cap := by
  unfold minStep
  split
  · exact h
  · split
    · rename_i h2
      have hne : held ≠ [] := fun e => by subst e; simp at h2; omega
      have := minPick_lt (n := n) (rest := rest) hne
      rw [List.length_append, List.length_eraseIdx_of_lt this, List.length_singleton]; omega
    · rw [List.length_append, List.length_singleton]; omega
theorem minHeld_length {cap : Nat} {row : List Int} (c1 : 1 ≤ cap) : ∀ i, (minHeld cap row i).length ≤ cap
  | 0 => Nat.zero_le _
  | i + 1 => minStep_length (minHeld_length c1 i) c1

section
local macro_rules | `(tactic| k_room) => `(tactic| ((try simp only [depth_under_make, depth_under_kw, depth_in1, depth_deeper, depth_caller]); (simp only [recursionLimit] at *); omega))
local macro_rules | `(tactic| k_all) => `(tactic| assumption)
local macro_rules | `(tactic| walk_at "exec For Name Name cons nil") => `(tactic| (k_here; k_dflt (refine wpAny_For ?_ (by intro _; rfl))))
local macro_rules | `(tactic| walk_at "pyIter ref") => `(tactic| ((with_reducible show wpAny _ _ (pyIter (Value.ref _)) _ _ _); refine stay ?_))
local macro_rules | `(tactic| walk_at "eval Name") => `(tactic| (k_here; (with_reducible show wpAny _ _ (eval (Expr.Name _ _) (envOfC _ _ _ _ _)) _ _ _); k_dflt (first
  | (refine' nameX_L ?F ?v ?_ ?a ?b; (case F => k_asm); (case a => rfl); (case b => rfl); (case v => rfl); k_whole)
  | (refine' nameX_C ?N ?c ?m ?d ?_ ?a ?b; (case a => rfl); (case b => rfl); (case N => k_asm); (case c => rfl); (case m => k_mem); (case d => k_asm); k_whole)
  | (refine' nameX_K ?F ?X ?T ?e ?_ ?a ?b; (case F => k_asm); (case X => k_asm); (case T => k_asm); (case a => rfl); (case b => rfl); (case e => k_is); k_whole)
  | (refine' nameX_B ?F ?X ?T ?e ?v ?n ?_ ?a ?b; (case F => k_asm); (case X => k_asm); (case T => k_asm); (case a => rfl); (case b => rfl); (case e => k_is); (case v => boot_fast); (case n => decide); k_whole))))
local macro_rules | `(tactic| walk_at "exec For Name Call cons nil") => `(tactic| (k_here; k_dflt (refine wpAny_For ?_ (by intro _; rfl))))
local macro_rules | `(tactic| walk_at "call type:range") => `(tactic| (k_here; (show wpAny _ _ (call (Value.type _) [Value.int _ _]) _ _ _); (rename Fr _ _ _ _ => F'); (rename News _ _ _ _ => N'); (with_unfolding_all refine range1_rows F' N' ?_); intro _ _ _ _ _ _ _ _ _))
local macro_rules | `(tactic| walk_at "exec Assign cons ListComp") => `(tactic| (k_here; k_dflt (refine LCg.Assign_ListComp_U (F₀ := by k_asm) (by rfl) (by with_unfolding_all rfl) (by with_unfolding_all rfl) (by decide) (by rfl) (by decide) (by rfl) (by rfl) (by rfl) ?_)))
local macro_rules | `(tactic| walk_at "CompSrc") => `(tactic| (k_here; k_dflt (refine LCg.CompSrc.ledger rfl (by k_asm) (by k_asm) (by k_mem) (by rw [List.size_toArray, sizeLine_eq]; omega) ?_); intro g'; refine stay ?_))
local macro_rules | `(tactic| walk_at "subscriptTail Name Name ref int") => `(tactic| (k_here; (with_reducible show wpAny _ _ (subscriptTail _ _ (Value.ref _) (Value.int _ _)) _ _ _); k_dflt (refine' item_S ?N ?m ?i ?h0 ?x ?z ?_; (case N => k_asm); (case m => k_mem); (case i => assumption); (case h0 => omega); (case x => assumption); (case z => assumption); k_whole); intro t'))
local macro_rules | `(tactic| walk_at "subscriptTail Name Slice ref ref") => `(tactic| (k_here; (with_reducible show wpAny _ _ (subscriptTail _ (PySem.Expr.Slice _ none none _) (Value.ref _) (Value.ref _)) _ _ _); k_dflt (refine' slice_from ?F ?N ?m ?i ?z ?_ ?s ?t; (case F => k_asm); (case N => k_asm); (case m => k_mem); (case i => assumption); (case z => assumption); (case s => with_unfolding_all rfl); (case t => kmk_pure)); intro D' vs' h' hi' F' N' l1; (try k_lt l1); (try k_sweep)))
local macro_rules | `(tactic| walk_at "call builtin:len") => `(tactic| (k_here; (show wpAny _ _ (call (Value.builtin _) [Value.ref _]) _ _ _); k_dflt (refine' len_S ?N ?m ?i ?z ?_; (case N => k_asm); (case m => k_mem); (case i => assumption); (case z => assumption); k_whole)))
local macro_rules | `(tactic| walk_at "compareOp NotIn int ref") => `(tactic| (k_here; (with_reducible show wpAny _ _ (compareOp CmpOp.NotIn (Value.int _ _) (Value.ref _)) _ _ _); k_dflt (first | (refine' notin_St ?N ?m ?i ?k ?_; (case N => k_asm); (case m => k_mem); (case i => assumption); (case k => assumption); k_whole) | (refine' notin_Sf ?N ?m ?i ?k ?_; (case N => k_asm); (case m => k_mem); (case i => assumption); (case k => assumption); k_whole))))
local macro_rules | `(tactic| walk_at "compareOp In int ref") => `(tactic| (k_here; (with_reducible show wpAny _ _ (compareOp CmpOp.In (Value.int _ _) (Value.ref _)) _ _ _); k_dflt (first | (refine' in_St ?N ?m ?i ?k ?_; (case N => k_asm); (case m => k_mem); (case i => assumption); (case k => assumption); k_whole) | (refine' in_Sf ?N ?m ?i ?k ?_; (case N => k_asm); (case m => k_mem); (case i => assumption); (case k => assumption); k_whole))))
local macro_rules | `(tactic| walk_at "call builtin:list.index") => `(tactic| (k_here; (show wpAny _ _ (call (Value.builtin _) [Value.ref _, Value.int _ _]) _ _ _); k_dflt (refine' idx_S ?N ?m ?i ?k ?z ?_; (case N => k_asm); (case m => k_mem); (case i => assumption); (case k => assumption); (case z => first | assumption | omega); k_whole)))
local macro_rules | `(tactic| walk_at "call builtin:list.append") => `(tactic| (k_here; (show wpAny _ _ (call (Value.builtin _) [Value.ref _, Value.int _ _]) _ _ _); k_dflt (refine' app_S ?F ?N ?U ?i ?z ?_; (case F => k_asm); (case N => k_asm); (case U => k_updF); (case i => assumption); (case z => first | assumption | omega); k_whole); intro h' vs' n' hi' F' N'; (try dsimp only at N'); (try k_sweep)))
local macro_rules | `(tactic| walk_at "delItem ref int") => `(tactic| (k_here; (with_reducible show wpAny _ _ (delItem (Value.ref _) (Value.int _ _)) _ _ _); k_dflt (refine' dli_S ?F ?N ?U ?i ?j ?z ?_; (case F => k_asm); (case N => k_asm); (case U => k_updF); (case i => assumption); (case j => assumption); (case z => assumption); k_whole); intro h' vs' n' hi' F' N'; (try dsimp only at N'); (try k_sweep)))
local macro_rules | `(tactic| walk_at "call builtin:max") => `(tactic| (k_here; (show wpAny _ _ (call (Value.builtin _) [Value.ref _]) _ _ _); refine stay ?_))

theorem least_C {w : World} {mean : ExcName → Option Value} {mg mb : Str → Option Value} {A₀ A : Around} {base h₀ : Heap} {outer : List Env} {env : Env} {L : Addr} {m : Str → Option Value} {s : Shared} {rest : List (Addr × Obj)} {Q E : Value → Shared → Prop}
    {cap : Nat} {rl : Addr} {vs : List Value} {ns : List Int} {n : Nat} {t : Tok}
    (B : Below A₀ base outer h₀) (F : Fr h₀ L s.heap m) (X : (hd.heap_39 w.params).In h₀) (T : Top hd.view_39 (looseW hd.view_39 []) mean mg mb h₀)
    (XB : (Mine.hd.heap_39 w.params).In base) (TB : Top Mine.hd.view_39 (looseW Mine.hd.view_39 []) mean mg mb base) (DD : KtsDicts (outer.filterMap (·.frame)) h₀)
    (hA : A.frames = some (env :: outer)) (he : env.frame = some L) (hk : env.scope.kind = .function) (hdp : A.depth + 80 < recursionLimit) (hun : A.units + 300 < cLine)
    (hh : A.handled = none) (N : News h₀ L s.heap rest) (hrl : (rl, listOf vs.toArray n) ∈ rest) (hi : IntsAre vs ns) (hz : ns.length ≤ 900) (c1 : 1 ≤ cap) (c2 : cap ≤ 100)
    (h : ∀ h' tk' h₀' tv', KtsTurn (outer.filterMap (·.frame)) h₀ h₀' → Fr h₀' L h' m → News h₀' L h' rest → Below A₀ base outer h₀' → (Mine.hd.heap_39 w.params).In h₀' → Top Mine.hd.view_39 (looseW Mine.hd.view_39 []) mean mg mb h₀' → KtsDicts (outer.filterMap (·.frame)) h₀' → Q (.int (minMiss cap ns ns.length) tv') { s with heap := h', toks := tk' }) :
    wpAny (model PySem.Challenge.rw_bw0012_01.row.prog w) A (call (.ref 178) [.ref rl, .int cap t]) Q E s := by
  have N := news_dup N hrl
  obtain ⟨ahd, adp, afr, agd, aun⟩ := A
  dsimp only at hA hdp hun hh
  subst hh
  subst hA
  revert X
  k_fill
  intro X
  refine wpAny_call ?_
  k_dflt (refine' callUC ?k1 ?k2 ?k3 ?k4 ?k5 ?kXB ?kTB ?kD ?kA ?kF ?kK ?k6 ?k7 ?k8 ?k9 ?kB ?kN ?_ ?c2 ?c3 ?c4; (case kA => exact rfl); (case kF => exact he); (case kK => exact hk); (case k1 => k_asm); (case k2 => k_asm); (case k3 => k_asm); (case k4 => k_asm); (case k5 => k_asm); (case kXB => exact XB); (case kTB => exact TB); (case kD => exact DD); (case k6 => k_is); (case k7 => k_is); (case k8 => k_room); (case k9 => exact BindsTo.of_eq rfl); (case kB => exact rfl); (case kN => decide +kernel); (case c2 => exact rfl); (case c3 => exact rfl); (case c4 => exact rfl); k_whole; intro g' L' h' tk' cells' FG' F' N' Y' B' X' T' D' l1; (try k_lt l1); k_cells Y'; (try simp only [List.cons_append, List.nil_append] at N'); (try dsimp only); (try k_fold))
  rename_i oR oW dR dW
  have F0 : Fr g' L' h' (fun y => if y = "places" then some (.int cap t) else none) := by with_unfolding_all exact F'
  have hR : oR.data = .cell none := by with_unfolding_all exact dR
  have hW : oW.data = .cell (some (.ref rl)) := by with_unfolding_all exact dW
  clear F' dR dW
  k_steps
  (rename IsRange _ _ _ _ _ _ _ _ => R1); (rename Fr _ _ _ _ => F1); (rename News _ _ _ _ => N1)
  rename (L' + 1 + 1 < _ ∧ _) => l2
  obtain ⟨hl, rfl⟩ := get_a l2
  refine unstay (forRange_T (n := ns.length) rfl rfl rfl R1 ?hs ?hn (fun i m news => m "places" = some (.int cap t) ∧ m "held" = some (.ref hl) ∧ (∃ tl, m "laid" = some (.int (minMiss cap ns i : Nat) tl)) ∧ ∃ hvs hn oR v, news = (hl, listOf hvs.toArray hn) :: (L' + 1 + 1, oR) :: (L' + 1, oW) :: (rl, listOf vs.toArray n) :: rest ∧ IntsAre hvs (minHeld cap ns i) ∧ oR.data = .cell v)
    ⟨B', X', T', D', KtsTurn.refl⟩ F1 N1 ⟨rfl, rfl, ⟨_, rfl⟩, [], _, oR, none, rfl, .nil, hR⟩ ?_ ?_)
  · exact rsmall hz
  · exact rsize
  · intro i t2 I oI g3 m3 news3 h3 tk3 hi5 hJ off G3 F2 N3
    obtain ⟨e1, e2, ⟨tl, e3⟩, hvs, hn, oR, v, rfl, hiH, hR⟩ := hJ
    have F3 : Fr g3 L' h3 (fun y => if y = "laid" then some (.int (minMiss cap ns i : Nat) tl) else if y = "held" then some (.ref hl) else if y = "places" then some (.int cap t) else if y = "k" then some (.int (i : Nat) t2) else m3 y) := fr_pin (fr_pin (fr_pin F2 (by (repeat refine (if_neg (by decide)).trans ?_); exact e1)) (by (repeat refine (if_neg (by decide)).trans ?_); exact e2)) (by (repeat refine (if_neg (by decide)).trans ?_); exact e3)
    clear F2
    obtain ⟨B3, X3, T3, DD3, Tn3⟩ := G3
    have hx : ns[((i : Nat) : Int).toNat]? = some (ns.getD i 0) := by
      rw [Int.toNat_natCast, List.getD_eq_getElem?_getD, List.getElem?_eq_getElem hi5]; rfl
    have hstep : minHeld cap ns (i + 1) = minStep cap ns.length (ns.drop (i + 1)) (minHeld cap ns i) (ns.getD i 0) := rfl
    have hmiss : minMiss cap ns (i + 1) = if ns.getD i 0 ∈ minHeld cap ns i then minMiss cap ns i else minMiss cap ns i + 1 := rfl
    have hlen := minHeld_length (row := ns) c1 i
    generalize minHeld cap ns i = H at hiH hstep hmiss hlen
    generalize minMiss cap ns i = M at F3 hmiss
    generalize ns.getD i 0 = p at hx hstep hmiss
    have hlz : H.length ≤ 900 := by omega
    have hvl : hvs.length ≤ 900 := by rw [hiH.length]; exact hlz
    have hI1 : @Ne Nat hl I := off _ (.head _)
    have hI2 : @Ne Nat (L' + 1 + 1) I := off _ (.tail _ (.head _))
    have hI3 : @Ne Nat (L' + 1) I := off _ (.tail _ (.tail _ (.head _)))
    have hI4 : @Ne Nat rl I := off _ (.tail _ (.tail _ (.tail _ (.head _))))
    have hrI : ∀ q ∈ rest, q.1 ≠ I := fun q hq => off q (.tail _ (.tail _ (.tail _ (.tail _ hq))))
    have offN : ∀ o1 o2, ∀ q ∈ (hl, o1) :: (L' + 1 + 1, o2) :: (L' + 1, oW) :: (rl, listOf vs.toArray n) :: rest, q.1 ≠ I := by
      intro o1 o2 q hq
      rcases List.mem_cons.mp hq with rfl | hq
      · exact hI1
      rcases List.mem_cons.mp hq with rfl | hq
      · exact hI2
      · exact off q (.tail _ (.tail _ hq))
    have hr1 : ∀ q ∈ rest, q.1 ≠ hl := fun q hq => allLt_ne l2.2.2.2 q hq
    have hr2 : ∀ q ∈ rest, q.1 ≠ L' + 1 + 1 := fun q hq => by have := allLt_mem l1.2 q hq; show @Ne Nat q.1 (L' + 1 + 1); omega
    by_cases hp : p ∈ H
    · rw [minStep, if_pos hp] at hstep
      rw [if_pos hp] at hmiss
      k_steps
      (rename Fr _ _ _ _ => F9); (rename News _ _ _ _ => N9)
      exact ⟨g3, _, _, _, _, rfl, ⟨B3, X3, T3, DD3, Tn3⟩, F9, N9, off, rfl, rfl, ⟨_, by rw [hmiss]; rfl⟩, _, _, _, _, rfl, by rw [hstep]; exact hiH, hR⟩
    · rw [minStep, if_neg hp] at hstep
      rw [if_neg hp] at hmiss
      k_steps
      · rename ((H.length : Int) = (cap : Int)) => hfull
        have hfull' : H.length = cap := by exact_mod_cast hfull
        rw [if_pos hfull'] at hstep
        (rename IntsAre _ (List.drop _ _) => hiR)
        have hdl : (ns.drop (i + 1)).length ≤ 900 := by rw [List.length_drop]; omega
        refine unstay (compRest_ind2 (fun j ys tl => tl = [] ∧ IntsAre ys ((H.take j).map (waitOf ns.length (ns.drop (i + 1))))) ⟨rfl, by simp only [List.take_zero, List.map_nil]; exact .nil⟩ (fun tl => src_append (.inr ⟨_, by k_dflt k_mem, rfl, _, rfl⟩)) ?_ ?_)
        · intro j ys tl v I' oI' C' oC' D' m' h' tk' E' hlt' hInv' hv' hC' hx' F' N' offn off' ne'
          obtain ⟨rfl, hys⟩ := hInv'
          obtain ⟨x, tx, rfl, hxj⟩ := hiH.at j v (by simpa using hv')
          simp only [List.append_nil] at N'
          have hne : ∀ y : Value, IntsAre [y] [waitOf ns.length (ns.drop (i + 1)) x] → IntsAre (ys ++ [y]) ((H.take (j + 1)).map (waitOf ns.length (ns.drop (i + 1)))) := fun y hy => by
            rw [List.take_add_one, hxj, List.map_append]
            exact hys.append hy
          by_cases hxr : x ∈ ns.drop (i + 1)
          · have hw : waitOf ns.length (ns.drop (i + 1)) x = (((ns.drop (i + 1)).idxOf x : Nat) : Int) := if_pos hxr
            rw [hw] at hne
            k_steps
            (rename Fr _ _ _ _ => F5); (rename News _ _ _ _ => N5)
            exact ⟨_, _, [], rfl, F5, by rw [List.append_nil]; exact N5, trivial, rfl, hne _ (.cons _ _ .nil)⟩
          · have hw : waitOf ns.length (ns.drop (i + 1)) x = ((ns.length : Nat) : Int) := if_neg hxr
            rw [hw] at hne
            k_steps
            (rename Fr _ _ _ _ => F5); (rename News _ _ _ _ => N5)
            exact ⟨_, _, [], rfl, F5, by rw [List.append_nil]; exact N5, trivial, rfl, hne _ (.cons _ _ .nil)⟩
        · intro ys tl hInv' D9 h9 tk9 F9 N9 o9
          obtain ⟨rfl, hys⟩ := hInv'
          rw [show hvs.toArray.size = H.length by rw [List.size_toArray, hiH.length], List.take_length] at hys
          simp only [List.append_nil, LCg.Off1] at N9 o9
          obtain ⟨b1, b2, b3, b4, b5, b6, b7⟩ := o9
          have hylen : (H.map (waitOf ns.length (ns.drop (i + 1)))).length = H.length := List.length_map _
          have hyz : (H.map (waitOf ns.length (ns.drop (i + 1)))).length ≤ 900 := by omega
          k_steps
          (rename Fr _ _ _ _ => F5); (rename News _ _ _ _ => N5)
          refine unstay (kso_max F5 N5 (PySem.IsL.isList (n := ys.length) (N5 (D9, listOf ys.toArray ys.length) (.head _)).1) hys (by omega) rfl (fun h6 M6 t6 tk6 F6 N6 hM1 hM2 => ?_))
          have hMM := maxI_eq hM1 hM2
          dsimp only
          have hpk : (H.map (waitOf ns.length (ns.drop (i + 1)))).idxOf M6 < H.length := by
            have := List.idxOf_lt_length_of_mem hM1
            omega
          have hpk' : (H.map (waitOf ns.length (ns.drop (i + 1)))).idxOf M6 = minPick ns.length (ns.drop (i + 1)) H := by rw [hMM]; rfl
          rw [← hpk'] at hstep
          have hez : (H.eraseIdx ((H.map (waitOf ns.length (ns.drop (i + 1)))).idxOf M6)).length ≤ 1000 := by rw [List.length_eraseIdx_of_lt hpk]; omega
          clear F5 N5
          k_steps
          (rename Fr _ _ _ _ => F9); (rename News _ _ _ _ => N9); (rename IntsAre _ (_ ++ _) => hiN)
          exact ⟨g3, _, _, _, _, rfl, ⟨B3, X3, T3, DD3, Tn3⟩, F9, fun q hq => N9 q (.tail _ (.tail _ hq)), offN _ _, rfl, rfl, ⟨_, by rw [hmiss]; rfl⟩, _, _, _, _, rfl, by rw [hstep]; exact hiN, by assumption⟩
      · rename (¬ (H.length : Int) = (cap : Int)) => hfull
        have hfull' : ¬ H.length = cap := fun e => hfull (by exact_mod_cast e)
        rw [if_neg hfull'] at hstep
        (rename Fr _ _ _ _ => F9); (rename News _ _ _ _ => N9); (rename IntsAre _ (H ++ _) => hiN)
        exact ⟨g3, _, _, _, _, rfl, ⟨B3, X3, T3, DD3, Tn3⟩, F9, N9, offN _ _, rfl, rfl, ⟨_, by rw [hmiss]; rfl⟩, _, _, _, _, rfl, by rw [hstep]; exact hiN, hR⟩
  · intro g3 m3 news3 h3 tk3 hJ G3 F2 N3
    obtain ⟨e1, e2, ⟨tl, e3⟩, hvs, hn, oR, v, rfl, hiH, hR⟩ := hJ
    have F3 := fr_pin F2 e3
    obtain ⟨B3, X3, T3, DD3, Tn3⟩ := G3
    clear F2
    k_steps
    (rename Fr _ _ _ _ => F9); (rename News _ _ _ _ => N9)
    exact ⟨_, _, _, _, Tn3, F9, news_sub N9 (fun p hp => .tail _ (.tail _ (.tail _ (.tail _ hp)))), fun h₀' T1 F1 N1 B1 X1 P1 D1 => h _ _ _ _ T1 F1 N1 B1 X1 P1 D1⟩

end
end Mine

end

section
open PySem PySem.W PyProof.Rows PySem.Spec PyProof.V
set_option Elab.async false
namespace Mine
def deedOf (n : Int) : Int := (n.fdiv 7).fmod 4
def runQ (ns row : List Int) (cs : List Cch) : Nat → List (List Int)
  | 0 => List.replicate 5 []
  | i + 1 => stepAll (deedOf (ns.getD i 0)) (row.getD i 0) cs (runQ ns row cs i)
theorem deedOf_lo (n : Int) : 0 ≤ deedOf n := by
  unfold deedOf
  rw [Int.fmod_eq_emod_of_nonneg _ (by omega)]; omega
theorem deedOf_hi (n : Int) : deedOf n < 4 := by
  unfold deedOf
  rw [Int.fmod_eq_emod_of_nonneg _ (by omega)]; omega
theorem erase_pre {p q : List Int} {k : Int} (hn : (p ++ q).Nodup) : q.erase k <:+ (p ++ q).erase k := by
  rw [List.nodup_append] at hn
  by_cases hp : k ∈ p
  · rw [List.erase_append_left _ hp, List.erase_of_not_mem (fun h => hn.2.2 k hp k h rfl)]
    exact ⟨_, rfl⟩
  · rw [List.erase_append_right _ hp]
    exact ⟨_, rfl⟩
theorem lru_suf {c : Nat} {q q' : List Int} {k : Int} (hs : q <:+ q') (hn : q'.Nodup) (hl : q.length ≤ c) : lruStep c q k <:+ lruStep (c + 1) q' k := by
  obtain ⟨p, rfl⟩ := hs
  have app : ∀ {a b : List Int}, a <:+ b → a ++ [k] <:+ b ++ [k] := fun {a b} ⟨r, hr⟩ => ⟨r, by rw [← hr, List.append_assoc]⟩
  by_cases hk : k ∈ q
  · rw [lruStep_in hk, lruStep_in (List.mem_append_right _ hk)]
    exact app (erase_pre hn)
  · have hq : (if q.length = c then q.tail else q) <:+ q := by
      split
      · exact List.tail_suffix q
      · exact List.suffix_refl q
    have e : lruStep c q k = (if q.length = c then q.tail else q) ++ [k] := if_neg hk
    rw [e]
    by_cases hk' : k ∈ p ++ q
    · rw [lruStep_in hk']
      refine app (hq.trans ?_)
      have := erase_pre (k := k) hn
      rwa [List.erase_of_not_mem hk] at this
    · by_cases hf : (p ++ q).length = c + 1
      · rw [lruStep_full hk' hf]
        refine app (hq.trans ?_)
        cases p with
        | nil => rw [List.nil_append] at hf; omega
        | cons a p => exact ⟨p, rfl⟩
      · rw [lruStep_new hk' hf]
        exact app (hq.trans ⟨p, rfl⟩)
theorem lru_anti_run {c : Nat} (c1 : 1 ≤ c) : ∀ (row q q' : List Int), q <:+ q' → q'.Nodup → q.length ≤ c → q'.length ≤ c + 1 → lruMiss (c + 1) q' row ≤ lruMiss c q row
  | [], _, _, _, _, _, _ => Nat.le_refl _
  | k :: r, q, q', hs, hn, hl, hl' => by
    rw [lruMiss, lruMiss]
    have ih := lru_anti_run c1 r (lruStep c q k) (lruStep (c + 1) q' k) (lru_suf hs hn hl) (lruStep_nodup hn) (lruStep_length hl c1) (lruStep_length hl' (by omega))
    by_cases hk : k ∈ q
    · rw [if_pos hk, if_pos (hs.subset hk)]; omega
    · rw [if_neg hk]; split <;> omega
theorem lru_anti {c : Nat} (c1 : 1 ≤ c) (row : List Int) : lruMiss (c + 1) [] row ≤ lruMiss c [] row :=
  lru_anti_run c1 row [] [] (List.suffix_refl _) List.nodup_nil (Nat.zero_le _) (Nat.zero_le _)
/-- queues of caches with 1, 2, .. places -/
structure Chain (qss : List (List Int)) : Prop where
  nd : ∀ (i : Nat) q, qss[i]? = some q → q.Nodup
  len : ∀ (i : Nat) q, qss[i]? = some q → q.length ≤ i + 1
  suf : ∀ (i : Nat) q q', qss[i]? = some q → qss[i + 1]? = some q' → q <:+ q'
theorem stepAll_get {d k : Int} {cs : List Cch} {qss : List (List Int)} (hcap : ∀ (j : Nat) c, cs[j]? = some c → c.cap = j + 1) {i : Nat} {q : List Int} (h : (stepAll d k cs qss)[i]? = some q) : ∃ q0, qss[i]? = some q0 ∧ q = stepD d (i + 1) k q0 := by
  unfold stepAll at h
  rw [List.getElem?_zipWith] at h
  cases hc : cs[i]? with
  | none => rw [hc] at h; simp at h
  | some c =>
    cases hq : qss[i]? with
    | none => rw [hc, hq] at h; simp at h
    | some q0 =>
      rw [hc, hq] at h
      refine ⟨q0, rfl, ?_⟩
      have := Option.some.inj h
      rw [← this, hcap i c hc]
theorem chain_zero : Chain (List.replicate 5 []) := by
  have e : ∀ (i : Nat) (q : List Int), (List.replicate 5 ([] : List Int))[i]? = some q → q = [] := fun i q h => by
    rw [List.getElem?_replicate] at h
    split at h
    · exact (Option.some.inj h).symm
    · cases h
  exact ⟨fun i q h => by rw [e i q h]; exact List.nodup_nil, fun i q h => by rw [e i q h]; exact Nat.zero_le _, fun i q q' h h' => by rw [e i q h, e _ q' h']; exact List.suffix_refl _⟩
theorem chain_step {d k : Int} {cs : List Cch} {qss : List (List Int)} (hcap : ∀ (j : Nat) c, cs[j]? = some c → c.cap = j + 1) (C : Chain qss) : Chain (stepAll d k cs qss) := by
  refine ⟨fun i q h => ?_, fun i q h => ?_, fun i q q' h h' => ?_⟩
  · obtain ⟨q0, h0, rfl⟩ := stepAll_get hcap h
    unfold stepD
    split
    · exact (C.nd i q0 h0).erase k
    · exact lruStep_nodup (C.nd i q0 h0)
  · obtain ⟨q0, h0, rfl⟩ := stepAll_get hcap h
    unfold stepD
    split
    · exact Nat.le_trans List.length_erase_le (C.len i q0 h0)
    · exact lruStep_length (C.len i q0 h0) (by omega)
  · obtain ⟨q0, h0, rfl⟩ := stepAll_get hcap h
    obtain ⟨q1, h1, rfl⟩ := stepAll_get hcap h'
    have hs := C.suf i q0 q1 h0 h1
    have hn := C.nd _ q1 h1
    unfold stepD
    split
    · obtain ⟨p, rfl⟩ := hs
      exact erase_pre hn
    · exact lru_suf hs hn (C.len i q0 h0)
theorem chain_good {d k : Int} {cs : List Cch} {qss : List (List Int)} (hcap : ∀ (j : Nat) c, cs[j]? = some c → c.cap = j + 1) (C : Chain qss) (h4 : d < 4) : Good d k qss (stepAll d k cs qss) := by
  have C' := chain_step (d := d) (k := k) hcap C
  refine ⟨C'.len, fun i q h => ?_, fun i q h h3 => ?_, C'.suf, fun i q q' h h' hk => (C.suf i q q' h h').subset hk⟩
  · obtain ⟨q0, h0, rfl⟩ := stepAll_get hcap h
    by_cases h3 : d = 3
    · rw [stepD, if_pos h3]
      constructor
      · intro hm
        rw [(C.nd i q0 h0).mem_erase_iff] at hm
        exact absurd rfl hm.1
      · intro h; omega
    · rw [stepD, if_neg h3]
      exact ⟨fun _ => by omega, fun _ => mem_lruStep⟩
  · obtain ⟨q0, h0, rfl⟩ := stepAll_get hcap h
    rw [stepD, if_neg (by omega)]
    obtain ⟨r, hr⟩ := lruStep_last (cap := i + 1) (q := q0) (k := k)
    rw [hr, List.getLast?_append]; rfl
theorem runQ_chain {ns row : List Int} {cs : List Cch} (hcap : ∀ (j : Nat) c, cs[j]? = some c → c.cap = j + 1) : ∀ i, Chain (runQ ns row cs i)
  | 0 => chain_zero
  | i + 1 => chain_step hcap (runQ_chain hcap i)
theorem runQ_good {ns row : List Int} {cs : List Cch} (_h5 : cs.length = 5) (hcap : ∀ (j : Nat) c, cs[j]? = some c → c.cap = j + 1) (i : Nat) :
    Good (deedOf (ns.getD i 0)) (row.getD i 0) (runQ ns row cs i) (stepAll (deedOf (ns.getD i 0)) (row.getD i 0) cs (runQ ns row cs i)) :=
  chain_good hcap (runQ_chain hcap i) (deedOf_hi _)
end Mine

end

section
open PySem PySem.W PyProof.Rows PySem.Spec PyProof.V
set_option Elab.async false
namespace Mine
def minMissL (cap n : Nat) : List Int → List Int → Nat
  | _, [] => 0
  | B, p :: r => (if p ∈ B then 0 else 1) + minMissL cap n (minStep cap n r B p) r
theorem minMiss_eq {cap : Nat} {row : List Int} : ∀ j i, i + j = row.length → minMiss cap row row.length = minMiss cap row i + minMissL cap row.length (minHeld cap row i) (row.drop i)
  | 0, i, h => by
    have : i = row.length := by omega
    subst this
    rw [List.drop_length]; rfl
  | j + 1, i, h => by
    have hi : i < row.length := by omega
    have e : row.drop i = row.getD i 0 :: row.drop (i + 1) := by
      rw [List.drop_eq_getElem_cons hi, List.getD_eq_getElem?_getD, List.getElem?_eq_getElem hi]; rfl
    rw [minMiss_eq j (i + 1) (by omega), e, minMissL, minMiss, minHeld]
    split <;> omega
theorem minMiss_list (cap : Nat) (row : List Int) : minMiss cap row row.length = minMissL cap row.length [] row := by
  have := minMiss_eq (cap := cap) (row := row) row.length 0 (by omega)
  rw [this, minMiss, minHeld, List.drop_zero]; omega

/-! the ratio -/
def phi (P : List Int) : Nat → List Int → Nat
  | _, [] => 0
  | i, x :: Q => (if x ∈ P then 0 else i) + phi P (i + 1) Q
def outs (P Q : List Int) : Nat := Q.countP (fun x => !decide (x ∈ P))
def ins (P Q : List Int) : Nat := Q.countP (fun x => decide (x ∈ P))
theorem ins_outs (P : List Int) : ∀ Q : List Int, ins P Q + outs P Q = Q.length
  | [] => rfl
  | x :: Q => by
    have := ins_outs P Q
    unfold ins outs at *
    rw [List.countP_cons, List.countP_cons, List.length_cons]
    by_cases h : x ∈ P <;> simp [h] <;> omega
def triF : Nat → Nat → Nat
  | _, 0 => 0
  | i, r + 1 => i + triF (i + 1) r
theorem triF_i : ∀ {r i j : Nat}, i ≤ j → triF i r ≤ triF j r
  | 0, _, _, _ => Nat.le_refl _
  | r + 1, i, j, h => by
    rw [triF, triF]
    have := triF_i (r := r) (i := i + 1) (j := j + 1) (by omega)
    omega
theorem triF_r {i : Nat} : ∀ {r r' : Nat}, r ≤ r' → triF i r ≤ triF i r' := by
  intro r
  induction r generalizing i with
  | zero => intro r' _; exact Nat.zero_le _
  | succ r ih =>
    intro r' h
    cases r' with
    | zero => omega
    | succ r' =>
      rw [triF, triF]
      have := ih (i := i + 1) (r' := r') (by omega)
      omega
theorem phi_lo (P : List Int) : ∀ (Q : List Int) (i : Nat), triF i (outs P Q) ≤ phi P i Q
  | [], _ => Nat.le_refl _
  | x :: Q, i => by
    have ih := phi_lo P Q (i + 1)
    unfold outs at *
    rw [List.countP_cons, phi]
    by_cases h : x ∈ P
    · simp only [h, decide_true, Bool.not_true, Bool.false_eq_true, if_false, if_true, Nat.add_zero, Nat.zero_add]
      exact Nat.le_trans (triF_i (Nat.le_succ i)) ih
    · simp only [h, decide_false, Bool.not_false, if_false, if_true]
      rw [triF]; omega
theorem phi_in {P : List Int} : ∀ (Q : List Int) (i : Nat), (∀ x ∈ Q, x ∈ P) → phi P i Q = 0
  | [], _, _ => rfl
  | x :: Q, i, h => by
    rw [phi, if_pos (h x (.head _)), phi_in Q (i + 1) (fun y hy => h y (.tail _ hy))]
theorem phi_app {P : List Int} : ∀ (A B : List Int) (i : Nat), phi P i (A ++ B) = phi P i A + phi P (i + A.length) B
  | [], _, i => by rw [List.nil_append, List.length_nil, Nat.add_zero]; exact (Nat.zero_add _).symm
  | x :: A, B, i => by
    rw [List.cons_append, phi, phi, phi_app A B (i + 1), List.length_cons, show i + 1 + A.length = i + (A.length + 1) by omega]; omega
theorem phi_le_tri (P : List Int) : ∀ (A : List Int) (i : Nat), phi P i A ≤ triF i A.length
  | [], _ => Nat.le_refl _
  | x :: A, i => by
    rw [phi, List.length_cons, triF]
    have := phi_le_tri P A (i + 1)
    split <;> omega
theorem phi_succ (P : List Int) : ∀ (Q : List Int) (i : Nat), phi P (i + 1) Q = phi P i Q + outs P Q
  | [], _ => rfl
  | x :: Q, i => by
    have ih := phi_succ P Q (i + 1)
    unfold outs at *
    rw [phi, phi, ih, List.countP_cons]
    by_cases h : x ∈ P
    · simp [h]
    · simp [h]; omega
/-- the other moves a key out -/
theorem phi_swap {P P' : List Int} {x : Int} (hP : ∀ y ∈ P, y ≠ x → y ∈ P') : ∀ (Q : List Int) (i : Nat), Q.Nodup → phi P' i Q ≤ phi P i Q + (if x ∈ Q then i + Q.length - 1 else 0)
  | [], _, _ => Nat.zero_le _
  | y :: Q, i, hn => by
    rw [List.nodup_cons] at hn
    have ih := phi_swap hP Q (i + 1) hn.2
    rw [phi, phi, List.length_cons]
    by_cases hxy : x = y
    · subst hxy
      rw [if_neg hn.1] at ih
      rw [if_pos (show x ∈ x :: Q from .head _)]
      split <;> split <;> omega
    · have e : (x ∈ y :: Q) ↔ x ∈ Q := by simp [hxy]
      have h1 : y ∈ P → y ∈ P' := fun h => hP y h (fun e => hxy e.symm)
      by_cases hx : x ∈ Q
      · rw [if_pos hx] at ih
        rw [if_pos (e.mpr hx)]
        have := List.length_pos_of_mem hx
        by_cases hy : y ∈ P
        · rw [if_pos hy, if_pos (h1 hy)]; omega
        · rw [if_neg hy]; split <;> omega
      · rw [if_neg hx] at ih
        rw [if_neg (fun h => hx (e.mp h))]
        by_cases hy : y ∈ P
        · rw [if_pos hy, if_pos (h1 hy)]; omega
        · rw [if_neg hy]; split <;> omega
/-- asking for a key that both hold -/
theorem phi_hit {P : List Int} {p : Int} (hp : p ∈ P) : ∀ (Q : List Int) (i : Nat), phi P i (Q.erase p ++ [p]) ≤ phi P i Q
  | [], i => by rw [List.erase_nil, List.nil_append, phi_in [p] _ (fun x hx => by rw [List.mem_singleton] at hx; exact hx ▸ hp)]; exact Nat.zero_le _
  | y :: Q, i => by
    by_cases e : y = p
    · subst e
      rw [List.erase_cons_head, phi_app, phi_in [y] _ (fun x hx => by rw [List.mem_singleton] at hx; exact hx ▸ hp), phi, phi_succ]
      omega
    · have ih := phi_hit hp Q (i + 1)
      rw [List.erase_cons_tail (by simpa using e), List.cons_append, phi, phi]
      omega
theorem ins_le : ∀ (P Q : List Int), Q.Nodup → ins P Q ≤ P.length
  | [], Q, _ => by
    unfold ins
    rw [List.countP_eq_zero.mpr (by simp)]; exact Nat.le_refl _
  | a :: P, Q, hn => by
    have ih := ins_le P Q hn
    have h1 : Q.count a ≤ 1 := List.nodup_iff_count.mp hn a
    have h2 : ∀ Q : List Int, ins (a :: P) Q ≤ Q.count a + ins P Q := fun Q => by
      induction Q with
      | nil => exact Nat.le_refl _
      | cons y Q ih =>
        unfold ins at *
        rw [List.countP_cons, List.countP_cons, List.count_cons]
        by_cases e : y = a
        · have e1 : decide (y ∈ a :: P) = true := decide_eq_true (e ▸ .head _)
          have e2 : (y == a) = true := by simp [e]
          rw [e1, e2, if_pos rfl]
          split <;> omega
        · have e1 : decide (y ∈ a :: P) = decide (y ∈ P) := by simp [e]
          have e2 : (y == a) = false := by simp [e]
          rw [e1, e2]
          simp only [Bool.false_eq_true, if_false]
          omega
    have := h2 Q
    rw [List.length_cons]; omega
theorem ins_lt {P Q : List Int} {p : Int} (hn : Q.Nodup) (hp : p ∈ P) (hq : p ∉ Q) : ins P Q + 1 ≤ P.length := by
  have h1 := ins_le (P.erase p) Q hn
  have h2 : ins P Q = ins (P.erase p) Q := by
    unfold ins
    apply List.countP_congr
    intro x hx
    have hxp : x ≠ p := fun e => hq (e ▸ hx)
    simp [List.mem_erase_of_ne hxp]
  have := List.length_erase_of_mem hp
  have := List.length_pos_of_mem hp
  omega

/-- one turn of the potential -/
theorem ratio_run {h k n : Nat} (h1 : 1 ≤ h) (hk : h ≤ k) : ∀ (σ Q es B : List Int), Q.Nodup → Q.length = k → es.length + B.length = h → (∀ e ∈ es, e ∉ σ) →
    (k - h + 1) * lruMiss k Q σ + triF 1 (k - h) ≤ k * minMissL h n B σ + phi (es ++ B) 1 Q
  | [], Q, es, B, hn, hl, hb, _ => by
    have e1 := phi_lo (es ++ B) Q 1
    have e2 := ins_le (es ++ B) Q hn
    have e3 := ins_outs (es ++ B) Q
    rw [List.length_append] at e2
    have e4 : triF 1 (k - h) ≤ triF 1 (outs (es ++ B) Q) := triF_r (by omega)
    rw [lruMiss, minMissL]
    omega
  | p :: σ, Q, es, B, hn, hl, hb, he => by
    have hpe : p ∉ es := fun hm => he p hm (.head _)
    have he' : ∀ e ∈ es, e ∉ σ := fun e hm hs => he e hm (.tail _ hs)
    -- the other's move
    obtain ⟨es', hes', hB', hpP, hmove⟩ : ∃ es', (∀ e ∈ es', e ∉ σ) ∧ es'.length + (minStep h n σ B p).length = h ∧ p ∈ es' ++ minStep h n σ B p ∧ phi (es' ++ minStep h n σ B p) 1 Q ≤ phi (es ++ B) 1 Q + (if p ∈ B then 0 else k) := by
      by_cases hp : p ∈ B
      · refine ⟨es, he', ?_, ?_, ?_⟩
        · rw [minStep, if_pos hp]; exact hb
        · rw [minStep, if_pos hp]; exact List.mem_append_right _ hp
        · rw [minStep, if_pos hp, if_pos hp]; exact Nat.le_refl _
      · rw [if_neg hp]
        have fin : ∀ (P' : List Int) (x : Int), (∀ y ∈ es ++ B, y ≠ x → y ∈ P') → phi P' 1 Q ≤ phi (es ++ B) 1 Q + k := fun P' x hP => by
          have := phi_swap hP Q 1 hn
          split at this <;> omega
        by_cases hf : B.length = h
        · have hes0 : es = [] := List.length_eq_zero_iff.mp (by omega)
          subst hes0
          have hne : B ≠ [] := fun e => by subst e; simp at hf; omega
          have hj := minPick_lt (n := n) (rest := σ) hne
          refine ⟨[], he', ?_, ?_, ?_⟩
          · rw [minStep, if_neg hp, if_pos hf, List.length_append, List.length_eraseIdx_of_lt hj]
            simp; omega
          · rw [minStep, if_neg hp, if_pos hf]; simp
          · rw [minStep, if_neg hp, if_pos hf]
            refine fin _ (B[minPick n σ B]'hj) fun y hy hyx => ?_
            rw [List.nil_append] at hy ⊢
            refine List.mem_append_left _ ?_
            obtain ⟨i, hi, rfl⟩ := List.mem_iff_getElem.mp hy
            rw [List.mem_eraseIdx_iff_getElem]
            exact ⟨i, hi, fun e => hyx (by subst e; rfl), rfl⟩
        · cases es with
          | nil => rw [List.length_nil] at hb; omega
          | cons e es =>
            rw [List.length_cons] at hb
            refine ⟨es, fun x hx => he' x (.tail _ hx), ?_, ?_, ?_⟩
            · rw [minStep, if_neg hp, if_neg hf, List.length_append, List.length_singleton]; omega
            · rw [minStep, if_neg hp, if_neg hf]; simp
            · rw [minStep, if_neg hp, if_neg hf]
              refine fin _ e fun y hy hyx => ?_
              rw [List.cons_append] at hy
              rcases List.mem_cons.mp hy with h | h
              · exact absurd h hyx
              · rw [← List.append_assoc]; exact List.mem_append_left _ h
    rw [lruMiss, minMissL]
    have ih := ratio_run (n := n) h1 hk σ (lruStep k Q p) es' (minStep h n σ B p) (lruStep_nodup hn) ?_ hB' hes'
    · generalize minStep h n σ B p = B' at *
      have hl2 : (if p ∈ Q then 0 else (k - h + 1)) + phi (es' ++ B') 1 (lruStep k Q p) ≤ phi (es' ++ B') 1 Q := by
        by_cases hq : p ∈ Q
        · rw [if_pos hq, lruStep_in hq]
          have := phi_hit hpP Q 1
          omega
        · rw [if_neg hq, lruStep_full hq hl]
          have e1 := ins_lt hn hpP hq
          have e2 := ins_outs (es' ++ B') Q
          rw [List.length_append] at e1
          cases Q with
          | nil => rw [List.length_nil] at hl; omega
          | cons y Q =>
            rw [List.tail_cons, phi_app, phi_in [p] _ (fun x hx => by rw [List.mem_singleton] at hx; exact hx ▸ hpP), phi]
            have e3 := phi_succ (es' ++ B') Q 1
            rw [e3]
            unfold outs at *
            rw [List.countP_cons] at e2
            by_cases hy : y ∈ es' ++ B'
            · simp only [hy, decide_true, Bool.not_true, Bool.false_eq_true, if_false, if_true] at e2 ⊢
              omega
            · simp only [hy, decide_false, Bool.not_false, if_false, if_true] at e2 ⊢
              omega
      rw [Nat.mul_add, Nat.mul_add]
      have m1 : (k - h + 1) * (if p ∈ Q then 0 else 1) = (if p ∈ Q then 0 else (k - h + 1)) := by split <;> simp
      have m2 : k * (if p ∈ B then 0 else 1) = (if p ∈ B then 0 else k) := by split <;> simp
      rw [m1, m2]
      omega
    · by_cases hq : p ∈ Q
      · rw [lruStep_in hq, List.length_append, List.length_erase_of_mem hq, List.length_singleton]
        have := List.length_pos_of_mem hq
        omega
      · rw [lruStep_full hq hl, List.length_append, List.length_tail, List.length_singleton]; omega
/-- keys that are never asked for fill the queue -/
theorem lru_pad {k : Nat} (k1 : 1 ≤ k) : ∀ (σ ds q : List Int), ds.length + q.length = k → (∀ e ∈ ds, e ∉ σ) → lruMiss k (ds ++ q) σ = lruMiss k q σ
  | [], _, _, _, _ => rfl
  | p :: σ, ds, q, hl, hd => by
    have hpd : p ∉ ds := fun hm => hd p hm (.head _)
    have hd' : ∀ e ∈ ds, e ∉ σ := fun e hm hs => hd e hm (.tail _ hs)
    rw [lruMiss, lruMiss]
    by_cases hq : p ∈ q
    · rw [if_pos hq, if_pos (List.mem_append_right _ hq), lruStep_in hq, lruStep_in (List.mem_append_right _ hq), List.erase_append_right _ hpd, List.append_assoc]
      rw [lru_pad k1 σ ds (q.erase p ++ [p]) (by
        have := List.length_pos_of_mem hq
        rw [List.length_append, List.length_erase_of_mem hq, List.length_singleton]; omega) hd']
    · have hpq : p ∉ ds ++ q := fun h => by
        rcases List.mem_append.mp h with h | h
        · exact hpd h
        · exact hq h
      rw [if_neg hq, if_neg hpq, lruStep_full hpq (by rw [List.length_append]; exact hl)]
      cases ds with
      | nil =>
        rw [List.nil_append, lruStep_full hq (by simpa using hl)]
      | cons e ds =>
        rw [List.length_cons] at hl
        rw [lruStep_new hq (by omega), List.cons_append, List.tail_cons, List.append_assoc]
        rw [lru_pad k1 σ ds (q ++ [p]) (by rw [List.length_append, List.length_singleton]; omega) (fun x hx => hd' x (.tail _ hx))]
def fresh (M : Int) (k : Nat) : List Int := (List.range k).map fun i : Nat => M + 1 + (i : Int)
theorem fresh_nodup (M : Int) (k : Nat) : (fresh M k).Nodup := by
  unfold fresh
  rw [List.nodup_iff_pairwise_ne, List.pairwise_map]
  exact List.pairwise_lt_range.imp fun h e => by omega
theorem fresh_len (M : Int) (k : Nat) : (fresh M k).length = k := by simp [fresh]
theorem fresh_above : ∀ (σ : List Int), ∃ M : Int, ∀ x ∈ σ, x ≤ M
  | [] => ⟨0, fun _ h => nomatch h⟩
  | a :: σ => by
    obtain ⟨M, hM⟩ := fresh_above σ
    refine ⟨max a M, fun x hx => ?_⟩
    rcases List.mem_cons.mp hx with rfl | hx
    · exact Int.le_max_left _ _
    · exact Int.le_trans (hM x hx) (Int.le_max_right _ _)
theorem fresh_off {M : Int} {k : Nat} {σ : List Int} (hM : ∀ x ∈ σ, x ≤ M) : ∀ e ∈ fresh M k, e ∉ σ := fun e he hs => by
  unfold fresh at he
  obtain ⟨i, _, rfl⟩ := List.mem_map.mp he
  have := hM _ hs
  omega
theorem ratio {h k : Nat} (h1 : 1 ≤ h) (hk : h ≤ k) (row : List Int) : lruMiss k [] row * (k - h + 1) ≤ k * minMiss h row row.length := by
  obtain ⟨M, hM⟩ := fresh_above row
  have hoff := fresh_off (k := k) hM
  have hn := fresh_nodup M k
  have hlen := fresh_len M k
  have e0 : (fresh M k).take (k - h) ++ (fresh M k).drop (k - h) = fresh M k := List.take_append_drop _ _
  have hpad := lru_pad (k := k) (by omega) row (fresh M k) [] (by rw [hlen]; rfl) hoff
  rw [List.append_nil] at hpad
  have r := ratio_run (n := row.length) h1 hk row (fresh M k) ((fresh M k).drop (k - h)) [] hn hlen (by rw [List.length_drop, hlen, List.length_nil]; omega) (fun e he => hoff e (List.mem_of_mem_drop he))
  rw [hpad, List.append_nil] at r
  have p1 : phi ((fresh M k).drop (k - h)) 1 (fresh M k) ≤ triF 1 (k - h) := by
    conv => lhs; arg 3; rw [← e0]
    rw [phi_app, phi_in ((fresh M k).drop (k - h)) _ (fun x hx => hx), Nat.add_zero]
    have := phi_le_tri ((fresh M k).drop (k - h)) ((fresh M k).take (k - h)) 1
    rwa [List.length_take, hlen, Nat.min_eq_left (by omega)] at this
  rw [minMiss_list, Nat.mul_comm]
  omega
end Mine

end

section
open PySem PySem.W PyProof.Rows PySem.Spec PyProof.V
set_option Elab.async false
namespace Mine
def cnt (σ : List Int) (t : Nat) (S : List Int) : Nat := S.countP (fun x => decide (x ∈ σ.take t))
def soon (σ : List Int) (t : Nat) (p : Int) : Nat := if p ∈ σ.take t then 1 else 0
theorem soon_le (σ : List Int) (t : Nat) (p : Int) : soon σ t p ≤ 1 := by unfold soon; split <;> omega
theorem cnt_le (σ : List Int) (t : Nat) (S : List Int) : cnt σ t S ≤ S.length := List.countP_le_length
theorem cnt_cons (σ : List Int) (t : Nat) (x : Int) (S : List Int) : cnt σ t (x :: S) = cnt σ t S + soon σ t x := by
  unfold cnt soon
  rw [List.countP_cons]
  by_cases h : x ∈ σ.take t <;> simp [h]
theorem cnt_snoc (σ : List Int) (t : Nat) (x : Int) (S : List Int) : cnt σ t (S ++ [x]) = cnt σ t S + soon σ t x := by
  have e : cnt σ t (S ++ [x]) = cnt σ t S + cnt σ t [x] := List.countP_append
  rw [e, cnt_cons]
  unfold cnt; simp
theorem cnt_nil (σ : List Int) (S : List Int) : cnt σ 0 S = 0 := by
  unfold cnt
  rw [List.countP_eq_zero]; simp
theorem soon_nil (σ : List Int) (p : Int) : soon σ 0 p = 0 := by unfold soon; simp
theorem soon_step (p x : Int) (σ : List Int) (t : Nat) : soon (p :: σ) (t + 1) x = if x = p then 1 else soon σ t x := by
  unfold soon
  rw [List.take_succ_cons]
  by_cases e : x = p <;> simp [e]
theorem cnt_out {p : Int} {σ : List Int} {t : Nat} : ∀ {S : List Int}, p ∉ S → cnt (p :: σ) (t + 1) S = cnt σ t S
  | [], _ => rfl
  | x :: S, h => by
    have hne : ¬ x = p := fun e => h (by rw [e]; exact .head _)
    rw [cnt_cons, cnt_cons, cnt_out (fun hm => h (.tail _ hm)), soon_step, if_neg hne]
theorem cnt_in {p : Int} {σ : List Int} {t : Nat} : ∀ {S : List Int}, S.Nodup → p ∈ S → cnt (p :: σ) (t + 1) S + soon σ t p = cnt σ t S + 1
  | [], _, h => nomatch h
  | x :: S, hn, h => by
    rw [List.nodup_cons] at hn
    rw [cnt_cons, cnt_cons, soon_step]
    by_cases e : x = p
    · subst e
      rw [cnt_out hn.1, if_pos rfl]; omega
    · have hp : p ∈ S := by
        rcases List.mem_cons.mp h with h | h
        · exact absurd h.symm e
        · exact h
      have := cnt_in (σ := σ) (t := t) hn.2 hp
      rw [if_neg e]; omega
theorem cnt_erase {σ : List Int} {t : Nat} : ∀ {S : List Int} {j : Nat} (hj : j < S.length), cnt σ t (S.eraseIdx j) + soon σ t (S[j]'hj) = cnt σ t S
  | [], _, h => absurd h (Nat.not_lt_zero _)
  | x :: S, 0, _ => (cnt_cons σ t x S).symm
  | x :: S, j + 1, h => by
    have := cnt_erase (σ := σ) (t := t) (S := S) (j := j) (Nat.lt_of_succ_lt_succ h)
    rw [List.eraseIdx_cons_succ, cnt_cons, cnt_cons, List.getElem_cons_succ]; omega
theorem idx_take {x : Int} {t : Nat} : ∀ {l : List Int}, x ∈ l.take t ↔ x ∈ l ∧ l.idxOf x < t := by
  intro l
  induction l generalizing t with
  | nil => simp
  | cons a l ih =>
    cases t with
    | zero => simp
    | succ t =>
      rw [List.take_succ_cons, List.mem_cons, List.mem_cons, List.idxOf_cons, ih]
      by_cases e : x = a
      · subst e; simp
      · have e' : (a == x) = false := by simp; exact fun h => e h.symm
        rw [e']
        simp [e]
theorem far {c n : Nat} {σ B : List Int} {t : Nat} (hσ : σ.length ≤ n) (hj : minPick n σ B < B.length) (hx : B[minPick n σ B]'hj ∈ σ.take t) : ∀ y ∈ B, y ∈ σ.take t := by
  intro y hy
  have hne : B.map (waitOf n σ) ≠ [] := fun e => by simp at e; subst e; cases hy
  obtain ⟨h1, h2⟩ := maxI_spec hne
  have hw : waitOf n σ (B[minPick n σ B]'hj) = maxI (B.map (waitOf n σ)) := by
    have hlt : (B.map (waitOf n σ)).idxOf (maxI (B.map (waitOf n σ))) < (B.map (waitOf n σ)).length := List.idxOf_lt_length_of_mem h1
    have := List.getElem_idxOf hlt
    rw [List.getElem_map] at this
    exact this
  have hy2 := h2 _ (List.mem_map_of_mem hy)
  rw [← hw] at hy2
  obtain ⟨hx1, hx2⟩ := idx_take.mp hx
  have hxl := List.idxOf_lt_length_of_mem hx1
  unfold waitOf at hy2
  rw [if_pos hx1] at hy2
  by_cases hyr : y ∈ σ
  · rw [if_pos hyr] at hy2
    exact idx_take.mpr ⟨hyr, by omega⟩
  · rw [if_neg hyr] at hy2; omega
theorem cnt_all {σ : List Int} {t : Nat} {S : List Int} (h : ∀ y ∈ S, y ∈ σ.take t) : cnt σ t S = S.length := by
  unfold cnt
  rw [List.countP_eq_length]
  exact fun y hy => decide_eq_true (h y hy)
theorem min_cnt {c n : Nat} {σ B : List Int} {p : Int} (hσ : σ.length ≤ n) (c1 : 1 ≤ c) (hp : p ∉ B) (t : Nat) :
    cnt σ t (minStep c n σ B p) = cnt σ t B + soon σ t p ∨ cnt σ t (minStep c n σ B p) + 1 = c + soon σ t p := by
  rw [minStep, if_neg hp, cnt_snoc]
  by_cases hf : B.length = c
  · rw [if_pos hf]
    have hne : B ≠ [] := fun e => by subst e; simp at hf; omega
    have hj := minPick_lt (n := n) (rest := σ) hne
    have he := cnt_erase (σ := σ) (t := t) hj
    by_cases hx : B[minPick n σ B]'hj ∈ σ.take t
    · have h1 : soon σ t (B[minPick n σ B]'hj) = 1 := if_pos hx
      have h2 := cnt_all (far (c := c) hσ hj hx)
      right; omega
    · have h1 : soon σ t (B[minPick n σ B]'hj) = 0 := if_neg hx
      left; omega
  · rw [if_neg hf]; left; rfl
theorem minStep_nodup {c n : Nat} {σ B : List Int} {p : Int} (hn : B.Nodup) : (minStep c n σ B p).Nodup := by
  rw [minStep]
  split
  · exact hn
  · rename_i hp
    split
    · exact nodup_snoc (hn.sublist (List.eraseIdx_sublist _ _)) (fun h => hp (List.mem_of_mem_eraseIdx h))
    · exact nodup_snoc hn hp
theorem lru_cnt_in {c : Nat} {σ C : List Int} {p : Int} (hp : p ∈ C) (t : Nat) : cnt σ t (lruStep c C p) = cnt σ t C := by
  rw [lruStep_in hp, cnt_snoc]
  have : cnt σ t C = cnt σ t (p :: C.erase p) := (List.perm_cons_erase hp).countP_eq _
  rw [this, cnt_cons]
theorem lru_cnt_out {c : Nat} {σ C : List Int} {p : Int} (hp : p ∉ C) (hl : C.length ≤ c) (c1 : 1 ≤ c) (t : Nat) :
    cnt σ t (lruStep c C p) ≤ cnt σ t C + soon σ t p ∧ cnt σ t (lruStep c C p) + 1 ≤ c + soon σ t p := by
  by_cases hf : C.length = c
  · rw [lruStep_full hp hf, cnt_snoc]
    have h1 : cnt σ t C.tail ≤ cnt σ t C := (List.tail_sublist C).countP_le
    have h2 := cnt_le σ t C.tail
    rw [List.length_tail] at h2
    omega
  · rw [lruStep_new hp hf, cnt_snoc]
    have h2 := cnt_le σ t C
    omega
theorem opt_run {c n : Nat} (c1 : 1 ≤ c) : ∀ (σ B C : List Int) (d : Nat), σ.length ≤ n → B.Nodup → B.length ≤ c → C.Nodup → C.length ≤ c → (∀ t, cnt σ t C ≤ cnt σ t B + d) → minMissL c n B σ ≤ lruMiss c C σ + d
  | [], _, _, _, _, _, _, _, _, _ => Nat.zero_le _
  | p :: σ, B, C, d, hσ, hB, hBl, hC, hCl, inv => by
    rw [List.length_cons] at hσ
    have hσ' : σ.length ≤ n := by omega
    have run := fun d' => opt_run (n := n) c1 σ (minStep c n σ B p) (lruStep c C p) d' hσ' (minStep_nodup hB) (minStep_length hBl c1) (lruStep_nodup hC) (lruStep_length hCl c1)
    rw [minMissL, lruMiss]
    by_cases hb : p ∈ B
    · have eB : minStep c n σ B p = B := by rw [minStep, if_pos hb]
      rw [if_pos hb]
      by_cases hc : p ∈ C
      · rw [if_pos hc]
        have := run d (fun t => by
          have h1 := inv (t + 1)
          have h2 := cnt_in (σ := σ) (t := t) hC hc
          have h3 := cnt_in (σ := σ) (t := t) hB hb
          rw [eB, lru_cnt_in hc]; omega)
        omega
      · rw [if_neg hc]
        have := run (d + 1) (fun t => by
          have h1 := inv (t + 1)
          have h2 := cnt_out (σ := σ) (t := t) hc
          have h3 := cnt_in (σ := σ) (t := t) hB hb
          have h4 := (lru_cnt_out (σ := σ) hc hCl c1 t).1
          rw [eB]; omega)
        omega
    · rw [if_neg hb]
      by_cases hc : p ∈ C
      · rw [if_pos hc]
        have hd : 1 ≤ d := by
          have h1 := inv (0 + 1)
          have h2 := cnt_in (σ := σ) (t := 0) hC hc
          have h3 := cnt_out (σ := σ) (t := 0) hb
          rw [cnt_nil, soon_nil] at h2
          rw [cnt_nil] at h3
          omega
        have := run (d - 1) (fun t => by
          have h1 := inv (t + 1)
          have h2 := cnt_in (σ := σ) (t := t) hC hc
          have h3 := cnt_out (σ := σ) (t := t) hb
          have h4 := min_cnt (c := c) (n := n) hσ' c1 hb t
          have h5 := cnt_le (p :: σ) (t + 1) C
          have h6 := soon_le σ t p
          rw [lru_cnt_in hc]
          rcases h4 with h4 | h4 <;> omega)
        omega
      · rw [if_neg hc]
        have := run d (fun t => by
          have h1 := inv (t + 1)
          have h2 := cnt_out (σ := σ) (t := t) hc
          have h3 := cnt_out (σ := σ) (t := t) hb
          have h4 := min_cnt (c := c) (n := n) hσ' c1 hb t
          have h5 := lru_cnt_out (σ := σ) hc hCl c1 t
          rcases h4 with h4 | h4 <;> omega)
        omega
theorem opt_le {c : Nat} (c1 : 1 ≤ c) (row : List Int) : minMiss c row row.length ≤ lruMiss c [] row := by
  rw [minMiss_list]
  have := opt_run (n := row.length) c1 row [] [] 0 (Nat.le_refl _) List.nodup_nil (Nat.zero_le _) List.nodup_nil (Nat.zero_le _) (fun t => Nat.le_refl _)
  omega
end Mine

end

section
open PySem PySem.W PyProof.Rows PySem.Spec PyProof.V
set_option Elab.async false
set_option maxRecDepth 100000
set_option maxHeartbeats 8000000
namespace Mine

theorem anti_mono {f : Nat → Int} (h : ∀ i, f (i + 1) ≤ f i) : ∀ i j, i ≤ j → f j ≤ f i := by
  intro i j hij
  induction hij with
  | refl => exact Int.le_refl _
  | step _ ih => exact Int.le_trans (h _) ih
theorem anti_pairwise {f : Nat → Int} (h : ∀ i, f (i + 1) ≤ f i) {n : Nat} : ((List.range n).map f).Pairwise (fun x y => y ≤ x) := by
  rw [List.pairwise_map]
  exact List.pairwise_lt_range.imp fun hab => anti_mono h _ _ (Nat.le_of_lt hab)
theorem get_r {o : Obj} {a : Addr} (_ : o.data = .cell (some (.ref a))) : ∃ z : Addr, z = a := ⟨a, rfl⟩
theorem lit5 {t1 t2 t3 t4 t5 : Tok} {i : Nat} {v : Value} (h : #[Value.int 1 t1, Value.int 2 t2, Value.int 3 t3, Value.int 4 t4, Value.int 5 t5][i]? = some v) : ∃ t, v = .int ((i + 1 : Nat) : Int) t := by
  rcases i with _ | _ | _ | _ | _ | i
  · simp at h; exact ⟨_, h.symm⟩
  · simp at h; exact ⟨_, h.symm⟩
  · simp at h; exact ⟨_, h.symm⟩
  · simp at h; exact ⟨_, h.symm⟩
  · simp at h; exact ⟨_, h.symm⟩
  · simp at h

theorem get_o {o : Obj} {d : Data} (_ : o.data = d) : ∃ z : Obj, z = o := ⟨o, rfl⟩
theorem get_hp {g h : Heap} {L : Addr} {m : Str → Option Value} (_ : Fr g L h m) : ∃ z : Heap, z = h := ⟨h, rfl⟩

theorem get_l {h : Heap} {a : Addr} {v : Array Value} (_ : h.IsList a v) : ∃ z : Addr, z = a := ⟨a, rfl⟩
theorem get_n {vs : List Value} {ns : List Int} (_ : IntsAre vs ns) : ∃ z : List Int, z = ns := ⟨ns, rfl⟩
theorem get_v {vs : List Value} {ns : List Int} (_ : IntsAre vs ns) : ∃ z : List Value, z = vs := ⟨vs, rfl⟩

theorem turn0_get {g g' : Heap} (T : KtsTurn [] g g') (b : Addr) : g'.get? b = g.get? b := by
  cases q : g.get? b with
  | none => exact T.none_ _ q
  | some o => exact T.other b o q (fun h => nomatch h)
theorem turn0_fr {g g' h : Heap} {L : Addr} {m : Str → Option Value} (T : KtsTurn [] g g') (F : Fr g' L h m) : Fr g L h m :=
  ⟨F.ns, fun b o e => F.keep b o ((turn0_get T b).trans e), by rw [← T.size]; exact F.above⟩
theorem turn0_news {g g' h : Heap} {L : Addr} {news : List (Addr × Obj)} (T : KtsTurn [] g g') (N : News g' L h news) : News g L h news :=
  fun p hp => ⟨(N p hp).1, (N p hp).2.1, (turn0_get T p.1).symm.trans (N p hp).2.2⟩
theorem dicts0 {h : Heap} : KtsDicts [] h := fun b hb => nomatch hb
theorem CAt.rest_news {w : World} {g h : Heap} {L : Addr} {c : Cch} {val : Int → Int} {q : List Int} {rest : List (Addr × Obj)} (C : CAt w g L h c val q rest) : News g L h rest := by
  obtain ⟨⟨o, kvs, D, vs, n, N, _⟩, _⟩ := C
  exact fun p hp => N p (Cch.led_app.mpr (.inr hp))
theorem CAt.ge {w : World} {g h : Heap} {L : Addr} {c : Cch} {val : Int → Int} {q : List Int} {rest : List (Addr × Obj)} (C : CAt w g L h c val q rest) : ∀ a, c.has a → @LE.le Nat _ c.dx a := by
  obtain ⟨_, _, _, _, _, ok⟩ := C
  have h1 := ok.a1; have h2 := ok.a2; have h3 := ok.a3; have h4 := ok.a4; have h5 := ok.a5
  rintro a (rfl | rfl | rfl | rfl | rfl | rfl) <;> omega
theorem LedS.push {w : World} {val : Int → Int} {cs : List Cch} {qss : List (List Int)} {news : List (Addr × Obj)} (S : LedS w val cs qss [] news) {g h : Heap} {L : Addr} {c : Cch} {q : List Int} {full : List (Addr × Obj)} (C : CAt w g L h c val q full) (hf : ∀ p ∈ news, p ∈ full) (hlt : ∀ p ∈ news, @LT.lt Nat _ p.1 c.dx) :
    ∃ news', LedS w val (cs ++ [c]) (qss ++ [q]) [] news' ∧ News g L h news' ∧ (∀ p ∈ news', p ∈ news ∨ c.has p.1) := by
  obtain ⟨⟨o, kvs, D, vs, n, N, hd, hf', hi, hM⟩, nd, len, c1, c2, ok⟩ := C
  have hge : ∀ a, c.has a → @LE.le Nat _ c.dx a := by
    have h1 := ok.a1; have h2 := ok.a2; have h3 := ok.a3; have h4 := ok.a4; have h5 := ok.a5
    rintro a (rfl | rfl | rfl | rfl | rfl | rfl) <;> omega
  have hnew : ∀ cj ∈ cs, ∀ a, cj.has a → @LT.lt Nat _ a c.dx := fun cj hcj a ha => by
    obtain ⟨j, hj⟩ := List.getElem?_of_mem hcj
    obtain ⟨q', hq'⟩ := S.q_of hj
    obtain ⟨r, hr, e⟩ := (S.each j cj q' hj hq').addr ha
    exact e ▸ hlt r hr
  refine ⟨c.led w o vs n news, ⟨?_, fun p hp => (nomatch hp), fun p hp => (nomatch hp), ?_, fun p hp => ?_, ?_⟩, fun p hp => ?_, fun p hp => ?_⟩
  · rw [List.length_append, List.length_append, S.len]; rfl
  · intro i j ci cj hi hj hne a ha hb
    rcases Nat.lt_or_ge i cs.length with h1 | h1
    · rw [List.getElem?_append_left h1] at hi
      rcases Nat.lt_or_ge j cs.length with h2 | h2
      · rw [List.getElem?_append_left h2] at hj
        exact S.dis i j ci cj hi hj hne a ha hb
      · rw [List.getElem?_append_right h2, List.getElem?_singleton] at hj
        split at hj
        · cases hj
          have e1 := hnew ci (List.mem_of_getElem? hi) a ha
          have e2 := hge a hb
          exact absurd e1 (Nat.not_lt.mpr e2)
        · cases hj
    · rw [List.getElem?_append_right h1, List.getElem?_singleton] at hi
      split at hi
      · cases hi
        rcases Nat.lt_or_ge j cs.length with h2 | h2
        · rw [List.getElem?_append_left h2] at hj
          have e1 := hnew cj (List.mem_of_getElem? hj) a hb
          have e2 := hge a ha
          exact absurd e1 (Nat.not_lt.mpr e2)
        · rw [List.getElem?_append_right h2, List.getElem?_singleton] at hj
          split at hj
          · omega
          · cases hj
      · cases hi
  · rcases Cch.led_app.mp hp with hp | hp
    · exact .inr ⟨c, by simp, Cch.led_has hp⟩
    · rcases S.bound p hp with h | ⟨c', h1, h2⟩
      · cases h
      · exact .inr ⟨c', List.mem_append_left _ h1, h2⟩
  · intro i ci qi hi' hq
    rcases Nat.lt_or_ge i cs.length with h1 | h1
    · rw [List.getElem?_append_left h1] at hi'
      rw [List.getElem?_append_left (by rw [← S.len]; exact h1)] at hq
      exact (S.each i ci qi hi' hq).mono fun p hp _ => Cch.led_app.mpr (.inr hp)
    · rw [List.getElem?_append_right h1, List.getElem?_singleton] at hi'
      rw [List.getElem?_append_right (by rw [← S.len]; exact h1), List.getElem?_singleton, ← S.len] at hq
      split at hi'
      · cases hi'
        rename_i e0
        rw [if_pos e0] at hq
        cases hq
        exact ⟨o, kvs, D, vs, n, fun p hp => Cch.led_app.mpr (.inl hp), hd, hf', hi, hM, nd, len, c1, c2, ok.lo, ok.a1, ok.a2, ok.a3, ok.a4, ok.a5, fun _ h => (nomatch h), fun _ h => (nomatch h)⟩
      · cases hi'
  · rcases Cch.led_app.mp hp with hp | hp
    · exact N p (Cch.led_app.mpr (.inl hp))
    · exact N p (Cch.led_app.mpr (.inr (hf p hp)))
  · rcases Cch.led_app.mp hp with hp | hp
    · exact .inr (Cch.led_has hp)
    · exact .inl hp
theorem LedS.none {w : World} {val : Int → Int} : LedS w val [] [] [] [] :=
  ⟨rfl, fun _ h => (nomatch h), fun _ h => (nomatch h), fun i j ci cj h => by simp at h, fun _ h => (nomatch h), fun i c q h => by simp at h⟩

section
local macro_rules | `(tactic| k_room) => `(tactic| ((try simp only [depth_under_make, depth_under_kw, depth_in1, depth_deeper, depth_caller]); (simp only [recursionLimit] at *); omega))
local macro_rules | `(tactic| k_all) => `(tactic| assumption)
local macro_rules | `(tactic| walk_at "exec For Name Name cons nil") => `(tactic| (k_here; k_dflt (refine wpAny_For ?_ (by intro _; rfl))))
local macro_rules | `(tactic| walk_at "pyIter ref") => `(tactic| ((with_reducible show wpAny _ _ (pyIter (Value.ref _)) _ _ _); refine stay ?_))
local macro_rules | `(tactic| walk_at "call ref") => `(tactic| ((with_reducible show wpAny _ _ (call (Value.ref 169) _) _ _ _); refine stay ?_))
local macro_rules | `(tactic| walk_at "call ref") => `(tactic| ((with_reducible show wpAny _ _ (call (Value.ref 190) _) _ _ _); refine stay ?_))
local macro_rules | `(tactic| walk_at "call ref") => `(tactic| ((with_reducible show wpAny _ _ (call (Value.ref 185) _) _ _ _); refine stay ?_))
local macro_rules | `(tactic| walk_at "call ref") => `(tactic| ((with_reducible show wpAny _ _ (call (Value.ref 178) _) _ _ _); refine stay ?_))
local macro_rules | `(tactic| walk_at "eval Name") => `(tactic| (k_here; (with_reducible show wpAny _ _ (eval (Expr.Name _ _) (envOfC _ _ _ _ _)) _ _ _); k_dflt (first
  | (refine' nameX_L ?F ?v ?_ ?a ?b; (case F => k_asm); (case a => rfl); (case b => rfl); (case v => rfl); k_whole)
  | (refine' nameX_C ?N ?c ?m ?d ?_ ?a ?b; (case a => rfl); (case b => rfl); (case N => k_asm); (case c => rfl); (case m => k_mem); (case d => k_asm); k_whole)
  | (refine' nameX_K ?F ?X ?T ?e ?_ ?a ?b; (case F => k_asm); (case X => k_asm); (case T => k_asm); (case a => rfl); (case b => rfl); (case e => k_is); k_whole)
  | (refine' nameX_B ?F ?X ?T ?e ?v ?n ?_ ?a ?b; (case F => k_asm); (case X => k_asm); (case T => k_asm); (case a => rfl); (case b => rfl); (case e => k_is); (case v => boot_fast); (case n => decide); k_whole))))
local macro_rules | `(tactic| walk_at "exec For Name Call cons nil") => `(tactic| (k_here; k_dflt (refine wpAny_For ?_ (by intro _; rfl))))
local macro_rules | `(tactic| walk_at "call type:range") => `(tactic| (k_here; (show wpAny _ _ (call (Value.type _) [Value.int _ _]) _ _ _); (rename Fr _ _ _ _ => F'); (rename News _ _ _ _ => N'); (with_unfolding_all refine range1_rows F' N' ?_); intro _ _ _ _ _ _ _ _ _))
local macro_rules | `(tactic| walk_at "exec Assign cons ListComp") => `(tactic| (k_here; k_dflt (refine LCg.Assign_ListComp_U (F₀ := by k_asm) (by rfl) (by with_unfolding_all rfl) (by with_unfolding_all rfl) (by decide) (by rfl) (by decide) (by rfl) (by rfl) (by rfl) ?_)))
local macro_rules | `(tactic| walk_at "CompSrc") => `(tactic| (k_here; k_dflt (refine LCg.CompSrc.ledger rfl (by k_asm) (by k_asm) (by k_mem) (Nat.le_of_ble_eq_true rfl) ?_); intro g'; refine stay ?_))
local macro_rules | `(tactic| walk_at "subscriptTail Name Name ref int") => `(tactic| (k_here; (with_reducible show wpAny _ _ (subscriptTail _ _ (Value.ref _) (Value.int _ _)) _ _ _); k_dflt (refine' item_S ?N ?m ?i ?h0 ?x ?z ?_; (case N => k_asm); (case m => k_mem); (case i => assumption); (case h0 => omega); (case x => assumption); (case z => assumption); k_whole); intro t'))

theorem law_walk : PySem.Challenge.rw_bw0012_01.Holds := by
  refine Mine.hd (by
    k_go0
    (all_goals try k_fold)
    (rename Fr _ _ _ _ => F'); (rename News _ _ _ _ => N0); (rename Below _ _ _ _ => B); (rename Top _ _ _ _ _ _ => T); (rename Frag.In _ _ => X); (rename IntsAre _ _ => hi)
    (rename Heap.IsList _ _ _ => hl); (rename (¬ _ < _) => hlen); (rename (Obj.data _ = _) => hcd); (rename World => w); (rename Shared => s₁)
    obtain ⟨sl, rfl⟩ := get_l hl
    obtain ⟨ns, rfl⟩ := get_n hi
    obtain ⟨svs, rfl⟩ := get_v hi
    obtain ⟨oW, rfl⟩ := get_o hcd
    obtain ⟨h₁, rfl⟩ := get_hp F'
    have F0 : Fr s₁.heap s₁.heap.objs.size h₁ (fun y => if y = "script" then some (.ref sl) else none) := by with_unfolding_all exact F'
    have hW : oW.data = .cell none := by with_unfolding_all exact hcd
    clear F' hcd
    have hlen' : ns.length ≤ 63 := by omega
    have B0 : Below callerA s₁.heap [] s₁.heap := B
    k_steps
    (rename Fr _ _ _ _ => F1); (rename News _ _ _ _ => N1); (rename (Obj.data _ = _) => dR)
    obtain ⟨oR, rfl⟩ := get_o dR
    obtain ⟨rl, rfl⟩ := get_r dR
    (rename IntsAre _ _ => hrow)
    refine unstay (compRest_ind2 (fun i ys tl => ∃ cs : List Cch, ys = cs.map (fun c => Value.ref c.x) ∧ cs.length = i ∧ (∀ (j : Nat) c, cs[j]? = some c → c.cap = j + 1) ∧ LedS w (fun k => 3 * k + 1) cs (List.replicate i []) [] tl ∧ ∀ p ∈ tl, @LT.lt Nat _ rl p.1 ∧ @LT.lt Nat _ (s₁.heap.objs.size + 1) p.1)
      ⟨[], rfl, rfl, fun j c h => by simp at h, LedS.none, fun _ h => (nomatch h)⟩ (fun tl => src_append (.inr ⟨_, by k_dflt k_mem, rfl, _, rfl⟩)) ?_ ?_)
    · intro i ys2 tl v I' oI' C' oC' D' m' h' tk' E' hlt' hInv' hv' hC' hx' F' N' offn off' ne'
      obtain ⟨cs, rfl, hcl, hcap, hS, habove⟩ := hInv'
      obtain ⟨tt, rfl⟩ := lit5 hv'
      k_steps
      simp only [List.cons_append, List.nil_append] at N'
      have offt := off3_mem off'
      refine unstay (init_C B0 F' X T N' (cap := i + 1) (by omega) (by have : i < 5 := hlt'; omega) rfl rfl rfl (Nat.le_of_ble_eq_true rfl) (Nat.le_of_ble_eq_true rfl) (fun k => 3 * k + 1) (fun h6 tk6 c F6 hc6 C6 hlt6 => ?_))
      obtain ⟨newsB, LB, NB, hB⟩ := hS.push C6 (fun p hp => by simp [hp]) (fun p hp => hlt6 p (by simp [hp]))
      have NR := C6.rest_news
      have hge := C6.ge
      refine ⟨_, _, newsB, rfl, F6, fun p hp => ?_, off3_of fun p hp => ?_, cs ++ [c], by rw [List.map_append]; rfl, by rw [List.length_append, hcl]; rfl, fun j cj hj => ?_, by rw [List.replicate_succ']; exact LB, fun p hp => ?_⟩
      · simp only [List.cons_append, List.nil_append, List.mem_cons] at hp
        rcases hp with h | h | h | h | h | h | h | h
        · exact NR p (by simp [h])
        · exact NR p (by simp [h])
        · exact NR p (by simp [h])
        · exact NR p (by simp [h])
        · exact NR p (by simp [h])
        · exact NR p (by simp [h])
        · exact NR p (by simp [h])
        · exact NB p h
      · rcases hB p hp with h | h
        · exact offt p h
        · have h1 := hge _ h
          have h2 := hlt6 (I', oI') (by simp)
          have h3 := hlt6 (C', oC') (by simp)
          have h4 := hlt6 (D', LCg.lst (List.map (fun c => Value.ref c.x) cs)) (by simp)
          exact ⟨Nat.ne_of_gt (Nat.lt_of_lt_of_le h2 h1), Nat.ne_of_gt (Nat.lt_of_lt_of_le h3 h1), Nat.ne_of_gt (Nat.lt_of_lt_of_le h4 h1)⟩
      · rcases Nat.lt_or_ge j cs.length with h1 | h1
        · rw [List.getElem?_append_left h1] at hj; exact hcap j cj hj
        · rw [List.getElem?_append_right h1, List.getElem?_singleton] at hj
          split at hj
          · cases hj; rw [hc6]; omega
          · cases hj
      · rcases hB p hp with h | h
        · exact habove p h
        · have h1 := hge _ h
          exact ⟨Nat.lt_of_lt_of_le (hlt6 (rl, LCg.lst ys) (by simp)) h1, Nat.lt_of_lt_of_le (hlt6 (s₁.heap.objs.size + 1, oR) (by simp)) h1⟩
    · intro ys2 tl hInv' D9 h9 tk9 F9 N9 o9
      obtain ⟨cs, rfl, hcl, hcap, hS, habove⟩ := hInv'
      simp only [List.cons_append, List.nil_append, LCg.Off1] at N9 o9
      k_steps
      (rename IsRange _ _ _ _ _ _ _ _ => R1); (rename Fr _ _ _ _ => F2); (rename News _ _ _ _ => N2)
      have h5 : cs.length = 5 := hcl
      have hS5 : LedS w (fun k => 3 * k + 1) cs (List.replicate 5 []) [] tl := hS
      have hrlen : ((ns.take 20).map fun k' => k'.fmod 7).length ≤ ns.length ∧ ((ns.take 20).map fun k' => k'.fmod 7).length ≤ 20 := by
        rw [List.length_map, List.length_take]; omega
      generalize ((ns.take 20).map fun k' => k'.fmod 7) = row at hrow R1 hrlen
      have S0 := hS5.grow (X := [(D9, listOf (cs.map fun c => Value.ref c.x).toArray (cs.map fun c => Value.ref c.x).length), (rl, listOf ys.toArray ys.length), (s₁.heap.objs.size + 1, oR)]) (fun p hp r hr => by
        have ha := habove r hr
        simp only [List.mem_cons, List.not_mem_nil, or_false] at hp
        rcases hp with rfl | rfl | rfl
        · exact off1_mem o9.2.2.2.2 r hr
        · exact Nat.ne_of_gt ha.1
        · exact Nat.ne_of_gt ha.2)
      refine unstay (forRange_T (n := row.length) (K := Mine.hd.heap_39 w.params) (p := Mine.hd.view_39) rfl rfl rfl R1 (rsmall (by omega)) rsize (fun i m news => m "caches" = some (.ref D9) ∧ m "script" = some (.ref sl) ∧ LedS w (fun k => 3 * k + 1) cs (runQ ns row cs i) [(D9, listOf (cs.map fun c => Value.ref c.x).toArray (cs.map fun c => Value.ref c.x).length), (rl, listOf ys.toArray ys.length), (s₁.heap.objs.size + 1, oR)] news)
        ⟨B0, X, T, dicts0, KtsTurn.refl⟩ F2 (news_sub N2 fun p hp => ?_) ⟨rfl, rfl, S0⟩ ?_ ?_)
      · simp only [List.cons_append, List.nil_append, List.mem_cons] at hp ⊢
        rcases hp with h | h | h | h <;> simp [h]
      · intro i t2 I oI g3 m3 news3 h3 tk3 hi5 hJ off G3 F3 N3
        obtain ⟨e1, e2, hL⟩ := hJ
        have F4 : Fr s₁.heap s₁.heap.objs.size h3 (fun y => if y = "script" then some (.ref sl) else if y = "caches" then some (.ref D9) else if y = "k" then some (.int (i : Nat) t2) else m3 y) := fr_pin (fr_pin (turn0_fr G3.Tn F3) (by (repeat refine (if_neg (by decide)).trans ?_); exact e1)) (by (repeat refine (if_neg (by decide)).trans ?_); exact e2)
        have N4 : News s₁.heap s₁.heap.objs.size h3 ((I, oI) :: news3) := turn0_news G3.Tn N3
        have SI := hL.grow (X := [(I, oI)]) (fun p hp r hr => by
          rcases List.mem_singleton.mp hp with rfl
          exact off r hr)
        have N5 : News s₁.heap s₁.heap.objs.size h3 ((rl, listOf ys.toArray ys.length) :: (s₁.heap.objs.size + 1, oR) :: (I, oI) :: news3) := news_dup (news_dup N4 (.tail _ (hL.sub _ (.tail _ (.tail _ (.head _)))))) (.tail _ (.tail _ (hL.sub _ (.tail _ (.head _)))))
        clear F3 N3 N4
        have hx : row[((i : Nat) : Int).toNat]? = some (row.getD i 0) := by
          rw [Int.toNat_natCast, List.getD_eq_getElem?_getD, List.getElem?_eq_getElem hi5]; rfl
        have hrz : row.length ≤ 900 := by omega
        have hin : i < ns.length := by omega
        k_steps
        (rename Fr _ _ _ _ => F5); (rename News _ _ _ _ => N6)
        refine unstay (done_C (d := deedOf (ns.getD i 0)) B0 F5 X T X T dicts0 rfl rfl rfl (Nat.le_of_ble_eq_true rfl) (Nat.le_of_ble_eq_true rfl) rfl SI (news_sub N6 fun p hp => .tail _ (.tail _ hp)) (.tail _ (.head _)) h5 (deedOf_lo _) (deedOf_hi _) (runQ_good h5 hcap i) (fun h6 tk6 g6 newsA T6 LA F6 NA B6 X6 P6 DD6 => ?_))
        have F7 := turn0_fr T6 F6
        have N7 := turn0_news T6 NA
        clear F6 NA F5 N6
        obtain ⟨newsB, LB, hB1, hB2⟩ := LA.drop (X := [(I, oI)]) (fun p hp r hr => by
          rcases List.mem_singleton.mp hp with rfl
          exact off r (hL.sub r hr))
        dsimp only
        k_steps
        (rename Fr _ _ _ _ => F8)
        refine ⟨s₁.heap, _, newsB, _, _, rfl, ⟨B0, X, T, dicts0, KtsTurn.refl⟩, F8, fun p hp => ?_, fun p hp => hB2 p hp _ (.head _), rfl, rfl, LB⟩
        rcases List.mem_cons.mp hp with rfl | hp
        · exact N7 _ (LA.sub _ (.head _))
        · exact N7 _ (hB1 p hp)
      · intro g3 m3 news3 h3 tk3 hJ G3 F3 N3
        obtain ⟨e1, e2, hL⟩ := hJ
        have N5 : News s₁.heap s₁.heap.objs.size h3 [(s₁.heap.objs.size + 1, oR), (rl, listOf ys.toArray ys.length)] := news_sub (turn0_news G3.Tn N3) fun p hp => by
          simp only [List.mem_cons, List.not_mem_nil, or_false] at hp
          rcases hp with rfl | rfl
          · exact hL.sub _ (.tail _ (.tail _ (.head _)))
          · exact hL.sub _ (.tail _ (.head _))
        have F4 : Fr s₁.heap s₁.heap.objs.size h3 m3 := turn0_fr G3.Tn F3
        clear F3 N3
        k_steps
        refine unstay (compRest_ind2 (fun i ys tl => tl = [] ∧ IntsAre ys ((List.range i).map fun c => ((lruMiss (c + 1) [] row : Nat) : Int))) ⟨rfl, .nil⟩ (fun tl => src_append (.inr ⟨_, by k_dflt k_mem, rfl, _, rfl⟩)) ?_ ?_)
        · intro i ys3 tl3 v I' oI' C' oC' D' m' h' tk' E' hlt' hInv' hv' hC' hx' F' N' offn off' ne'
          obtain ⟨rfl, hys3⟩ := hInv'
          obtain ⟨tt, rfl⟩ := lit5 hv'
          simp only [List.append_nil] at N'
          k_steps
          (rename Fr _ _ _ _ => F5); (rename News _ _ _ _ => N6)
          refine unstay (laid_C (cap := i + 1) B0 F5 X T X T dicts0 rfl rfl rfl (Nat.le_of_ble_eq_true rfl) (Nat.le_of_ble_eq_true rfl) rfl N6 (.tail _ (.tail _ (.tail _ (.tail _ (.tail _ (.head _)))))) hrow (by omega) (by have : i < 5 := hlt'; omega) (fun h6 tk6 g6 tv6 T6 F6 N7 B6 X6 P6 DD6 => ?_))
          refine ⟨_, _, [], rfl, turn0_fr T6 F6, by rw [List.append_nil]; exact turn0_news T6 N7, trivial, rfl, ?_⟩
          rw [List.range_succ, List.map_append]
          exact hys3.append (.cons _ _ .nil)
        · intro ys3 tl3 hInv' D10 h10 tk10 F10 N10 o10
          obtain ⟨rfl, hlaid⟩ := hInv'
          simp only [List.append_nil, LCg.Off1] at N10 o10
          k_steps
          refine unstay (compRest_ind2 (fun i ys tl => tl = [] ∧ IntsAre ys ((List.range i).map fun c => ((minMiss (c + 1) row row.length : Nat) : Int))) ⟨rfl, .nil⟩ (fun tl => src_append (.inr ⟨_, by k_dflt k_mem, rfl, _, rfl⟩)) ?_ ?_)
          · intro i ys4 tl4 v I' oI' C' oC' D' m' h' tk' E' hlt' hInv' hv' hC' hx' F' N' offn off' ne'
            obtain ⟨rfl, hys4⟩ := hInv'
            obtain ⟨tt, rfl⟩ := lit5 hv'
            simp only [List.append_nil] at N'
            k_steps
            (rename Fr _ _ _ _ => F5); (rename News _ _ _ _ => N6)
            refine unstay (least_C (cap := i + 1) B0 F5 X T X T dicts0 rfl rfl rfl (Nat.le_of_ble_eq_true rfl) (Nat.le_of_ble_eq_true rfl) rfl N6 (.tail _ (.tail _ (.tail _ (.tail _ (.tail _ (.tail _ (.tail _ (.head _)))))))) hrow (by omega) (by omega) (by have : i < 5 := hlt'; omega) (fun h6 tk6 g6 tv6 T6 F6 N7 B6 X6 P6 DD6 => ?_))
            refine ⟨_, _, [], rfl, turn0_fr T6 F6, by rw [List.append_nil]; exact turn0_news T6 N7, trivial, rfl, ?_⟩
            rw [List.range_succ, List.map_append]
            exact hys4.append (.cons _ _ .nil)
          · intro ys4 tl4 hInv' D11 h11 tk11 F11 N11 o11
            obtain ⟨rfl, hleast⟩ := hInv'
            simp only [List.append_nil, LCg.Off1] at N11 o11
            have hlaid' : IntsAre ys3 ((List.range 5).map fun c => ((lruMiss (c + 1) [] row : Nat) : Int)) := hlaid
            have hleast' : IntsAre ys4 ((List.range 5).map fun c => ((minMiss (c + 1) row row.length : Nat) : Int)) := hleast
            have hopt : ∀ i : Nat, ((minMiss (i + 1) row row.length : Nat) : Int) ≤ ((lruMiss (i + 1) [] row : Nat) : Int) := fun i => by exact_mod_cast opt_le (Nat.succ_le_succ (Nat.zero_le _)) row
            have hrat : ∀ i j : Nat, j ≤ i → ((lruMiss (i + 1) [] row : Nat) : Int) * ((i : Int) - (j : Int) + 1) ≤ ((i : Int) + 1) * ((minMiss (j + 1) row row.length : Nat) : Int) := fun i j hij => by
              have h1 := ratio (h := j + 1) (k := i + 1) (by omega) (by omega) row
              have e : ((i + 1 - (j + 1) + 1 : Nat) : Int) = (i : Int) - (j : Int) + 1 := by omega
              have h2 : (((lruMiss (i + 1) [] row * (i + 1 - (j + 1) + 1) : Nat)) : Int) ≤ (((i + 1) * minMiss (j + 1) row row.length : Nat) : Int) := by exact_mod_cast h1
              rw [Int.natCast_mul, Int.natCast_mul, e] at h2
              exact h2
            have hanti : ∀ i : Nat, lruMiss (i + 1 + 1) [] row ≤ lruMiss (i + 1) [] row := fun i => lru_anti (Nat.succ_le_succ (Nat.zero_le _)) row
            generalize hfA : (fun c : Nat => ((lruMiss (c + 1) [] row : Nat) : Int)) = fA at hlaid'
            generalize hfB : (fun c : Nat => ((minMiss (c + 1) row row.length : Nat) : Int)) = fB at hleast'
            have hopt' : ∀ i : Nat, fB i ≤ fA i := fun i => by subst hfA hfB; exact hopt i
            have hrat' : ∀ i j : Nat, j ≤ i → fA i * ((i : Int) - (j : Int) + 1) ≤ ((i : Int) + 1) * fB j := fun i j hij => by subst hfA hfB; exact hrat i j hij
            have hanti' : ∀ i : Nat, fA (i + 1) ≤ fA i := fun i => by subst hfA; exact Int.ofNat_le.mpr (hanti i)
            clear hopt hrat hanti hlaid hleast
            have hA5 : ((List.range 5).map fA).length ≤ 900 := by simp
            have hB5 : ((List.range 5).map fB).length ≤ 900 := by simp
            k_steps
            (rename IsRange _ _ _ _ _ _ _ _ => R2); (rename Fr _ _ _ _ => F12); (rename News _ _ _ _ => N12)
            refine unstay (forRange_T (n := 5) (b := 5) (K := Mine.hd.heap_39 w.params) (p := Mine.hd.view_39) rfl rfl rfl R2 (by decide) (by decide) (fun i m news => m "laid" = some (.ref D10) ∧ m "least" = some (.ref D11) ∧ news = [(D10, listOf ys3.toArray ys3.length), (D11, listOf ys4.toArray ys4.length)])
              ⟨B0, X, T, dicts0, KtsTurn.refl⟩ F12 (news_sub N12 fun p hp => ?_) ⟨rfl, rfl, rfl⟩ ?_ ?_)
            · simp only [List.mem_cons, List.not_mem_nil, or_false] at hp ⊢
              rcases hp with h | h <;> simp [h]
            · intro i t2 I oI g4 m4 news4 h4 tk4 hi6 hJ off G4 F13 N13
              obtain ⟨e3, e4, rfl⟩ := hJ
              have F14 : Fr s₁.heap s₁.heap.objs.size h4 (fun y => if y = "least" then some (.ref D11) else if y = "laid" then some (.ref D10) else if y = "k" then some (.int (i : Nat) t2) else m4 y) := fr_pin (fr_pin (turn0_fr G4.Tn F13) (by (repeat refine (if_neg (by decide)).trans ?_); exact e3)) (by (repeat refine (if_neg (by decide)).trans ?_); exact e4)
              have N14 := turn0_news G4.Tn N13
              clear F13 N13
              have hxa : ((List.range 5).map fA)[((i : Nat) : Int).toNat]? = some (fA i) := by
                rw [Int.toNat_natCast, List.getElem?_map, List.getElem?_range hi6]; rfl
              have hxb : ((List.range 5).map fB)[((i : Nat) : Int).toNat]? = some (fB i) := by
                rw [Int.toNat_natCast, List.getElem?_map, List.getElem?_range hi6]; rfl
              have ho := hopt' i
              k_steps
              (rename IsRange _ _ _ _ _ _ _ _ => R3); (rename Fr _ _ _ _ => F15); (rename News _ _ _ _ => N15)
              have ecast : ((i : Nat) : Int) + 1 = ((i + 1 : Nat) : Int) := by omega
              refine unstay (forRange_T (n := i + 1) (b := ((i : Nat) : Int) + 1) (K := Mine.hd.heap_39 w.params) (p := Mine.hd.view_39) rfl rfl rfl R3 (by rw [ecast]; exact rsmall (by omega)) (by rw [ecast]; exact rsize) (fun j m news => m "laid" = some (.ref D10) ∧ m "least" = some (.ref D11) ∧ m "k" = some (.int (i : Nat) t2) ∧ news = [(I, oI), (D10, listOf ys3.toArray ys3.length), (D11, listOf ys4.toArray ys4.length)])
                ⟨B0, X, T, dicts0, KtsTurn.refl⟩ F15 N15 ⟨rfl, rfl, rfl, rfl⟩ ?_ ?_)
              · intro j t3 I2 oI2 g5 m5 news5 h5' tk5 hj5 hJ off2 G5 F16 N16
                obtain ⟨e5, e6, e7, rfl⟩ := hJ
                have F17 : Fr s₁.heap s₁.heap.objs.size h5' (fun y => if y = "k" then some (.int (i : Nat) t2) else if y = "least" then some (.ref D11) else if y = "laid" then some (.ref D10) else if y = "h" then some (.int (j : Nat) t3) else m5 y) := fr_pin (fr_pin (fr_pin (turn0_fr G5.Tn F16) (by (repeat refine (if_neg (by decide)).trans ?_); exact e5)) (by (repeat refine (if_neg (by decide)).trans ?_); exact e6)) (by (repeat refine (if_neg (by decide)).trans ?_); exact e7)
                have N17 := turn0_news G5.Tn N16
                clear F16 N16
                have hxh : ((List.range 5).map fB)[((j : Nat) : Int).toNat]? = some (fB j) := by
                  rw [Int.toNat_natCast, List.getElem?_map, List.getElem?_range (by omega)]; rfl
                have hr := hrat' i j (by omega)
                k_steps
                (rename Fr _ _ _ _ => F18); (rename News _ _ _ _ => N18)
                exact ⟨s₁.heap, _, _, _, _, rfl, ⟨B0, X, T, dicts0, KtsTurn.refl⟩, F18, N18, off2, rfl, rfl, rfl, rfl⟩
              · intro g5 m5 news5 h5' tk5 hJ G5 F16 N16
                obtain ⟨e5, e6, e7, rfl⟩ := hJ
                have F17 := turn0_fr G5.Tn F16
                have N17 := turn0_news G5.Tn N16
                clear F16 N16
                k_steps
                (rename Fr _ _ _ _ => F18); (rename News _ _ _ _ => N18)
                exact ⟨s₁.heap, _, _, _, _, rfl, ⟨B0, X, T, dicts0, KtsTurn.refl⟩, F18, N18, off, e5, e6, rfl⟩
            · intro g4 m4 news4 h4 tk4 hJ G4 F13 N13
              obtain ⟨e3, e4, rfl⟩ := hJ
              have F14 : Fr s₁.heap s₁.heap.objs.size h4 (fun y => if y = "laid" then some (.ref D10) else m4 y) := fr_pin (turn0_fr G4.Tn F13) e3
              have N14 := turn0_news G4.Tn N13
              clear F13 N13
              k_steps
              (rename Fr _ _ _ _ => F15); (rename News _ _ _ _ => N15)
              show wpAny _ _ (call (.builtin "sorted") [.ref D10] [(PySem.Str.ofString "reverse", .bool true)]) _ _ _
              refine ksk_rev F15 N15 (PySem.IsL.isList (n := ys3.length) (N15 (D10, listOf ys3.toArray ys3.length) (.head _)).1) hlaid' (by simp) (fun D12 vs12 ns12 c12 h12 F16 N16 l16 hi16 hlen16 hp16 ho16 hb16 => ?_)
              have hsame : ns12 = (List.range 5).map fA := by
                refine List.Perm.eq_of_pairwise (le := fun x y => y ≤ x) (fun a b _ _ h1 h2 => Int.le_antisymm h2 h1) (by simpa using ho16) (anti_pairwise hanti') hp16
              subst hsame
              refine eq_intsK (PySem.IsL.isList (n := ys3.length) (N16 (D10, listOf ys3.toArray ys3.length) (.tail _ (.head _))).1) hlaid' (PySem.IsL.isList (n := c12) (N16 (D12, listOf vs12.toArray c12) (.head _)).1) hi16 (Nat.le_of_ble_eq_true rfl) ?_
              rw [decide_eq_true rfl]
              k_steps)

end
end Mine

end
open PySem PySem.W PyProof.Rows
set_option maxRecDepth 100000 in
set_option maxHeartbeats 8000000 in
theorem PySem.Challenge.cw_bw0012_01_holds : PySem.Challenge.rw_bw0012_01.Holds := by
  exact Mine.law_walk
